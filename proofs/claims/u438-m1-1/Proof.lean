import JvmDerived
import JvmDerived.Pilot.@@N@@Statement
import JvmDerived.Pilot.@@N@@Code
set_option linter.unusedVariables false
set_option linter.unusedSimpArgs false
namespace Jvm.RoadKit
open Sem ClassFile Op Lib Jvm.Stand Jvm.Free Jvm.LawKit
section New
variable {p : Program} {l : Launch} {e : Env} {R : Room} {s : State} {m : MethodId} {args : Array Value} {below : List Frame} {meth : Method} {c : Code} {T : State} {locs : List Loc} {cells slots : Nat}
theorem retI (X : Stand p l e R s m args below meth c T locs cells slots) (hx : p.tables.exec = Jvm.exec) {pc : Nat} {Ls : Array Slot} {z : Int32} {rest : List Value} (hret : meth.sig.returnType = some .int) (hd : decode c.code pc = .ok (.ireturn, 1)) {fs : List Frame}
    (hl : ∀ (f : JFrame) (acts : List Action), f.method = m → f.locked = none → f.entered = [] → (doReturn e (T.setTop f) acts (some (.int z))).1 = T.setFrames fs) : Steps p.tables e below (T.setTop (mkF m pc Ls (.int z :: rest))) (T.setFrames fs) := by
  have hm' : T.vm.method? m = some meth := X.method'
  have hn : narrow .int (.int z) = .int z := rfl
  show Steps p.tables e below (T.setTop { method := m, pc := pc, locals := Ls, stack := _ :: rest, locked := none }) _
  jvm_step X.here [X.here.top, hx, hd, hm', hret, hn]
  first | (intro acts; rw [hl _ acts rfl rfl rfl]) | rw [hl _ _ rfl rfl rfl]
  exact Steps.refl _
/-- a run from A that ends in an outcome with P -/
def Gl (tb : Tables) (e : Env) (below : List Frame) (P : Outcome → State → Prop) (A : State) : Prop := ∃ s₂ o, Steps tb e below A s₂ ∧ s₂.status = .running ∧ Ended s₂ below o ∧ P o s₂
theorem Gl.pre {tb : Tables} {e : Env} {below : List Frame} {P : Outcome → State → Prop} {A B : State} (h : ∀ t, Steps tb e below B t → Steps tb e below A t) (g : Gl tb e below P B) : Gl tb e below P A := by
  obtain ⟨s2, o, h1, r⟩ := g; exact ⟨s2, o, h _ h1, r⟩
theorem own_finI (X : Stand p l e R s m args below meth c T locs cells slots) (hx : p.tables.exec = Jvm.exec) (hlk : meth.locks = false) {pc : Nat} {Ls : Array Slot} {z : Int32} {rest : List Value} (hret : meth.sig.returnType = some .int) (hd : decode c.code pc = .ok (.ireturn, 1)) {Q : Option Value → Heap → List Loc → Prop} {C S : Nat}
    (hq : Q (some (.int z)) T.heap locs) (hc : cells ≤ C) (hs : slots ≤ S) : Gl p.tables e below (fun o U' => ∃ v L, o = .returned v ∧ Q v U'.heap L ∧ FrameEnd s o U' L C S) (T.setTop (mkF m pc Ls (.int z :: rest))) := by
  obtain ⟨fs, hr, hrun, hended, hW, hsame⟩ := X.leave (v := some (.int z)) (fun h => by rw [hret] at h; cases h) hlk
  exact ⟨_, _, retI X hx hret hd hr, hrun, hended, _, _, rfl, hq, ⟨_, rfl⟩, hW, hsame.mono hc hs⟩
theorem own_finN (X : Stand p l e R s m args below meth c T locs cells slots) (hx : p.tables.exec = Jvm.exec) (hlk : meth.locks = false) {pc : Nat} {Ls : Array Slot} {z z' : Int32} {rest : List Value} {t : FieldType} (hret : meth.sig.returnType = some t) (ht : t = .boolean ∨ t = .byte ∨ t = .char ∨ t = .short) (hz : nar t z = z') (hd : decode c.code pc = .ok (.ireturn, 1)) {Q : Option Value → Heap → List Loc → Prop} {C S : Nat}
    (hq : Q (some (.int z')) T.heap locs) (hc : cells ≤ C) (hs : slots ≤ S) : Gl p.tables e below (fun o U' => ∃ v L, o = .returned v ∧ Q v U'.heap L ∧ FrameEnd s o U' L C S) (T.setTop (mkF m pc Ls (.int z :: rest))) := by
  subst hz
  obtain ⟨fs, hr, hrun, hended, hW, hsame⟩ := X.leave (v := some (.int (nar t z))) (fun h => by rw [hret] at h; cases h) hlk
  exact ⟨_, _, retN X hx hret ht hd hr, hrun, hended, _, _, rfl, hq, ⟨_, rfl⟩, hW, hsame.mono hc hs⟩
theorem own_finV (X : Stand p l e R s m args below meth c T locs cells slots) (hx : p.tables.exec = Jvm.exec) (hlk : meth.locks = false) {pc : Nat} {Ls : Array Slot} (hret : meth.sig.returnType = none) (hd : decode c.code pc = .ok (.return_, 1)) {Q : Option Value → Heap → List Loc → Prop} {C S : Nat}
    (hq : Q none T.heap locs) (hc : cells ≤ C) (hs : slots ≤ S) : Gl p.tables e below (fun o U' => ∃ v L, o = .returned v ∧ Q v U'.heap L ∧ FrameEnd s o U' L C S) (T.setTop (mkF m pc Ls [])) := by
  obtain ⟨fs, hr, hrun, hended, hW, hsame⟩ := X.leave (v := none) (fun _ => rfl) hlk
  exact ⟨_, _, X.returnOut hx hret hd hr, hrun, hended, _, _, rfl, hq, ⟨_, rfl⟩, hW, hsame.mono hc hs⟩
theorem own_finA (X : Stand p l e R s m args below meth c T locs cells slots) (hx : p.tables.exec = Jvm.exec) (hlk : meth.locks = false) {pc : Nat} {Ls : Array Slot} {w : Value} {rest : List Value} {t : FieldType} (hret : meth.sig.returnType = some t) (hw : w.isRef = true) (ht : t.isReference = true) (hd : decode c.code pc = .ok (.areturn, 1)) {Q : Option Value → Heap → List Loc → Prop} {C S : Nat}
    (hq : Q (some w) T.heap locs) (hc : cells ≤ C) (hs : slots ≤ S) : Gl p.tables e below (fun o U' => ∃ v L, o = .returned v ∧ Q v U'.heap L ∧ FrameEnd s o U' L C S) (T.setTop (mkF m pc Ls (w :: rest))) := by
  obtain ⟨fs, hr, hrun, hended, hW, hsame⟩ := X.leave (v := some w) (fun h => by rw [hret] at h; cases h) hlk
  have hn : narrow t w = w := by rcases ref_cases hw with rfl | ⟨z, rfl⟩ <;> cases t <;> rfl
  exact ⟨_, _, retOut X hx hret hn (Or.inr (Or.inr (Or.inr (Or.inr ⟨rfl, ht, hw⟩)))) hd hr, hrun, hended, _, _, rfl, hq, ⟨_, rfl⟩, hW, hsame.mono hc hs⟩
/-- Java's >>> -/
def own_ushr (x y : Int32) : Int32 := (x.toUInt32 >>> (y &&& 31).toUInt32).toInt32
def own_ushrL (x : Int64) (y : Int32) : Int64 := (x.toUInt64 >>> (y &&& 0x3f).toInt64.toUInt64).toInt64
/-- 1 where P holds, else 0 -/
def own_pi (P : Prop) [Decidable P] : Int32 := if P then 1 else 0
theorem own_pi_t {P : Prop} [Decidable P] (h : P) : own_pi P = 1 := if_pos h
theorem own_pi_f {P : Prop} [Decidable P] (h : ¬ P) : own_pi P = 0 := if_neg h
theorem own_pi_nt {P : Prop} [Decidable P] (h : P) : own_pi (¬ P) = 0 := if_neg (fun q => q h)
theorem own_pi_nf {P : Prop} [Decidable P] (h : ¬ P) : own_pi (¬ P) = 1 := if_pos h
theorem own_pi0 {P : Prop} [Decidable P] : own_pi P = 0 ↔ ¬ P := by unfold own_pi; split <;> simp_all
theorem own_pi_eq {P Q : Prop} [Decidable P] [Decidable Q] (h : P ↔ Q) : own_pi P = own_pi Q := by unfold own_pi; simp [h]
theorem own_nar_pi {P : Prop} [i : Decidable P] : nar .boolean (@own_pi P i) = @own_pi P i := by unfold own_pi; split <;> decide
end New
/-- the array at a (of kind ty) holds the ints xs -/
def Bal (Z : State) (h : Heap) (a : Addr) (ty : FieldType) (xs : List Int32) : Prop := ∃ c : Cell, Arr Z h a c ty ∧ c.slots.size = xs.length ∧ ∀ i, i < xs.length → c.slots[i]? = some (.int (xs.getD i 0))
section Arrays
variable {Z : State} {h h' : Heap} {a b : Addr} {ty : FieldType} {xs : List Int32} {ws : List Addr}
theorem Bal.lt (F : Bal Z h a ty xs) : a < h.size := by obtain ⟨c, A, -⟩ := F; exact A.lt
theorem Bal.ext (F : Bal Z h a ty xs) (E : Ext h h') : Bal Z h' a ty xs := by obtain ⟨c, A, r⟩ := F; exact ⟨c, A.ext E, r⟩
theorem Bal.other {sl : Nat} {v : Value} (F : Bal Z h b ty xs) (W : Wr h h' a sl v) (q : b ≠ a) : Bal Z h' b ty xs := by obtain ⟨c, A, r⟩ := F; exact ⟨c, A.other W q, r⟩
theorem Bal.keep (F : Bal Z h a ty xs) (K : Keep h h' ws) (q : a ∉ ws) : Bal Z h' a ty xs := by obtain ⟨c, A, r⟩ := F; exact ⟨c, ⟨K.2.1 a c A.1 q, A.2⟩, r⟩
theorem Bal.new {k : ClassId} {z : Int32} {n : Nat} (A : Arr Z h a (newA k ty z) ty) (hz : z.toNatClampNeg = n) (hd : defaultValue ty = .int 0) : Bal Z h a ty (List.replicate n 0) := by
  subst hz
  refine ⟨_, A, by rw [sz_new, List.length_replicate], fun i hi => ?_⟩
  rw [List.length_replicate] at hi
  simp [newA, hd, hi, List.getD_eq_getElem?_getD]
theorem Bal.set {i : Nat} {v : Int32} (F : Bal Z h a ty xs) (W : Wr h h' a i (.int v)) (hi : i < xs.length) : Bal Z h' a ty (xs.set i v) := by
  obtain ⟨c, A, S, H⟩ := F
  refine ⟨_, A.same W, by rw [sz_set, S, List.length_set], fun k hk => ?_⟩
  rw [List.length_set] at hk
  show (c.slots.setIfInBounds i (.int v))[k]? = _
  rw [Array.getElem?_setIfInBounds, List.getD_eq_getElem?_getD, List.getElem?_set]
  by_cases q : i = k
  · subst q; simp [S, hk]
  · rw [if_neg q, if_neg q, ← List.getD_eq_getElem?_getD]; exact H k hk
theorem Bal.inb {c : Cell} {j : Int32} {i : Nat} (S : c.slots.size = xs.length) (h0 : ¬ j < 0) (hj : j.toNatClampNeg = i) (hi : i < xs.length) : ¬ (j < 0 ∨ c.slots.size ≤ j.toNatClampNeg) := by
  rintro (q | q)
  · exact h0 q
  · omega
variable {p : Program} {l : Launch} {e : Env} {R : Room} {s : State} {m : MethodId} {args : Array Value} {below : List Frame} {meth : Method} {c : Code} {T : State} {locs : List Loc} {cells slots : Nat}
theorem own_stB (X : Stand p l e R s m args below meth c T locs cells slots) (hx : p.tables.exec = Jvm.exec) (hZ : Z.Warmed39 s.vm) (eT : T.heap = h) (F : Bal Z h a .byte xs) {j x : Int32} {i : Nat} (h0 : ¬ j < 0) (hj : j.toNatClampNeg = i) (hi : i < xs.length) {g : JFrame} (hg : g.method = m) {rest : List Value} (hs : g.stack = .int x :: .int j :: .ref a :: rest) (hd : decode c.code g.pc = .ok (.bastore, 1)) :
    ∃ T' h', Stand p l e R s m args below meth c T' (locs ++ [⟨a, i⟩]) cells slots ∧ T'.heap = h' ∧ Wr h h' a i (.int (nar .byte x)) ∧ Bal Z h' a .byte (xs.set i (nar .byte x)) ∧ ∀ target, Steps p.tables e below (T'.setTop { g with pc := g.pc + 1, stack := rest }) target → Steps p.tables e below (T.setTop g) target := by
  have F' := F
  obtain ⟨cl, A, S, H⟩ := F
  obtain ⟨T', h', X', e', W, st⟩ := stB X hx hZ eT A (j := j) (Bal.inb S h0 hj hi) hg hs hd
  subst hj
  exact ⟨T', h', X', e', W, F'.set W hi, st⟩
theorem own_stC (X : Stand p l e R s m args below meth c T locs cells slots) (hx : p.tables.exec = Jvm.exec) (hZ : Z.Warmed39 s.vm) (eT : T.heap = h) (F : Bal Z h a .char xs) {j x : Int32} {i : Nat} (h0 : ¬ j < 0) (hj : j.toNatClampNeg = i) (hi : i < xs.length) {g : JFrame} (hg : g.method = m) {rest : List Value} (hs : g.stack = .int x :: .int j :: .ref a :: rest) (hd : decode c.code g.pc = .ok (.castore, 1)) :
    ∃ T' h', Stand p l e R s m args below meth c T' (locs ++ [⟨a, i⟩]) cells slots ∧ T'.heap = h' ∧ Wr h h' a i (.int (nar .char x)) ∧ Bal Z h' a .char (xs.set i (nar .char x)) ∧ ∀ target, Steps p.tables e below (T'.setTop { g with pc := g.pc + 1, stack := rest }) target → Steps p.tables e below (T.setTop g) target := by
  have F' := F
  obtain ⟨cl, A, S, H⟩ := F
  obtain ⟨T', h', X', e', W, st⟩ := stC X hx hZ eT A (j := j) (Bal.inb S h0 hj hi) hg hs hd
  subst hj
  exact ⟨T', h', X', e', W, F'.set W hi, st⟩
theorem own_ldB (X : Stand p l e R s m args below meth c T locs cells slots) (hx : p.tables.exec = Jvm.exec) (hZ : Z.Warmed39 s.vm) (eT : T.heap = h) (F : Bal Z h a .byte xs) {j : Int32} {i : Nat} (h0 : ¬ j < 0) (hj : j.toNatClampNeg = i) (hi : i < xs.length) {v : Int32} (hv : xs.getD i 0 = v) {g : JFrame} (hg : g.method = m) {rest : List Value} (hs : g.stack = .int j :: .ref a :: rest) (hd : decode c.code g.pc = .ok (.baload, 1)) (target : State)
    (k : Steps p.tables e below (T.setTop { g with pc := g.pc + 1, stack := .int v :: rest }) target) : Steps p.tables e below (T.setTop g) target := by
  obtain ⟨cl, A, S, H⟩ := F
  subst hv
  exact X.baloadBytes hx (j := j) (v := .int (xs.getD i 0)) (by rw [eT]; exact A.1) (State.isArrayOf_alike hZ.alike A.2.1) A.2.2 (Bal.inb S h0 hj hi) (by rw [hj]; exact H i hi) hg hs hd _ k
theorem own_ldC (X : Stand p l e R s m args below meth c T locs cells slots) (hx : p.tables.exec = Jvm.exec) (hZ : Z.Warmed39 s.vm) (eT : T.heap = h) (F : Bal Z h a .char xs) {j : Int32} {i : Nat} (h0 : ¬ j < 0) (hj : j.toNatClampNeg = i) (hi : i < xs.length) {v : Int32} (hv : xs.getD i 0 = v) {g : JFrame} (hg : g.method = m) {rest : List Value} (hs : g.stack = .int j :: .ref a :: rest) (hd : decode c.code g.pc = .ok (.caload, 1)) (target : State)
    (k : Steps p.tables e below (T.setTop { g with pc := g.pc + 1, stack := .int v :: rest }) target) : Steps p.tables e below (T.setTop g) target := by
  obtain ⟨cl, A, S, H⟩ := F
  subst hv
  exact X.caload hx (j := j) (v := .int (xs.getD i 0)) (by rw [eT]; exact A.1) (State.isArrayOf_alike hZ.alike A.2.1) A.2.2 (Bal.inb S h0 hj hi) (by rw [hj]; exact H i hi) hg hs hd _ k
theorem own_len (X : Stand p l e R s m args below meth c T locs cells slots) (hx : p.tables.exec = Jvm.exec) (hZ : Z.Warmed39 s.vm) (eT : T.heap = h) (F : Bal Z h a ty xs) {v : Int32} (hv : xs.length.toInt32 = v) {g : JFrame} (hg : g.method = m) {rest : List Value} (hs : g.stack = .ref a :: rest) (hd : decode c.code g.pc = .ok (.arraylength, 1)) (target : State)
    (k : Steps p.tables e below (T.setTop { g with pc := g.pc + 1, stack := .int v :: rest }) target) : Steps p.tables e below (T.setTop g) target := by
  obtain ⟨cl, A, S, H⟩ := F
  subst hv
  refine X.arraylength hx (by rw [eT]; exact A.1) (State.isArrayOf_alike hZ.alike A.2.1) hg hs hd _ ?_
  rw [S]; exact k
theorem own_balOf {k : ClassId} {z : Int32} (F : Arv Z h a k .byte z (xs.map Value.int) (.int 0)) (hz : z.toNatClampNeg = xs.length) : Bal Z h a .byte xs := by
  obtain ⟨c, A, -, S, -, H, -⟩ := F
  refine ⟨c, A, by rw [S, hz], fun i hi => ?_⟩
  have q := H i (by rw [S, hz]; exact hi)
  rw [q]
  simp [List.getD_eq_getElem?_getD, List.getElem?_map, List.getElem?_eq_getElem hi]
theorem own_arvC (F : Bal Z h a .char xs) (hf : ∀ x ∈ xs, fits .char (.int x) = true) (hl : xs.length < 2 ^ 31) : ∃ k, Arv Z h a k .char (Int32.ofNat xs.length) (xs.map Value.int) (.int 0) := by
  obtain ⟨c, A, S, H⟩ := F
  have hi : (Int32.ofNat xs.length).toInt = xs.length := Int32.toInt_ofNat_of_lt hl
  refine ⟨c.cls, c, A, rfl, ?_, ?_, ?_, ?_⟩
  · rw [S, Int32.toNatClampNeg, hi]; rfl
  · rw [Int32.lt_iff_toInt_lt, hi, show (0 : Int32).toInt = 0 from rfl]; omega
  · intro i hi'
    rw [S] at hi'
    rw [H i hi']
    simp [List.getD_eq_getElem?_getD, List.getElem?_map, List.getElem?_eq_getElem hi']
  · intro i hi'
    rw [S] at hi'
    have : (xs.map Value.int).getD i (.int 0) = .int xs[i] := by simp [List.getD_eq_getElem?_getD, List.getElem?_map, List.getElem?_eq_getElem hi']
    rw [this]; exact hf _ (List.getElem_mem hi')
theorem own_piN {P : Prop} [Decidable P] : (¬ own_pi P = 0) ↔ P := by unfold own_pi; split <;> simp_all
end Arrays
section Wide
variable {p : Program} {l : Launch} {e : Env} {R : Room} {s Z : State} {EL : List (String × Nat)} {vm0 : Vm} {k0 : Nat} {m : MethodId} {args : Array Value} {below : List Frame} {meth : Method} {c : Code} {T : State} {locs : List Loc} {cells slots : Nat}
theorem own_monoW {t : State} {o : Outcome} {L : List Loc} {k n k' n' : Nat} (h : ReturnedEndW s o t L k n) (hk : k ≤ k') (hn : n ≤ n') : ReturnedEndW s o t L k' n' := ⟨h.1, h.2.1, h.2.2.1, h.2.2.2.mono hk hn⟩
theorem own_finIW (X : Stand p l e R (s.setVm vm0) m args below meth c T locs cells slots) (hx : p.tables.exec = Jvm.exec) (hlk : meth.locks = false) (hS : s.Since vm0 k0) (hk : k0 ≤ T.heap.size) {pc : Nat} {Ls : Array Slot} {z : Int32} {rest : List Value} (hret : meth.sig.returnType = some .int) (hd : decode c.code pc = .ok (.ireturn, 1)) {Q : Option Value → Heap → List Loc → Prop} {C S : Nat}
    (hq : Q (some (.int z)) T.heap locs) (hC : CHr Z EL s.vm s.heap T.vm T.heap) (hc : cells ≤ C) (hs : slots ≤ S) : Gl p.tables e below (fun o U' => ∃ v L, o = .returned v ∧ Q v U'.heap L ∧ CHr Z EL s.vm s.heap U'.vm U'.heap ∧ ReturnedEndW s o U' L C S) (T.setTop (mkF m pc Ls (.int z :: rest))) := by
  obtain ⟨fs, hr, hrun, hended, hW⟩ := X.leaveW hS hk (v := some (.int z)) (fun h => by rw [hret] at h; cases h) hlk
  exact ⟨_, _, retI X hx hret hd hr, hrun, hended, _, _, rfl, hq, hC, own_monoW hW hc hs⟩
theorem own_finNW (X : Stand p l e R (s.setVm vm0) m args below meth c T locs cells slots) (hx : p.tables.exec = Jvm.exec) (hlk : meth.locks = false) (hS : s.Since vm0 k0) (hk : k0 ≤ T.heap.size) {pc : Nat} {Ls : Array Slot} {z z' : Int32} {rest : List Value} {t : FieldType} (hret : meth.sig.returnType = some t) (ht : t = .boolean ∨ t = .byte ∨ t = .char ∨ t = .short) (hz : nar t z = z') (hd : decode c.code pc = .ok (.ireturn, 1)) {Q : Option Value → Heap → List Loc → Prop} {C S : Nat}
    (hq : Q (some (.int z')) T.heap locs) (hC : CHr Z EL s.vm s.heap T.vm T.heap) (hc : cells ≤ C) (hs : slots ≤ S) : Gl p.tables e below (fun o U' => ∃ v L, o = .returned v ∧ Q v U'.heap L ∧ CHr Z EL s.vm s.heap U'.vm U'.heap ∧ ReturnedEndW s o U' L C S) (T.setTop (mkF m pc Ls (.int z :: rest))) := by
  subst hz
  obtain ⟨fs, hr, hrun, hended, hW⟩ := X.leaveW hS hk (v := some (.int (nar t z))) (fun h => by rw [hret] at h; cases h) hlk
  exact ⟨_, _, retN X hx hret ht hd hr, hrun, hended, _, _, rfl, hq, hC, own_monoW hW hc hs⟩
theorem own_finVW (X : Stand p l e R (s.setVm vm0) m args below meth c T locs cells slots) (hx : p.tables.exec = Jvm.exec) (hlk : meth.locks = false) (hS : s.Since vm0 k0) (hk : k0 ≤ T.heap.size) {pc : Nat} {Ls : Array Slot} (hret : meth.sig.returnType = none) (hd : decode c.code pc = .ok (.return_, 1)) {Q : Option Value → Heap → List Loc → Prop} {C S : Nat}
    (hq : Q none T.heap locs) (hC : CHr Z EL s.vm s.heap T.vm T.heap) (hc : cells ≤ C) (hs : slots ≤ S) : Gl p.tables e below (fun o U' => ∃ v L, o = .returned v ∧ Q v U'.heap L ∧ CHr Z EL s.vm s.heap U'.vm U'.heap ∧ ReturnedEndW s o U' L C S) (T.setTop (mkF m pc Ls [])) := by
  obtain ⟨fs, hr, hrun, hended, hW⟩ := X.leaveW hS hk (v := none) (fun _ => rfl) hlk
  exact ⟨_, _, X.returnOut hx hret hd hr, hrun, hended, _, _, rfl, hq, hC, own_monoW hW hc hs⟩
theorem own_finAW (X : Stand p l e R (s.setVm vm0) m args below meth c T locs cells slots) (hx : p.tables.exec = Jvm.exec) (hlk : meth.locks = false) (hS : s.Since vm0 k0) (hk : k0 ≤ T.heap.size) {pc : Nat} {Ls : Array Slot} {w : Value} {rest : List Value} {t : FieldType} (hret : meth.sig.returnType = some t) (hw : w.isRef = true) (ht : t.isReference = true) (hd : decode c.code pc = .ok (.areturn, 1)) {Q : Option Value → Heap → List Loc → Prop} {C S : Nat}
    (hq : Q (some w) T.heap locs) (hC : CHr Z EL s.vm s.heap T.vm T.heap) (hc : cells ≤ C) (hs : slots ≤ S) : Gl p.tables e below (fun o U' => ∃ v L, o = .returned v ∧ Q v U'.heap L ∧ CHr Z EL s.vm s.heap U'.vm U'.heap ∧ ReturnedEndW s o U' L C S) (T.setTop (mkF m pc Ls (w :: rest))) := by
  obtain ⟨fs, hr, hrun, hended, hW⟩ := X.leaveW hS hk (v := some w) (fun h => by rw [hret] at h; cases h) hlk
  have hn : narrow t w = w := by rcases ref_cases hw with rfl | ⟨z, rfl⟩ <;> cases t <;> rfl
  exact ⟨_, _, retOut X hx hret hn (Or.inr (Or.inr (Or.inr (Or.inr ⟨rfl, ht, hw⟩)))) hd hr, hrun, hended, _, _, rfl, hq, hC, own_monoW hW hc hs⟩
/-- a callee that keeps the constants' invariant; SL: objects that it may write, none of them a constant's -/
theorem own_backH {a0 : Array Value} {h : Heap} {y : MethodName} {bytes : ByteArray} {maxL : Nat} {ret : Option FieldType} {rm : Room} {len W : Nat} {as' : Array Value} {Q : Option Value → Heap → List Loc → Prop} {SL : List Addr}
    (hM : MetFree l y (head1 [Cond.code y bytes maxL ret] rm) (fun a U => a = as' ∧ Z.Warmed39 U.vm ∧ U.heap = h ∧ CHv Z EL U.vm h ∧ ∀ x ∈ SL, Safe Z EL U.vm h x) (fun _ _ _ _ _ => True) (fun _ U o U' => ∃ v L, o = .returned v ∧ Q v U'.heap L ∧ CHr Z EL U.vm U.heap U'.vm U'.heap ∧ ReturnedEndW U o U' L rm.cells rm.slots))
    (hZ : Z.Warmed39 vm0) (wc : (Cond.code y bytes maxL ret).before a0 Z = true) (wz : (Cond.initialized y.cls).before a0 Z = true) (hf : rm.frames + 1 ≤ R.frames) (hl : W + (maxL + 11) + rm.locals ≤ R.locals) (hEL : EW Z a0 EL) (H : CHv Z EL vm0 h) (hSL : ∀ x ∈ SL, x < h.size ∧ Safe Z EL vm0 h x) :
    BackS l R p e below (s.setVm vm0) args y len W (fun A a => a = as' ∧ A.U.heap = h ∧ A.cells + rm.cells ≤ R.cells ∧ A.slots + rm.slots ≤ R.slots)
      (fun A _ v B => ∃ L, Q v B.U.heap L ∧ B.locs = A.locs ++ L ∧ B.cells = A.cells + rm.cells ∧ B.slots = A.slots + rm.slots ∧ CHr Z EL vm0 h B.U.vm B.U.heap) := by
  refine BackS.of_freeW (bytes := bytes) (maxL := maxL) (ret := ret) (E := fun _ first o t L k n => k = rm.cells ∧ n = rm.slots ∧ (∃ v, o = .returned v ∧ Q v t.heap L) ∧ CHr Z EL first.vm first.heap t.vm t.heap) hM hf hl ?_ ?_ (fun _ _ _ _ _ _ _ _ _ => trivial) (fun _ _ _ _ ⟨v, L, h1, h2, h3, h4⟩ => ⟨L, _, _, h4, rfl, rfl, ⟨v, h1, h2⟩, h3⟩) ?_
  · intro m meth c A a Y hp
    have hU : Z.Warmed39 A.U.vm := wtrans (s := s.setVm vm0) hZ Y.warmed
    refine ⟨?_, mv hU wc, mv hU wz, hp.2.2.1, hp.2.2.2⟩
    show (Cond.and _ .tt).before a A.U = true
    rw [Cond.before_and, mv hU wc]; rfl
  · intro m meth c A a g mk Y hp
    have q := CHv.at Y hZ hEL H
    exact ⟨hp.1, wtrans (s := s.setVm vm0) hZ Y.warmed, hp.2.1, q.1, fun x hx => q.safe (hSL x hx).1 (hSL x hx).2⟩
  · rintro m meth c A a g mk v t L k n Y hp _ _ ⟨e1, e2, ⟨v', e3, e4⟩, e5⟩
    cases e3; subst e1 e2
    refine ⟨L, e4, rfl, rfl, rfl, (CHv.at Y hZ hEL H).trans ?_⟩
    rw [← hp.2.1]; exact e5
end Wide
theorem own_fits_pi {P : Prop} [i : Decidable P] : fits .boolean (.int (@own_pi P i)) = true := by unfold own_pi; split <;> rfl
/-- the array at a, of the class k over C, holds the values vs -/
def Ral (Z : State) (h : Heap) (a : Addr) (k : ClassId) (C : String) (vs : List Value) : Prop := ∃ c : Cell, Arr Z h a c (.object C) ∧ c.cls = k ∧ c.slots.size = vs.length ∧ ∀ i, i < vs.length → c.slots[i]? = some (vs.getD i .null)
section Refs
variable {Z : State} {h h' : Heap} {a b : Addr} {k : ClassId} {C : String} {vs : List Value} {ws : List Addr}
theorem Ral.lt (F : Ral Z h a k C vs) : a < h.size := by obtain ⟨c, A, -⟩ := F; exact A.lt
theorem Ral.ext (F : Ral Z h a k C vs) (E : Ext h h') : Ral Z h' a k C vs := by obtain ⟨c, A, r⟩ := F; exact ⟨c, A.ext E, r⟩
theorem Ral.other {sl : Nat} {v : Value} (F : Ral Z h b k C vs) (W : Wr h h' a sl v) (q : b ≠ a) : Ral Z h' b k C vs := by obtain ⟨c, A, r⟩ := F; exact ⟨c, A.other W q, r⟩
theorem Ral.keep (F : Ral Z h a k C vs) (K : Keep h h' ws) (q : a ∉ ws) : Ral Z h' a k C vs := by obtain ⟨c, A, r⟩ := F; exact ⟨c, ⟨K.2.1 a c A.1 q, A.2⟩, r⟩
theorem Ral.new {z : Int32} {n : Nat} (A : Arr Z h a (newA k (.object C) z) (.object C)) (hz : z.toNatClampNeg = n) : Ral Z h a k C (List.replicate n .null) := by
  subst hz
  refine ⟨_, A, rfl, by rw [sz_new, List.length_replicate], fun i hi => ?_⟩
  rw [List.length_replicate] at hi
  simp [newA, defaultValue, hi, List.getD_eq_getElem?_getD]
theorem Ral.set {i : Nat} {v : Value} (F : Ral Z h a k C vs) (W : Wr h h' a i v) (hi : i < vs.length) : Ral Z h' a k C (vs.set i v) := by
  obtain ⟨c, A, q0, S, H⟩ := F
  refine ⟨_, A.same W, q0, by rw [sz_set, S, List.length_set], fun k hk => ?_⟩
  rw [List.length_set] at hk
  show (c.slots.setIfInBounds i v)[k]? = _
  rw [Array.getElem?_setIfInBounds, List.getD_eq_getElem?_getD, List.getElem?_set]
  by_cases q : i = k
  · subst q; simp [S, hk]
  · rw [if_neg q, if_neg q, ← List.getD_eq_getElem?_getD]; exact H k hk
variable {p : Program} {l : Launch} {e : Env} {R : Room} {s : State} {m : MethodId} {args : Array Value} {below : List Frame} {meth : Method} {c : Code} {T : State} {locs : List Loc} {cells slots : Nat}
theorem own_stR (X : Stand p l e R s m args below meth c T locs cells slots) (hx : p.tables.exec = Jvm.exec) (hZ : Z.Warmed39 s.vm) (eT : T.heap = h) (F : Ral Z h a k C vs) (O : Ovr Z k C) {y : Addr} (I : Ins Z h y C true) {j : Int32} {i : Nat} (h0 : ¬ j < 0) (hj : j.toNatClampNeg = i) (hi : i < vs.length) {g : JFrame} (hg : g.method = m) {rest : List Value} (hs : g.stack = .ref y :: .int j :: .ref a :: rest) (hd : decode c.code g.pc = .ok (.aastore, 1)) :
    ∃ T' h', Stand p l e R s m args below meth c T' (locs ++ [⟨a, i⟩]) cells slots ∧ T'.heap = h' ∧ Wr h h' a i (.ref y) ∧ Ral Z h' a k C (vs.set i (.ref y)) ∧ ∀ target, Steps p.tables e below (T'.setTop { g with pc := g.pc + 1, stack := rest }) target → Steps p.tables e below (T.setTop g) target := by
  have F' := F
  obtain ⟨cl, A, q0, S, H⟩ := F
  have hin : ¬ (j < 0 ∨ cl.slots.size ≤ j.toNatClampNeg) := by
    rintro (q | q)
    · exact h0 q
    · omega
  subst q0
  obtain ⟨T', h', X', e', W, st⟩ := stR X hx hZ eT A (j := j) hin rfl (Sto.of A O I) hg hs hd
  subst hj
  exact ⟨T', h', X', e', W, F'.set W hi, st⟩
theorem own_ldR (X : Stand p l e R s m args below meth c T locs cells slots) (hx : p.tables.exec = Jvm.exec) (hZ : Z.Warmed39 s.vm) (eT : T.heap = h) (F : Ral Z h a k C vs) {j : Int32} {i : Nat} (h0 : ¬ j < 0) (hj : j.toNatClampNeg = i) (hi : i < vs.length) {v : Value} (hv : vs.getD i .null = v) {g : JFrame} (hg : g.method = m) {rest : List Value} (hs : g.stack = .int j :: .ref a :: rest) (hd : decode c.code g.pc = .ok (.aaload, 1)) (target : State)
    (kk : Steps p.tables e below (T.setTop { g with pc := g.pc + 1, stack := v :: rest }) target) : Steps p.tables e below (T.setTop g) target := by
  obtain ⟨cl, A, q0, S, H⟩ := F
  have hin : ¬ (j < 0 ∨ cl.slots.size ≤ j.toNatClampNeg) := by
    rintro (q | q)
    · exact h0 q
    · omega
  subst hv
  exact X.aaload hx (j := j) (v := vs.getD i .null) (by rw [eT]; exact A.1) (State.isArrayOf_alike hZ.alike A.2.1) rfl A.2.2 hin (by rw [hj]; exact H i hi) hg hs hd _ kk
end Refs
section Starts
variable {s : State} {args : Array Value} {t : Term} {a : Addr} {C n d : String}
theorem own_fldI {z : Int32} (ev : t.eval args s none [] s = some (.ref a)) (h : (Cond.eq (Term.field t C n d) (Term.int z)).value args s none s [] = some true) : Fld s s.heap a C n d (.int z) := by
  refine Fld.start ?_
  rw [← fld_at (args := args) (first := s) (o := none) (idx := []) ev]
  cases hf : (Term.field t C n d).eval args s none [] s with
  | none => simp [Cond.value, hf] at h
  | some x =>
    have hz : (Term.int z).eval args s none [] s = some (.int z) := rfl
    cases x <;> simp [Cond.value, hf, hz] at h
    rw [h]
theorem own_fldN (ev : t.eval args s none [] s = some (.ref a)) (h : (Cond.eq (Term.field t C n d) Term.null).value args s none s [] = some true) : Fld s s.heap a C n d .null := by
  refine Fld.start ?_
  rw [← fld_at (args := args) (first := s) (o := none) (idx := []) ev]
  exact null_v h
theorem own_fldE {K : String} (ev : t.eval args s none [] s = some (.ref a)) (h : (Cond.exactly (Term.field t C n d) K).value args s none s [] = some true) : ∃ y, Fld s s.heap a C n d (.ref y) := by
  obtain ⟨y, hy⟩ := exa_v h
  refine ⟨y, Fld.start ?_⟩
  rw [← fld_at (args := args) (first := s) (o := none) (idx := []) ev]
  exact hy
theorem own_fldS {u : Term} {b : Addr} (ev : t.eval args s none [] s = some (.ref a)) (eu : u.eval args s none [] s = some (.ref b)) (h : (Cond.eq (Term.field t C n d) u).value args s none s [] = some true) : Fld s s.heap a C n d (.ref b) := by
  refine Fld.start ?_
  rw [← fld_at (args := args) (first := s) (o := none) (idx := []) ev]
  cases hf : (Term.field t C n d).eval args s none [] s with
  | none => simp [Cond.value, hf] at h
  | some x =>
    cases x <;> simp [Cond.value, hf, eu] at h
    rw [h]
theorem own_statI {t : Term} {z : Int32} (h : (Cond.eq t (Term.int z)).value args s none s [] = some true) : t.eval args s none [] s = some (.int z) := by
  cases hf : t.eval args s none [] s with
  | none => simp [Cond.value, hf] at h
  | some x =>
    have hz : (Term.int z).eval args s none [] s = some (.int z) := rfl
    cases x <;> simp [Cond.value, hf, hz] at h
    rw [h]
theorem own_empty {cl : Cell} {ty : FieldType} (ev : t.eval args s none [] s = some (.ref a)) (A : Arr s s.heap a cl ty) (h : (Cond.eq (Term.length t) (Term.int 0)).value args s none s [] = some true) : Bal s s.heap a ty [] := by
  have ha : s.arrayAt? a = some cl := A.fin (Vm.Alike.refl _)
  have hsz : cl.slots.size = 0 := by
    by_cases hl : cl.slots.size < 2 ^ 31
    · have hv := len_f (args := args) (first := s) (o := none) (idx := []) ev ha hl
      have hz : (Term.int 0).eval args s none [] s = some (.int 0) := rfl
      simp only [Cond.value, hv, hz] at h
      have q := len_toInt hl
      have q2 : cl.slots.size.toInt32 = 0 := by simpa using h
      rw [q2] at q
      have : (0 : Int32).toInt = 0 := rfl
      omega
    · exfalso
      cases hf : (Term.length t).eval args s none [] s with
      | none => simp [Cond.value, hf] at h
      | some x => simp [Term.eval, ev, ha, hl] at hf
  exact ⟨cl, A, hsz, fun i hi => absurd hi (Nat.not_lt_zero i)⟩
end Starts
end Jvm.RoadKit
namespace Jvm.Pilot.@@N@@
open Jvm Jvm.ClassFile Sem Op Lib Jvm.Free Jvm.Stand Jvm.LawKit Jvm.RoadKit Bundle Jvm.Pilot.@@N@@.Jvm.D
theorem own_sep (x : Int32) : (¬ (x < (0 : Int32)) ∧ ¬ ((2 : Int32) < x)) ↔ (x = 0 ∨ x = 1 ∨ x = 2) := by
  have a0 : (0 : Int32).toInt = 0 := rfl
  have a1 : (1 : Int32).toInt = 1 := rfl
  have a2 : (2 : Int32).toInt = 2 := rfl
  simp only [Int32.lt_iff_toInt_lt, ← Int32.toInt_inj, a0, a1, a2]
  omega
def own_ne (x0 x1 x2 x3 : Int32) : Int32 := if ¬ (x0 < (0 : Int32)) ∧ ¬ ((2 : Int32) < x0) then 0 else if ¬ (x1 < (0 : Int32)) ∧ ¬ ((2 : Int32) < x1) then 1 else if ¬ (x2 < (0 : Int32)) ∧ ¬ ((2 : Int32) < x2) then 2 else if ¬ (x3 < (0 : Int32)) ∧ ¬ ((2 : Int32) < x3) then 3 else 4
theorem own_n3 (a b c : Prop) (h1 : ¬ a) (h2 : ¬ b) (h3 : ¬ c) : ¬ (a ∨ b ∨ c) := by simp [h1, h2, h3]
theorem own_x4 (p : Int32) : (nar .byte (((p &&& (2147483647 : Int32)) % (3 : Int32)).toInt8.toInt32)) = 0 ∨ (nar .byte (((p &&& (2147483647 : Int32)) % (3 : Int32)).toInt8.toInt32)) = 1 ∨ (nar .byte (((p &&& (2147483647 : Int32)) % (3 : Int32)).toInt8.toInt32)) = 2 := by
  have e1 := c_mask p 2147483647 31 (by decide) (by decide)
  have e2 := (c_irem (p &&& (2147483647 : Int32)) 3 3 rfl).1 (by omega)
  have h : (p &&& (2147483647 : Int32)) % (3 : Int32) = 0 ∨ (p &&& (2147483647 : Int32)) % (3 : Int32) = 1 ∨ (p &&& (2147483647 : Int32)) % (3 : Int32) = 2 := by
    have a0 : (0 : Int32).toInt = 0 := rfl
    have a1 : (1 : Int32).toInt = 1 := rfl
    have a2 : (2 : Int32).toInt = 2 := rfl
    simp only [← Int32.toInt_inj, a0, a1, a2]
    omega
  rcases h with h | h | h <;> rw [h] <;> decide
theorem pd_0 : parseMethodDescriptor "(B)Z" = some ⟨[.byte], some .boolean⟩ := by decide +kernel
theorem pd_1 : parseMethodDescriptor "([B)I" = some ⟨[(.array .byte)], some .int⟩ := by decide +kernel
theorem d1_0 : decode method_2_code 0 = .ok (.iload_n 0, 1) := by decide +kernel
theorem d1_1 : decode method_2_code 1 = .ok (.ifCond .lt 12, 3) := by decide +kernel
theorem d1_4 : decode method_2_code 4 = .ok (.iload_n 0, 1) := by decide +kernel
theorem d1_5 : decode method_2_code 5 = .ok (.iconst 2, 1) := by decide +kernel
theorem d1_6 : decode method_2_code 6 = .ok (.if_icmp .gt 7, 3) := by decide +kernel
theorem d1_9 : decode method_2_code 9 = .ok (.iconst 1, 1) := by decide +kernel
theorem d1_10 : decode method_2_code 10 = .ok (.goto 4, 3) := by decide +kernel
theorem d1_13 : decode method_2_code 13 = .ok (.iconst 0, 1) := by decide +kernel
theorem d1_14 : decode method_2_code 14 = .ok (.ireturn, 1) := by decide +kernel
theorem pn_1 : plainName "com/example/hermod/hermod/RecordKeysNameEndPinLaw" = true := by first | (simp [plainName, overriddenIn]; done) | decide +kernel
theorem ef_1 (m : MethodId) (p1 : Int32) : entryFrame m #[(.int p1)] 1 = mkF m 0 #[.val (.int p1)] [] := by first | (simp [entryFrame, mkF, argsToLocals, Value.category]; done) | rfl
def Q1 (Z : State) (p1 : Int32) (h0 : Heap) (n0 : Nat) (v : Option Value) (h : Heap) (L : List Loc) : Prop := v = some (.int (own_pi (¬ (p1 < (0 : Int32)) ∧ ¬ ((2 : Int32) < p1)))) ∧ Fr n0 L ∧ h = h0
set_option maxRecDepth 65536 in
set_option maxHeartbeats 40000000 in
theorem rm1 (l : Launch) (Z : State) (a0 : Array Value) (hw : ∀ d ∈ tables_1, d.before a0 Z = true) (ws : List Jvm.Cond) (p1 : Int32) (h0 : Heap) (n0 : Nat) (Z0 : n0 ≤ h0.size)  :
    MetFree l (⟨"com/example/hermod/hermod/RecordKeysNameEndPinLaw", "isSep", "(B)Z"⟩ : MethodName) (head1 (Jvm.Cond.code (⟨"com/example/hermod/hermod/RecordKeysNameEndPinLaw", "isSep", "(B)Z"⟩ : MethodName) method_2_code 1 (some .boolean) :: ws) ({ frames := 0, cells := 0, slots := 0, locals := 0 } : Room)) (fun a U => a = #[(.int p1)] ∧ Z.Warmed39 U.vm ∧ U.heap = h0) (fun _ _ _ _ _ => True) (fun _ U o U' => ∃ v L, o = .returned v ∧ Q1 Z p1 h0 n0 v U'.heap L ∧ FrameEnd U o U' L ({ frames := 0, cells := 0, slots := 0, locals := 0 } : Room).cells ({ frames := 0, cells := 0, slots := 0, locals := 0 } : Room).slots) := by
  refine MetFree.of_bodySF (plainFor_of_name pn_1) hisR ?_
  intro p e s m args below meth c s₁ Bd hml0 hP hK
  obtain ⟨rfl, hZ, hh⟩ := hP
  have hx := Bd.exec
  have hby := Bd.bytes
  have hlk : meth.locks = false := BodyLoose.notSynchronized Bd
  have hml : c.maxLocals = 1 := hml0
  have hown : s.vm.findClass "com/example/hermod/hermod/RecordKeysNameEndPinLaw" = some m.cls := findClass_of_methodNamed Bd.named
  have hnm := (name_of_methodNamed Bd.named Bd.method).1
  have X0 : Stand p l e ({ frames := 0, cells := 0, slots := 0, locals := 0 } : Room) s m #[(.int p1)] below meth c s₁ [] 0 0 := Stand.of_body Bd
  have e0 : s₁.heap = h0 := by rw [← hh, Bd.state]; rfl
  have N0 := Fr.nil n0
  show Gl p.tables e below (fun (o : Outcome) (U' : State) => ∃ v L, o = .returned v ∧ Q1 Z p1 h0 n0 v U'.heap L ∧ FrameEnd s o U' L ({ frames := 0, cells := 0, slots := 0, locals := 0 } : Room).cells ({ frames := 0, cells := 0, slots := 0, locals := 0 } : Room).slots) _
  refine Gl.pre (fun t k => castTop (ef_1 m p1) k) ?_
  obtain ⟨PP, hPP⟩ : ∃ P : Outcome → State → Prop, P = (fun (o : Outcome) (U' : State) => ∃ v L, o = .returned v ∧ Q1 Z p1 h0 n0 v U'.heap L ∧ FrameEnd s o U' L ({ frames := 0, cells := 0, slots := 0, locals := 0 } : Room).cells ({ frames := 0, cells := 0, slots := 0, locals := 0 } : Room).slots) := ⟨_, rfl⟩
  rw [← hPP]
  show Gl p.tables e below PP (s₁.setTop (mkF m 0 #[.val (.int p1)] []))
  refine Gl.pre (fun _ k => XS.iloadN X0.here hx rfl (hb hby d1_0) rfl k) ?_
  show Gl p.tables e below PP (s₁.setTop (mkF m 1 #[.val (.int p1)] [(.int p1)]))
  by_cases hc1 : p1 < (0 : Int32)
  · refine Gl.pre (fun _ k => XS.ifYes X0.here hx rfl (pc0 := 1) (pc' := 13) rfl (hb hby d1_1) rfl ((if0 _ _).trans (tlt hc1).1) (by decide) (by decide) k) ?_
    show Gl p.tables e below PP (s₁.setTop (mkF m 13 #[.val (.int p1)] []))
    refine Gl.pre (fun _ k => XS.iconst X0.here hx rfl (hb hby d1_13) k) ?_
    show Gl p.tables e below PP (s₁.setTop (mkF m 14 #[.val (.int p1)] [(.int (0 : Int32))]))
    rw [hPP]
    refine own_finN (Q := (Q1 Z p1 h0 n0)) X0 hx hlk Bd.returns (t := .boolean) (z' := (0 : Int32)) (by simp) (by decide) (hb hby d1_14) ?_ (by decide) (by decide)
    show Q1 Z p1 h0 n0 _ s₁.heap _
    rw [e0]
    refine ⟨?_, N0, rfl⟩
    rw [own_pi_f (fun q => q.1 hc1)]
  · refine Gl.pre (fun _ k => XS.ifNo X0.here hx rfl (hb hby d1_1) rfl ((if0 _ _).trans (flt hc1).1) k) ?_
    show Gl p.tables e below PP (s₁.setTop (mkF m 4 #[.val (.int p1)] []))
    refine Gl.pre (fun _ k => XS.iloadN X0.here hx rfl (hb hby d1_4) rfl k) ?_
    show Gl p.tables e below PP (s₁.setTop (mkF m 5 #[.val (.int p1)] [(.int p1)]))
    refine Gl.pre (fun _ k => XS.iconst X0.here hx rfl (hb hby d1_5) k) ?_
    show Gl p.tables e below PP (s₁.setTop (mkF m 6 #[.val (.int p1)] [(.int (2 : Int32)), (.int p1)]))
    suffices J2 : Gl p.tables e below PP (s₁.setTop (mkF m 14 #[.val (.int p1)] [(.int (own_pi (¬ ((2 : Int32) < p1))))])) by
      by_cases hd2 : (2 : Int32) < p1
      · rw [own_pi_nt hd2] at J2
        refine Gl.pre (fun _ k => XS.icmpYes X0.here hx rfl (pc0 := 6) (pc' := 13) rfl (hb hby d1_6) rfl (tlt hd2).2.2.1 (by decide) (by decide) k) ?_
        show Gl p.tables e below PP (s₁.setTop (mkF m 13 #[.val (.int p1)] []))
        refine Gl.pre (fun _ k => XS.iconst X0.here hx rfl (hb hby d1_13) k) ?_
        show Gl p.tables e below PP (s₁.setTop (mkF m 14 #[.val (.int p1)] [(.int (0 : Int32))]))
        exact J2
      · rw [own_pi_nf hd2] at J2
        refine Gl.pre (fun _ k => XS.icmpNo X0.here hx rfl (hb hby d1_6) rfl (flt hd2).2.2.1 k) ?_
        show Gl p.tables e below PP (s₁.setTop (mkF m 9 #[.val (.int p1)] []))
        refine Gl.pre (fun _ k => XS.iconst X0.here hx rfl (hb hby d1_9) k) ?_
        show Gl p.tables e below PP (s₁.setTop (mkF m 10 #[.val (.int p1)] [(.int (1 : Int32))]))
        refine Gl.pre (fun _ k => XS.goto X0.here hx rfl (pc0 := 10) (pc' := 14) rfl (hb hby d1_10) (by decide) (by decide) k) ?_
        show Gl p.tables e below PP (s₁.setTop (mkF m 14 #[.val (.int p1)] [(.int (1 : Int32))]))
        exact J2
    show Gl p.tables e below PP (s₁.setTop (mkF m 14 #[.val (.int p1)] [(.int (own_pi (¬ ((2 : Int32) < p1))))]))
    rw [hPP]
    refine own_finN (Q := (Q1 Z p1 h0 n0)) X0 hx hlk Bd.returns (t := .boolean) (z' := (own_pi (¬ ((2 : Int32) < p1)))) (by simp) own_nar_pi (hb hby d1_14) ?_ (by decide) (by decide)
    show Q1 Z p1 h0 n0 _ s₁.heap _
    rw [e0]
    refine ⟨?_, N0, rfl⟩
    exact congrArg (fun z => some (Value.int z)) (own_pi_eq (by simp [hc1]))
theorem d2_0 : decode prog_2_method_8_code 0 = .ok (.iconst 0, 1) := by decide +kernel
theorem d2_1 : decode prog_2_method_8_code 1 = .ok (.istore_n 1, 1) := by decide +kernel
theorem d2_2 : decode prog_2_method_8_code 2 = .ok (.aload_n 0, 1) := by decide +kernel
theorem d2_3 : decode prog_2_method_8_code 3 = .ok (.iload_n 1, 1) := by decide +kernel
theorem d2_4 : decode prog_2_method_8_code 4 = .ok (.baload, 1) := by decide +kernel
theorem d2_5 : decode prog_2_method_8_code 5 = .ok (.ifCond .eq 23, 3) := by decide +kernel
theorem d2_8 : decode prog_2_method_8_code 8 = .ok (.aload_n 0, 1) := by decide +kernel
theorem d2_9 : decode prog_2_method_8_code 9 = .ok (.iload_n 1, 1) := by decide +kernel
theorem d2_10 : decode prog_2_method_8_code 10 = .ok (.baload, 1) := by decide +kernel
theorem d2_11 : decode prog_2_method_8_code 11 = .ok (.iconst 1, 1) := by decide +kernel
theorem d2_12 : decode prog_2_method_8_code 12 = .ok (.if_icmp .eq 16, 3) := by decide +kernel
theorem d2_15 : decode prog_2_method_8_code 15 = .ok (.aload_n 0, 1) := by decide +kernel
theorem d2_16 : decode prog_2_method_8_code 16 = .ok (.iload_n 1, 1) := by decide +kernel
theorem d2_17 : decode prog_2_method_8_code 17 = .ok (.baload, 1) := by decide +kernel
theorem d2_18 : decode prog_2_method_8_code 18 = .ok (.iconst 2, 1) := by decide +kernel
theorem d2_19 : decode prog_2_method_8_code 19 = .ok (.if_icmp .eq 9, 3) := by decide +kernel
theorem d2_22 : decode prog_2_method_8_code 22 = .ok (.iinc 1 1, 3) := by decide +kernel
theorem d2_25 : decode prog_2_method_8_code 25 = .ok (.goto (-23), 3) := by decide +kernel
theorem d2_28 : decode prog_2_method_8_code 28 = .ok (.iload_n 1, 1) := by decide +kernel
theorem d2_29 : decode prog_2_method_8_code 29 = .ok (.ireturn, 1) := by decide +kernel
theorem pn_2 : plainName "com/example/hermod/hermod/RecordKeys" = true := by first | (simp [plainName, overriddenIn]; done) | decide +kernel
theorem ef_2 (m : MethodId) (a1 : Addr) (x0 : Int32) (x1 : Int32) (x2 : Int32) (x3 : Int32) (x4 : Int32) : entryFrame m #[(.ref a1)] 2 = mkF m 0 #[.val (.ref a1), .unset] [] := by first | (simp [entryFrame, mkF, argsToLocals, Value.category]; done) | rfl
def Q2 (Z : State) (a1 : Addr) (x0 : Int32) (x1 : Int32) (x2 : Int32) (x3 : Int32) (x4 : Int32) (h0 : Heap) (n0 : Nat) (v : Option Value) (h : Heap) (L : List Loc) : Prop := v = some (.int (own_ne x0 x1 x2 x3)) ∧ Fr n0 L ∧ h = h0
set_option maxRecDepth 65536 in
set_option maxHeartbeats 40000000 in
theorem rm2 (l : Launch) (Z : State) (a0 : Array Value) (hw : ∀ d ∈ tables_1, d.before a0 Z = true) (ws : List Jvm.Cond) (a1 : Addr) (x0 : Int32) (x1 : Int32) (x2 : Int32) (x3 : Int32) (x4 : Int32) (h0 : Heap) (n0 : Nat) (Z0 : n0 ≤ h0.size) (V_a1 : Bal Z h0 a1 .byte [x0, x1, x2, x3, x4]) (hs : x4 = 0 ∨ x4 = 1 ∨ x4 = 2) :
    MetFree l (⟨"com/example/hermod/hermod/RecordKeys", "nameEnd", "([B)I"⟩ : MethodName) (head1 (Jvm.Cond.code (⟨"com/example/hermod/hermod/RecordKeys", "nameEnd", "([B)I"⟩ : MethodName) prog_2_method_8_code 2 (some .int) :: ws) ({ frames := 0, cells := 0, slots := 0, locals := 0 } : Room)) (fun a U => a = #[(.ref a1)] ∧ Z.Warmed39 U.vm ∧ U.heap = h0) (fun _ _ _ _ _ => True) (fun _ U o U' => ∃ v L, o = .returned v ∧ Q2 Z a1 x0 x1 x2 x3 x4 h0 n0 v U'.heap L ∧ FrameEnd U o U' L ({ frames := 0, cells := 0, slots := 0, locals := 0 } : Room).cells ({ frames := 0, cells := 0, slots := 0, locals := 0 } : Room).slots) := by
  refine MetFree.of_bodySF (plainFor_of_name pn_2) hisR ?_
  intro p e s m args below meth c s₁ Bd hml0 hP hK
  obtain ⟨rfl, hZ, hh⟩ := hP
  have hx := Bd.exec
  have hby := Bd.bytes
  have hlk : meth.locks = false := BodyLoose.notSynchronized Bd
  have hml : c.maxLocals = 2 := hml0
  have hown : s.vm.findClass "com/example/hermod/hermod/RecordKeys" = some m.cls := findClass_of_methodNamed Bd.named
  have hnm := (name_of_methodNamed Bd.named Bd.method).1
  have X0 : Stand p l e ({ frames := 0, cells := 0, slots := 0, locals := 0 } : Room) s m #[(.ref a1)] below meth c s₁ [] 0 0 := Stand.of_body Bd
  have e0 : s₁.heap = h0 := by rw [← hh, Bd.state]; rfl
  have N0 := Fr.nil n0
  show Gl p.tables e below (fun (o : Outcome) (U' : State) => ∃ v L, o = .returned v ∧ Q2 Z a1 x0 x1 x2 x3 x4 h0 n0 v U'.heap L ∧ FrameEnd s o U' L ({ frames := 0, cells := 0, slots := 0, locals := 0 } : Room).cells ({ frames := 0, cells := 0, slots := 0, locals := 0 } : Room).slots) _
  refine Gl.pre (fun t k => castTop (ef_2 m a1 x0 x1 x2 x3 x4) k) ?_
  obtain ⟨PP, hPP⟩ : ∃ P : Outcome → State → Prop, P = (fun (o : Outcome) (U' : State) => ∃ v L, o = .returned v ∧ Q2 Z a1 x0 x1 x2 x3 x4 h0 n0 v U'.heap L ∧ FrameEnd s o U' L ({ frames := 0, cells := 0, slots := 0, locals := 0 } : Room).cells ({ frames := 0, cells := 0, slots := 0, locals := 0 } : Room).slots) := ⟨_, rfl⟩
  rw [← hPP]
  show Gl p.tables e below PP (s₁.setTop (mkF m 0 #[.val (.ref a1), .unset] []))
  refine Gl.pre (fun _ k => XS.iconst X0.here hx rfl (hb hby d2_0) k) ?_
  show Gl p.tables e below PP (s₁.setTop (mkF m 1 #[.val (.ref a1), .unset] [(.int (0 : Int32))]))
  refine Gl.pre (fun _ k => XS.istoreN X0.here hx rfl (hb hby d2_1) rfl (l' := #[.val (.ref a1), .val (.int (0 : Int32))]) rfl k) ?_
  show Gl p.tables e below PP (s₁.setTop (mkF m 2 #[.val (.ref a1), .val (.int (0 : Int32))] []))
  refine Gl.pre (fun _ k => XS.aloadN X0.here hx rfl (hb hby d2_2) rfl rfl k) ?_
  show Gl p.tables e below PP (s₁.setTop (mkF m 3 #[.val (.ref a1), .val (.int (0 : Int32))] [(.ref a1)]))
  refine Gl.pre (fun _ k => XS.iloadN X0.here hx rfl (hb hby d2_3) rfl k) ?_
  show Gl p.tables e below PP (s₁.setTop (mkF m 4 #[.val (.ref a1), .val (.int (0 : Int32))] [(.int (0 : Int32)), (.ref a1)]))
  refine Gl.pre (fun _ k => own_ldB X0 hx hZ e0 V_a1 (j := (0 : Int32)) (i := 0) (by decide) (by decide) (Nat.lt_of_lt_of_eq (by decide : 0 < 5) rfl) (v := x0) rfl (g := (mkF m 4 #[.val (.ref a1), .val (.int (0 : Int32))] [(.int (0 : Int32)), (.ref a1)])) rfl rfl (hb hby d2_4) _ k) ?_
  show Gl p.tables e below PP (s₁.setTop (mkF m 5 #[.val (.ref a1), .val (.int (0 : Int32))] [(.int x0)]))
  by_cases hc1 : x0 = (0 : Int32)
  · refine Gl.pre (fun _ k => XS.ifYes X0.here hx rfl (pc0 := 5) (pc' := 28) rfl (hb hby d2_5) rfl ((if0 _ _).trans (teq hc1).1) (by decide) (by decide) k) ?_
    show Gl p.tables e below PP (s₁.setTop (mkF m 28 #[.val (.ref a1), .val (.int (0 : Int32))] []))
    refine Gl.pre (fun _ k => XS.iloadN X0.here hx rfl (hb hby d2_28) rfl k) ?_
    show Gl p.tables e below PP (s₁.setTop (mkF m 29 #[.val (.ref a1), .val (.int (0 : Int32))] [(.int (0 : Int32))]))
    rw [hPP]
    refine own_finI (Q := (Q2 Z a1 x0 x1 x2 x3 x4 h0 n0)) X0 hx hlk Bd.returns (hb hby d2_29) ?_ (by decide) (by decide)
    show Q2 Z a1 x0 x1 x2 x3 x4 h0 n0 _ s₁.heap _
    rw [e0]
    refine ⟨?_, N0, rfl⟩
    rw [own_ne, if_pos ((own_sep x0).mpr (Or.inl hc1))]
  · refine Gl.pre (fun _ k => XS.ifNo X0.here hx rfl (hb hby d2_5) rfl ((if0 _ _).trans (feq hc1).1) k) ?_
    show Gl p.tables e below PP (s₁.setTop (mkF m 8 #[.val (.ref a1), .val (.int (0 : Int32))] []))
    refine Gl.pre (fun _ k => XS.aloadN X0.here hx rfl (hb hby d2_8) rfl rfl k) ?_
    show Gl p.tables e below PP (s₁.setTop (mkF m 9 #[.val (.ref a1), .val (.int (0 : Int32))] [(.ref a1)]))
    refine Gl.pre (fun _ k => XS.iloadN X0.here hx rfl (hb hby d2_9) rfl k) ?_
    show Gl p.tables e below PP (s₁.setTop (mkF m 10 #[.val (.ref a1), .val (.int (0 : Int32))] [(.int (0 : Int32)), (.ref a1)]))
    refine Gl.pre (fun _ k => own_ldB X0 hx hZ e0 V_a1 (j := (0 : Int32)) (i := 0) (by decide) (by decide) (Nat.lt_of_lt_of_eq (by decide : 0 < 5) rfl) (v := x0) rfl (g := (mkF m 10 #[.val (.ref a1), .val (.int (0 : Int32))] [(.int (0 : Int32)), (.ref a1)])) rfl rfl (hb hby d2_10) _ k) ?_
    show Gl p.tables e below PP (s₁.setTop (mkF m 11 #[.val (.ref a1), .val (.int (0 : Int32))] [(.int x0)]))
    refine Gl.pre (fun _ k => XS.iconst X0.here hx rfl (hb hby d2_11) k) ?_
    show Gl p.tables e below PP (s₁.setTop (mkF m 12 #[.val (.ref a1), .val (.int (0 : Int32))] [(.int (1 : Int32)), (.int x0)]))
    by_cases hc2 : x0 = (1 : Int32)
    · refine Gl.pre (fun _ k => XS.icmpYes X0.here hx rfl (pc0 := 12) (pc' := 28) rfl (hb hby d2_12) rfl (teq hc2).1 (by decide) (by decide) k) ?_
      show Gl p.tables e below PP (s₁.setTop (mkF m 28 #[.val (.ref a1), .val (.int (0 : Int32))] []))
      refine Gl.pre (fun _ k => XS.iloadN X0.here hx rfl (hb hby d2_28) rfl k) ?_
      show Gl p.tables e below PP (s₁.setTop (mkF m 29 #[.val (.ref a1), .val (.int (0 : Int32))] [(.int (0 : Int32))]))
      rw [hPP]
      refine own_finI (Q := (Q2 Z a1 x0 x1 x2 x3 x4 h0 n0)) X0 hx hlk Bd.returns (hb hby d2_29) ?_ (by decide) (by decide)
      show Q2 Z a1 x0 x1 x2 x3 x4 h0 n0 _ s₁.heap _
      rw [e0]
      refine ⟨?_, N0, rfl⟩
      rw [own_ne, if_pos ((own_sep x0).mpr (Or.inr (Or.inl hc2)))]
    · refine Gl.pre (fun _ k => XS.icmpNo X0.here hx rfl (hb hby d2_12) rfl (feq hc2).1 k) ?_
      show Gl p.tables e below PP (s₁.setTop (mkF m 15 #[.val (.ref a1), .val (.int (0 : Int32))] []))
      refine Gl.pre (fun _ k => XS.aloadN X0.here hx rfl (hb hby d2_15) rfl rfl k) ?_
      show Gl p.tables e below PP (s₁.setTop (mkF m 16 #[.val (.ref a1), .val (.int (0 : Int32))] [(.ref a1)]))
      refine Gl.pre (fun _ k => XS.iloadN X0.here hx rfl (hb hby d2_16) rfl k) ?_
      show Gl p.tables e below PP (s₁.setTop (mkF m 17 #[.val (.ref a1), .val (.int (0 : Int32))] [(.int (0 : Int32)), (.ref a1)]))
      refine Gl.pre (fun _ k => own_ldB X0 hx hZ e0 V_a1 (j := (0 : Int32)) (i := 0) (by decide) (by decide) (Nat.lt_of_lt_of_eq (by decide : 0 < 5) rfl) (v := x0) rfl (g := (mkF m 17 #[.val (.ref a1), .val (.int (0 : Int32))] [(.int (0 : Int32)), (.ref a1)])) rfl rfl (hb hby d2_17) _ k) ?_
      show Gl p.tables e below PP (s₁.setTop (mkF m 18 #[.val (.ref a1), .val (.int (0 : Int32))] [(.int x0)]))
      refine Gl.pre (fun _ k => XS.iconst X0.here hx rfl (hb hby d2_18) k) ?_
      show Gl p.tables e below PP (s₁.setTop (mkF m 19 #[.val (.ref a1), .val (.int (0 : Int32))] [(.int (2 : Int32)), (.int x0)]))
      by_cases hc3 : x0 = (2 : Int32)
      · refine Gl.pre (fun _ k => XS.icmpYes X0.here hx rfl (pc0 := 19) (pc' := 28) rfl (hb hby d2_19) rfl (teq hc3).1 (by decide) (by decide) k) ?_
        show Gl p.tables e below PP (s₁.setTop (mkF m 28 #[.val (.ref a1), .val (.int (0 : Int32))] []))
        refine Gl.pre (fun _ k => XS.iloadN X0.here hx rfl (hb hby d2_28) rfl k) ?_
        show Gl p.tables e below PP (s₁.setTop (mkF m 29 #[.val (.ref a1), .val (.int (0 : Int32))] [(.int (0 : Int32))]))
        rw [hPP]
        refine own_finI (Q := (Q2 Z a1 x0 x1 x2 x3 x4 h0 n0)) X0 hx hlk Bd.returns (hb hby d2_29) ?_ (by decide) (by decide)
        show Q2 Z a1 x0 x1 x2 x3 x4 h0 n0 _ s₁.heap _
        rw [e0]
        refine ⟨?_, N0, rfl⟩
        rw [own_ne, if_pos ((own_sep x0).mpr (Or.inr (Or.inr hc3)))]
      · refine Gl.pre (fun _ k => XS.icmpNo X0.here hx rfl (hb hby d2_19) rfl (feq hc3).1 k) ?_
        show Gl p.tables e below PP (s₁.setTop (mkF m 22 #[.val (.ref a1), .val (.int (0 : Int32))] []))
        refine Gl.pre (fun _ k => XS.iinc X0.here hx rfl (hb hby d2_22) rfl (l' := #[.val (.ref a1), .val (.int (1 : Int32))]) rfl k) ?_
        show Gl p.tables e below PP (s₁.setTop (mkF m 25 #[.val (.ref a1), .val (.int (1 : Int32))] []))
        refine Gl.pre (fun _ k => XS.goto X0.here hx rfl (pc0 := 25) (pc' := 2) rfl (hb hby d2_25) (by decide) (by decide) k) ?_
        show Gl p.tables e below PP (s₁.setTop (mkF m 2 #[.val (.ref a1), .val (.int (1 : Int32))] []))
        refine Gl.pre (fun _ k => XS.aloadN X0.here hx rfl (hb hby d2_2) rfl rfl k) ?_
        show Gl p.tables e below PP (s₁.setTop (mkF m 3 #[.val (.ref a1), .val (.int (1 : Int32))] [(.ref a1)]))
        refine Gl.pre (fun _ k => XS.iloadN X0.here hx rfl (hb hby d2_3) rfl k) ?_
        show Gl p.tables e below PP (s₁.setTop (mkF m 4 #[.val (.ref a1), .val (.int (1 : Int32))] [(.int (1 : Int32)), (.ref a1)]))
        refine Gl.pre (fun _ k => own_ldB X0 hx hZ e0 V_a1 (j := (1 : Int32)) (i := 1) (by decide) (by decide) (Nat.lt_of_lt_of_eq (by decide : 1 < 5) rfl) (v := x1) rfl (g := (mkF m 4 #[.val (.ref a1), .val (.int (1 : Int32))] [(.int (1 : Int32)), (.ref a1)])) rfl rfl (hb hby d2_4) _ k) ?_
        show Gl p.tables e below PP (s₁.setTop (mkF m 5 #[.val (.ref a1), .val (.int (1 : Int32))] [(.int x1)]))
        by_cases hc4 : x1 = (0 : Int32)
        · refine Gl.pre (fun _ k => XS.ifYes X0.here hx rfl (pc0 := 5) (pc' := 28) rfl (hb hby d2_5) rfl ((if0 _ _).trans (teq hc4).1) (by decide) (by decide) k) ?_
          show Gl p.tables e below PP (s₁.setTop (mkF m 28 #[.val (.ref a1), .val (.int (1 : Int32))] []))
          refine Gl.pre (fun _ k => XS.iloadN X0.here hx rfl (hb hby d2_28) rfl k) ?_
          show Gl p.tables e below PP (s₁.setTop (mkF m 29 #[.val (.ref a1), .val (.int (1 : Int32))] [(.int (1 : Int32))]))
          rw [hPP]
          refine own_finI (Q := (Q2 Z a1 x0 x1 x2 x3 x4 h0 n0)) X0 hx hlk Bd.returns (hb hby d2_29) ?_ (by decide) (by decide)
          show Q2 Z a1 x0 x1 x2 x3 x4 h0 n0 _ s₁.heap _
          rw [e0]
          refine ⟨?_, N0, rfl⟩
          rw [own_ne, if_neg (fun q => own_n3 _ _ _ hc1 hc2 hc3 ((own_sep x0).mp q)), if_pos ((own_sep x1).mpr (Or.inl hc4))]
        · refine Gl.pre (fun _ k => XS.ifNo X0.here hx rfl (hb hby d2_5) rfl ((if0 _ _).trans (feq hc4).1) k) ?_
          show Gl p.tables e below PP (s₁.setTop (mkF m 8 #[.val (.ref a1), .val (.int (1 : Int32))] []))
          refine Gl.pre (fun _ k => XS.aloadN X0.here hx rfl (hb hby d2_8) rfl rfl k) ?_
          show Gl p.tables e below PP (s₁.setTop (mkF m 9 #[.val (.ref a1), .val (.int (1 : Int32))] [(.ref a1)]))
          refine Gl.pre (fun _ k => XS.iloadN X0.here hx rfl (hb hby d2_9) rfl k) ?_
          show Gl p.tables e below PP (s₁.setTop (mkF m 10 #[.val (.ref a1), .val (.int (1 : Int32))] [(.int (1 : Int32)), (.ref a1)]))
          refine Gl.pre (fun _ k => own_ldB X0 hx hZ e0 V_a1 (j := (1 : Int32)) (i := 1) (by decide) (by decide) (Nat.lt_of_lt_of_eq (by decide : 1 < 5) rfl) (v := x1) rfl (g := (mkF m 10 #[.val (.ref a1), .val (.int (1 : Int32))] [(.int (1 : Int32)), (.ref a1)])) rfl rfl (hb hby d2_10) _ k) ?_
          show Gl p.tables e below PP (s₁.setTop (mkF m 11 #[.val (.ref a1), .val (.int (1 : Int32))] [(.int x1)]))
          refine Gl.pre (fun _ k => XS.iconst X0.here hx rfl (hb hby d2_11) k) ?_
          show Gl p.tables e below PP (s₁.setTop (mkF m 12 #[.val (.ref a1), .val (.int (1 : Int32))] [(.int (1 : Int32)), (.int x1)]))
          by_cases hc5 : x1 = (1 : Int32)
          · refine Gl.pre (fun _ k => XS.icmpYes X0.here hx rfl (pc0 := 12) (pc' := 28) rfl (hb hby d2_12) rfl (teq hc5).1 (by decide) (by decide) k) ?_
            show Gl p.tables e below PP (s₁.setTop (mkF m 28 #[.val (.ref a1), .val (.int (1 : Int32))] []))
            refine Gl.pre (fun _ k => XS.iloadN X0.here hx rfl (hb hby d2_28) rfl k) ?_
            show Gl p.tables e below PP (s₁.setTop (mkF m 29 #[.val (.ref a1), .val (.int (1 : Int32))] [(.int (1 : Int32))]))
            rw [hPP]
            refine own_finI (Q := (Q2 Z a1 x0 x1 x2 x3 x4 h0 n0)) X0 hx hlk Bd.returns (hb hby d2_29) ?_ (by decide) (by decide)
            show Q2 Z a1 x0 x1 x2 x3 x4 h0 n0 _ s₁.heap _
            rw [e0]
            refine ⟨?_, N0, rfl⟩
            rw [own_ne, if_neg (fun q => own_n3 _ _ _ hc1 hc2 hc3 ((own_sep x0).mp q)), if_pos ((own_sep x1).mpr (Or.inr (Or.inl hc5)))]
          · refine Gl.pre (fun _ k => XS.icmpNo X0.here hx rfl (hb hby d2_12) rfl (feq hc5).1 k) ?_
            show Gl p.tables e below PP (s₁.setTop (mkF m 15 #[.val (.ref a1), .val (.int (1 : Int32))] []))
            refine Gl.pre (fun _ k => XS.aloadN X0.here hx rfl (hb hby d2_15) rfl rfl k) ?_
            show Gl p.tables e below PP (s₁.setTop (mkF m 16 #[.val (.ref a1), .val (.int (1 : Int32))] [(.ref a1)]))
            refine Gl.pre (fun _ k => XS.iloadN X0.here hx rfl (hb hby d2_16) rfl k) ?_
            show Gl p.tables e below PP (s₁.setTop (mkF m 17 #[.val (.ref a1), .val (.int (1 : Int32))] [(.int (1 : Int32)), (.ref a1)]))
            refine Gl.pre (fun _ k => own_ldB X0 hx hZ e0 V_a1 (j := (1 : Int32)) (i := 1) (by decide) (by decide) (Nat.lt_of_lt_of_eq (by decide : 1 < 5) rfl) (v := x1) rfl (g := (mkF m 17 #[.val (.ref a1), .val (.int (1 : Int32))] [(.int (1 : Int32)), (.ref a1)])) rfl rfl (hb hby d2_17) _ k) ?_
            show Gl p.tables e below PP (s₁.setTop (mkF m 18 #[.val (.ref a1), .val (.int (1 : Int32))] [(.int x1)]))
            refine Gl.pre (fun _ k => XS.iconst X0.here hx rfl (hb hby d2_18) k) ?_
            show Gl p.tables e below PP (s₁.setTop (mkF m 19 #[.val (.ref a1), .val (.int (1 : Int32))] [(.int (2 : Int32)), (.int x1)]))
            by_cases hc6 : x1 = (2 : Int32)
            · refine Gl.pre (fun _ k => XS.icmpYes X0.here hx rfl (pc0 := 19) (pc' := 28) rfl (hb hby d2_19) rfl (teq hc6).1 (by decide) (by decide) k) ?_
              show Gl p.tables e below PP (s₁.setTop (mkF m 28 #[.val (.ref a1), .val (.int (1 : Int32))] []))
              refine Gl.pre (fun _ k => XS.iloadN X0.here hx rfl (hb hby d2_28) rfl k) ?_
              show Gl p.tables e below PP (s₁.setTop (mkF m 29 #[.val (.ref a1), .val (.int (1 : Int32))] [(.int (1 : Int32))]))
              rw [hPP]
              refine own_finI (Q := (Q2 Z a1 x0 x1 x2 x3 x4 h0 n0)) X0 hx hlk Bd.returns (hb hby d2_29) ?_ (by decide) (by decide)
              show Q2 Z a1 x0 x1 x2 x3 x4 h0 n0 _ s₁.heap _
              rw [e0]
              refine ⟨?_, N0, rfl⟩
              rw [own_ne, if_neg (fun q => own_n3 _ _ _ hc1 hc2 hc3 ((own_sep x0).mp q)), if_pos ((own_sep x1).mpr (Or.inr (Or.inr hc6)))]
            · refine Gl.pre (fun _ k => XS.icmpNo X0.here hx rfl (hb hby d2_19) rfl (feq hc6).1 k) ?_
              show Gl p.tables e below PP (s₁.setTop (mkF m 22 #[.val (.ref a1), .val (.int (1 : Int32))] []))
              refine Gl.pre (fun _ k => XS.iinc X0.here hx rfl (hb hby d2_22) rfl (l' := #[.val (.ref a1), .val (.int (2 : Int32))]) rfl k) ?_
              show Gl p.tables e below PP (s₁.setTop (mkF m 25 #[.val (.ref a1), .val (.int (2 : Int32))] []))
              refine Gl.pre (fun _ k => XS.goto X0.here hx rfl (pc0 := 25) (pc' := 2) rfl (hb hby d2_25) (by decide) (by decide) k) ?_
              show Gl p.tables e below PP (s₁.setTop (mkF m 2 #[.val (.ref a1), .val (.int (2 : Int32))] []))
              refine Gl.pre (fun _ k => XS.aloadN X0.here hx rfl (hb hby d2_2) rfl rfl k) ?_
              show Gl p.tables e below PP (s₁.setTop (mkF m 3 #[.val (.ref a1), .val (.int (2 : Int32))] [(.ref a1)]))
              refine Gl.pre (fun _ k => XS.iloadN X0.here hx rfl (hb hby d2_3) rfl k) ?_
              show Gl p.tables e below PP (s₁.setTop (mkF m 4 #[.val (.ref a1), .val (.int (2 : Int32))] [(.int (2 : Int32)), (.ref a1)]))
              refine Gl.pre (fun _ k => own_ldB X0 hx hZ e0 V_a1 (j := (2 : Int32)) (i := 2) (by decide) (by decide) (Nat.lt_of_lt_of_eq (by decide : 2 < 5) rfl) (v := x2) rfl (g := (mkF m 4 #[.val (.ref a1), .val (.int (2 : Int32))] [(.int (2 : Int32)), (.ref a1)])) rfl rfl (hb hby d2_4) _ k) ?_
              show Gl p.tables e below PP (s₁.setTop (mkF m 5 #[.val (.ref a1), .val (.int (2 : Int32))] [(.int x2)]))
              by_cases hc7 : x2 = (0 : Int32)
              · refine Gl.pre (fun _ k => XS.ifYes X0.here hx rfl (pc0 := 5) (pc' := 28) rfl (hb hby d2_5) rfl ((if0 _ _).trans (teq hc7).1) (by decide) (by decide) k) ?_
                show Gl p.tables e below PP (s₁.setTop (mkF m 28 #[.val (.ref a1), .val (.int (2 : Int32))] []))
                refine Gl.pre (fun _ k => XS.iloadN X0.here hx rfl (hb hby d2_28) rfl k) ?_
                show Gl p.tables e below PP (s₁.setTop (mkF m 29 #[.val (.ref a1), .val (.int (2 : Int32))] [(.int (2 : Int32))]))
                rw [hPP]
                refine own_finI (Q := (Q2 Z a1 x0 x1 x2 x3 x4 h0 n0)) X0 hx hlk Bd.returns (hb hby d2_29) ?_ (by decide) (by decide)
                show Q2 Z a1 x0 x1 x2 x3 x4 h0 n0 _ s₁.heap _
                rw [e0]
                refine ⟨?_, N0, rfl⟩
                rw [own_ne, if_neg (fun q => own_n3 _ _ _ hc1 hc2 hc3 ((own_sep x0).mp q)), if_neg (fun q => own_n3 _ _ _ hc4 hc5 hc6 ((own_sep x1).mp q)), if_pos ((own_sep x2).mpr (Or.inl hc7))]
              · refine Gl.pre (fun _ k => XS.ifNo X0.here hx rfl (hb hby d2_5) rfl ((if0 _ _).trans (feq hc7).1) k) ?_
                show Gl p.tables e below PP (s₁.setTop (mkF m 8 #[.val (.ref a1), .val (.int (2 : Int32))] []))
                refine Gl.pre (fun _ k => XS.aloadN X0.here hx rfl (hb hby d2_8) rfl rfl k) ?_
                show Gl p.tables e below PP (s₁.setTop (mkF m 9 #[.val (.ref a1), .val (.int (2 : Int32))] [(.ref a1)]))
                refine Gl.pre (fun _ k => XS.iloadN X0.here hx rfl (hb hby d2_9) rfl k) ?_
                show Gl p.tables e below PP (s₁.setTop (mkF m 10 #[.val (.ref a1), .val (.int (2 : Int32))] [(.int (2 : Int32)), (.ref a1)]))
                refine Gl.pre (fun _ k => own_ldB X0 hx hZ e0 V_a1 (j := (2 : Int32)) (i := 2) (by decide) (by decide) (Nat.lt_of_lt_of_eq (by decide : 2 < 5) rfl) (v := x2) rfl (g := (mkF m 10 #[.val (.ref a1), .val (.int (2 : Int32))] [(.int (2 : Int32)), (.ref a1)])) rfl rfl (hb hby d2_10) _ k) ?_
                show Gl p.tables e below PP (s₁.setTop (mkF m 11 #[.val (.ref a1), .val (.int (2 : Int32))] [(.int x2)]))
                refine Gl.pre (fun _ k => XS.iconst X0.here hx rfl (hb hby d2_11) k) ?_
                show Gl p.tables e below PP (s₁.setTop (mkF m 12 #[.val (.ref a1), .val (.int (2 : Int32))] [(.int (1 : Int32)), (.int x2)]))
                by_cases hc8 : x2 = (1 : Int32)
                · refine Gl.pre (fun _ k => XS.icmpYes X0.here hx rfl (pc0 := 12) (pc' := 28) rfl (hb hby d2_12) rfl (teq hc8).1 (by decide) (by decide) k) ?_
                  show Gl p.tables e below PP (s₁.setTop (mkF m 28 #[.val (.ref a1), .val (.int (2 : Int32))] []))
                  refine Gl.pre (fun _ k => XS.iloadN X0.here hx rfl (hb hby d2_28) rfl k) ?_
                  show Gl p.tables e below PP (s₁.setTop (mkF m 29 #[.val (.ref a1), .val (.int (2 : Int32))] [(.int (2 : Int32))]))
                  rw [hPP]
                  refine own_finI (Q := (Q2 Z a1 x0 x1 x2 x3 x4 h0 n0)) X0 hx hlk Bd.returns (hb hby d2_29) ?_ (by decide) (by decide)
                  show Q2 Z a1 x0 x1 x2 x3 x4 h0 n0 _ s₁.heap _
                  rw [e0]
                  refine ⟨?_, N0, rfl⟩
                  rw [own_ne, if_neg (fun q => own_n3 _ _ _ hc1 hc2 hc3 ((own_sep x0).mp q)), if_neg (fun q => own_n3 _ _ _ hc4 hc5 hc6 ((own_sep x1).mp q)), if_pos ((own_sep x2).mpr (Or.inr (Or.inl hc8)))]
                · refine Gl.pre (fun _ k => XS.icmpNo X0.here hx rfl (hb hby d2_12) rfl (feq hc8).1 k) ?_
                  show Gl p.tables e below PP (s₁.setTop (mkF m 15 #[.val (.ref a1), .val (.int (2 : Int32))] []))
                  refine Gl.pre (fun _ k => XS.aloadN X0.here hx rfl (hb hby d2_15) rfl rfl k) ?_
                  show Gl p.tables e below PP (s₁.setTop (mkF m 16 #[.val (.ref a1), .val (.int (2 : Int32))] [(.ref a1)]))
                  refine Gl.pre (fun _ k => XS.iloadN X0.here hx rfl (hb hby d2_16) rfl k) ?_
                  show Gl p.tables e below PP (s₁.setTop (mkF m 17 #[.val (.ref a1), .val (.int (2 : Int32))] [(.int (2 : Int32)), (.ref a1)]))
                  refine Gl.pre (fun _ k => own_ldB X0 hx hZ e0 V_a1 (j := (2 : Int32)) (i := 2) (by decide) (by decide) (Nat.lt_of_lt_of_eq (by decide : 2 < 5) rfl) (v := x2) rfl (g := (mkF m 17 #[.val (.ref a1), .val (.int (2 : Int32))] [(.int (2 : Int32)), (.ref a1)])) rfl rfl (hb hby d2_17) _ k) ?_
                  show Gl p.tables e below PP (s₁.setTop (mkF m 18 #[.val (.ref a1), .val (.int (2 : Int32))] [(.int x2)]))
                  refine Gl.pre (fun _ k => XS.iconst X0.here hx rfl (hb hby d2_18) k) ?_
                  show Gl p.tables e below PP (s₁.setTop (mkF m 19 #[.val (.ref a1), .val (.int (2 : Int32))] [(.int (2 : Int32)), (.int x2)]))
                  by_cases hc9 : x2 = (2 : Int32)
                  · refine Gl.pre (fun _ k => XS.icmpYes X0.here hx rfl (pc0 := 19) (pc' := 28) rfl (hb hby d2_19) rfl (teq hc9).1 (by decide) (by decide) k) ?_
                    show Gl p.tables e below PP (s₁.setTop (mkF m 28 #[.val (.ref a1), .val (.int (2 : Int32))] []))
                    refine Gl.pre (fun _ k => XS.iloadN X0.here hx rfl (hb hby d2_28) rfl k) ?_
                    show Gl p.tables e below PP (s₁.setTop (mkF m 29 #[.val (.ref a1), .val (.int (2 : Int32))] [(.int (2 : Int32))]))
                    rw [hPP]
                    refine own_finI (Q := (Q2 Z a1 x0 x1 x2 x3 x4 h0 n0)) X0 hx hlk Bd.returns (hb hby d2_29) ?_ (by decide) (by decide)
                    show Q2 Z a1 x0 x1 x2 x3 x4 h0 n0 _ s₁.heap _
                    rw [e0]
                    refine ⟨?_, N0, rfl⟩
                    rw [own_ne, if_neg (fun q => own_n3 _ _ _ hc1 hc2 hc3 ((own_sep x0).mp q)), if_neg (fun q => own_n3 _ _ _ hc4 hc5 hc6 ((own_sep x1).mp q)), if_pos ((own_sep x2).mpr (Or.inr (Or.inr hc9)))]
                  · refine Gl.pre (fun _ k => XS.icmpNo X0.here hx rfl (hb hby d2_19) rfl (feq hc9).1 k) ?_
                    show Gl p.tables e below PP (s₁.setTop (mkF m 22 #[.val (.ref a1), .val (.int (2 : Int32))] []))
                    refine Gl.pre (fun _ k => XS.iinc X0.here hx rfl (hb hby d2_22) rfl (l' := #[.val (.ref a1), .val (.int (3 : Int32))]) rfl k) ?_
                    show Gl p.tables e below PP (s₁.setTop (mkF m 25 #[.val (.ref a1), .val (.int (3 : Int32))] []))
                    refine Gl.pre (fun _ k => XS.goto X0.here hx rfl (pc0 := 25) (pc' := 2) rfl (hb hby d2_25) (by decide) (by decide) k) ?_
                    show Gl p.tables e below PP (s₁.setTop (mkF m 2 #[.val (.ref a1), .val (.int (3 : Int32))] []))
                    refine Gl.pre (fun _ k => XS.aloadN X0.here hx rfl (hb hby d2_2) rfl rfl k) ?_
                    show Gl p.tables e below PP (s₁.setTop (mkF m 3 #[.val (.ref a1), .val (.int (3 : Int32))] [(.ref a1)]))
                    refine Gl.pre (fun _ k => XS.iloadN X0.here hx rfl (hb hby d2_3) rfl k) ?_
                    show Gl p.tables e below PP (s₁.setTop (mkF m 4 #[.val (.ref a1), .val (.int (3 : Int32))] [(.int (3 : Int32)), (.ref a1)]))
                    refine Gl.pre (fun _ k => own_ldB X0 hx hZ e0 V_a1 (j := (3 : Int32)) (i := 3) (by decide) (by decide) (Nat.lt_of_lt_of_eq (by decide : 3 < 5) rfl) (v := x3) rfl (g := (mkF m 4 #[.val (.ref a1), .val (.int (3 : Int32))] [(.int (3 : Int32)), (.ref a1)])) rfl rfl (hb hby d2_4) _ k) ?_
                    show Gl p.tables e below PP (s₁.setTop (mkF m 5 #[.val (.ref a1), .val (.int (3 : Int32))] [(.int x3)]))
                    by_cases hc10 : x3 = (0 : Int32)
                    · refine Gl.pre (fun _ k => XS.ifYes X0.here hx rfl (pc0 := 5) (pc' := 28) rfl (hb hby d2_5) rfl ((if0 _ _).trans (teq hc10).1) (by decide) (by decide) k) ?_
                      show Gl p.tables e below PP (s₁.setTop (mkF m 28 #[.val (.ref a1), .val (.int (3 : Int32))] []))
                      refine Gl.pre (fun _ k => XS.iloadN X0.here hx rfl (hb hby d2_28) rfl k) ?_
                      show Gl p.tables e below PP (s₁.setTop (mkF m 29 #[.val (.ref a1), .val (.int (3 : Int32))] [(.int (3 : Int32))]))
                      rw [hPP]
                      refine own_finI (Q := (Q2 Z a1 x0 x1 x2 x3 x4 h0 n0)) X0 hx hlk Bd.returns (hb hby d2_29) ?_ (by decide) (by decide)
                      show Q2 Z a1 x0 x1 x2 x3 x4 h0 n0 _ s₁.heap _
                      rw [e0]
                      refine ⟨?_, N0, rfl⟩
                      rw [own_ne, if_neg (fun q => own_n3 _ _ _ hc1 hc2 hc3 ((own_sep x0).mp q)), if_neg (fun q => own_n3 _ _ _ hc4 hc5 hc6 ((own_sep x1).mp q)), if_neg (fun q => own_n3 _ _ _ hc7 hc8 hc9 ((own_sep x2).mp q)), if_pos ((own_sep x3).mpr (Or.inl hc10))]
                    · refine Gl.pre (fun _ k => XS.ifNo X0.here hx rfl (hb hby d2_5) rfl ((if0 _ _).trans (feq hc10).1) k) ?_
                      show Gl p.tables e below PP (s₁.setTop (mkF m 8 #[.val (.ref a1), .val (.int (3 : Int32))] []))
                      refine Gl.pre (fun _ k => XS.aloadN X0.here hx rfl (hb hby d2_8) rfl rfl k) ?_
                      show Gl p.tables e below PP (s₁.setTop (mkF m 9 #[.val (.ref a1), .val (.int (3 : Int32))] [(.ref a1)]))
                      refine Gl.pre (fun _ k => XS.iloadN X0.here hx rfl (hb hby d2_9) rfl k) ?_
                      show Gl p.tables e below PP (s₁.setTop (mkF m 10 #[.val (.ref a1), .val (.int (3 : Int32))] [(.int (3 : Int32)), (.ref a1)]))
                      refine Gl.pre (fun _ k => own_ldB X0 hx hZ e0 V_a1 (j := (3 : Int32)) (i := 3) (by decide) (by decide) (Nat.lt_of_lt_of_eq (by decide : 3 < 5) rfl) (v := x3) rfl (g := (mkF m 10 #[.val (.ref a1), .val (.int (3 : Int32))] [(.int (3 : Int32)), (.ref a1)])) rfl rfl (hb hby d2_10) _ k) ?_
                      show Gl p.tables e below PP (s₁.setTop (mkF m 11 #[.val (.ref a1), .val (.int (3 : Int32))] [(.int x3)]))
                      refine Gl.pre (fun _ k => XS.iconst X0.here hx rfl (hb hby d2_11) k) ?_
                      show Gl p.tables e below PP (s₁.setTop (mkF m 12 #[.val (.ref a1), .val (.int (3 : Int32))] [(.int (1 : Int32)), (.int x3)]))
                      by_cases hc11 : x3 = (1 : Int32)
                      · refine Gl.pre (fun _ k => XS.icmpYes X0.here hx rfl (pc0 := 12) (pc' := 28) rfl (hb hby d2_12) rfl (teq hc11).1 (by decide) (by decide) k) ?_
                        show Gl p.tables e below PP (s₁.setTop (mkF m 28 #[.val (.ref a1), .val (.int (3 : Int32))] []))
                        refine Gl.pre (fun _ k => XS.iloadN X0.here hx rfl (hb hby d2_28) rfl k) ?_
                        show Gl p.tables e below PP (s₁.setTop (mkF m 29 #[.val (.ref a1), .val (.int (3 : Int32))] [(.int (3 : Int32))]))
                        rw [hPP]
                        refine own_finI (Q := (Q2 Z a1 x0 x1 x2 x3 x4 h0 n0)) X0 hx hlk Bd.returns (hb hby d2_29) ?_ (by decide) (by decide)
                        show Q2 Z a1 x0 x1 x2 x3 x4 h0 n0 _ s₁.heap _
                        rw [e0]
                        refine ⟨?_, N0, rfl⟩
                        rw [own_ne, if_neg (fun q => own_n3 _ _ _ hc1 hc2 hc3 ((own_sep x0).mp q)), if_neg (fun q => own_n3 _ _ _ hc4 hc5 hc6 ((own_sep x1).mp q)), if_neg (fun q => own_n3 _ _ _ hc7 hc8 hc9 ((own_sep x2).mp q)), if_pos ((own_sep x3).mpr (Or.inr (Or.inl hc11)))]
                      · refine Gl.pre (fun _ k => XS.icmpNo X0.here hx rfl (hb hby d2_12) rfl (feq hc11).1 k) ?_
                        show Gl p.tables e below PP (s₁.setTop (mkF m 15 #[.val (.ref a1), .val (.int (3 : Int32))] []))
                        refine Gl.pre (fun _ k => XS.aloadN X0.here hx rfl (hb hby d2_15) rfl rfl k) ?_
                        show Gl p.tables e below PP (s₁.setTop (mkF m 16 #[.val (.ref a1), .val (.int (3 : Int32))] [(.ref a1)]))
                        refine Gl.pre (fun _ k => XS.iloadN X0.here hx rfl (hb hby d2_16) rfl k) ?_
                        show Gl p.tables e below PP (s₁.setTop (mkF m 17 #[.val (.ref a1), .val (.int (3 : Int32))] [(.int (3 : Int32)), (.ref a1)]))
                        refine Gl.pre (fun _ k => own_ldB X0 hx hZ e0 V_a1 (j := (3 : Int32)) (i := 3) (by decide) (by decide) (Nat.lt_of_lt_of_eq (by decide : 3 < 5) rfl) (v := x3) rfl (g := (mkF m 17 #[.val (.ref a1), .val (.int (3 : Int32))] [(.int (3 : Int32)), (.ref a1)])) rfl rfl (hb hby d2_17) _ k) ?_
                        show Gl p.tables e below PP (s₁.setTop (mkF m 18 #[.val (.ref a1), .val (.int (3 : Int32))] [(.int x3)]))
                        refine Gl.pre (fun _ k => XS.iconst X0.here hx rfl (hb hby d2_18) k) ?_
                        show Gl p.tables e below PP (s₁.setTop (mkF m 19 #[.val (.ref a1), .val (.int (3 : Int32))] [(.int (2 : Int32)), (.int x3)]))
                        by_cases hc12 : x3 = (2 : Int32)
                        · refine Gl.pre (fun _ k => XS.icmpYes X0.here hx rfl (pc0 := 19) (pc' := 28) rfl (hb hby d2_19) rfl (teq hc12).1 (by decide) (by decide) k) ?_
                          show Gl p.tables e below PP (s₁.setTop (mkF m 28 #[.val (.ref a1), .val (.int (3 : Int32))] []))
                          refine Gl.pre (fun _ k => XS.iloadN X0.here hx rfl (hb hby d2_28) rfl k) ?_
                          show Gl p.tables e below PP (s₁.setTop (mkF m 29 #[.val (.ref a1), .val (.int (3 : Int32))] [(.int (3 : Int32))]))
                          rw [hPP]
                          refine own_finI (Q := (Q2 Z a1 x0 x1 x2 x3 x4 h0 n0)) X0 hx hlk Bd.returns (hb hby d2_29) ?_ (by decide) (by decide)
                          show Q2 Z a1 x0 x1 x2 x3 x4 h0 n0 _ s₁.heap _
                          rw [e0]
                          refine ⟨?_, N0, rfl⟩
                          rw [own_ne, if_neg (fun q => own_n3 _ _ _ hc1 hc2 hc3 ((own_sep x0).mp q)), if_neg (fun q => own_n3 _ _ _ hc4 hc5 hc6 ((own_sep x1).mp q)), if_neg (fun q => own_n3 _ _ _ hc7 hc8 hc9 ((own_sep x2).mp q)), if_pos ((own_sep x3).mpr (Or.inr (Or.inr hc12)))]
                        · refine Gl.pre (fun _ k => XS.icmpNo X0.here hx rfl (hb hby d2_19) rfl (feq hc12).1 k) ?_
                          show Gl p.tables e below PP (s₁.setTop (mkF m 22 #[.val (.ref a1), .val (.int (3 : Int32))] []))
                          refine Gl.pre (fun _ k => XS.iinc X0.here hx rfl (hb hby d2_22) rfl (l' := #[.val (.ref a1), .val (.int (4 : Int32))]) rfl k) ?_
                          show Gl p.tables e below PP (s₁.setTop (mkF m 25 #[.val (.ref a1), .val (.int (4 : Int32))] []))
                          refine Gl.pre (fun _ k => XS.goto X0.here hx rfl (pc0 := 25) (pc' := 2) rfl (hb hby d2_25) (by decide) (by decide) k) ?_
                          show Gl p.tables e below PP (s₁.setTop (mkF m 2 #[.val (.ref a1), .val (.int (4 : Int32))] []))
                          refine Gl.pre (fun _ k => XS.aloadN X0.here hx rfl (hb hby d2_2) rfl rfl k) ?_
                          show Gl p.tables e below PP (s₁.setTop (mkF m 3 #[.val (.ref a1), .val (.int (4 : Int32))] [(.ref a1)]))
                          refine Gl.pre (fun _ k => XS.iloadN X0.here hx rfl (hb hby d2_3) rfl k) ?_
                          show Gl p.tables e below PP (s₁.setTop (mkF m 4 #[.val (.ref a1), .val (.int (4 : Int32))] [(.int (4 : Int32)), (.ref a1)]))
                          refine Gl.pre (fun _ k => own_ldB X0 hx hZ e0 V_a1 (j := (4 : Int32)) (i := 4) (by decide) (by decide) (Nat.lt_of_lt_of_eq (by decide : 4 < 5) rfl) (v := x4) rfl (g := (mkF m 4 #[.val (.ref a1), .val (.int (4 : Int32))] [(.int (4 : Int32)), (.ref a1)])) rfl rfl (hb hby d2_4) _ k) ?_
                          show Gl p.tables e below PP (s₁.setTop (mkF m 5 #[.val (.ref a1), .val (.int (4 : Int32))] [(.int x4)]))
                          by_cases hc13 : x4 = (0 : Int32)
                          · refine Gl.pre (fun _ k => XS.ifYes X0.here hx rfl (pc0 := 5) (pc' := 28) rfl (hb hby d2_5) rfl ((if0 _ _).trans (teq hc13).1) (by decide) (by decide) k) ?_
                            show Gl p.tables e below PP (s₁.setTop (mkF m 28 #[.val (.ref a1), .val (.int (4 : Int32))] []))
                            refine Gl.pre (fun _ k => XS.iloadN X0.here hx rfl (hb hby d2_28) rfl k) ?_
                            show Gl p.tables e below PP (s₁.setTop (mkF m 29 #[.val (.ref a1), .val (.int (4 : Int32))] [(.int (4 : Int32))]))
                            rw [hPP]
                            refine own_finI (Q := (Q2 Z a1 x0 x1 x2 x3 x4 h0 n0)) X0 hx hlk Bd.returns (hb hby d2_29) ?_ (by decide) (by decide)
                            show Q2 Z a1 x0 x1 x2 x3 x4 h0 n0 _ s₁.heap _
                            rw [e0]
                            refine ⟨?_, N0, rfl⟩
                            rw [own_ne, if_neg (fun q => own_n3 _ _ _ hc1 hc2 hc3 ((own_sep x0).mp q)), if_neg (fun q => own_n3 _ _ _ hc4 hc5 hc6 ((own_sep x1).mp q)), if_neg (fun q => own_n3 _ _ _ hc7 hc8 hc9 ((own_sep x2).mp q)), if_neg (fun q => own_n3 _ _ _ hc10 hc11 hc12 ((own_sep x3).mp q))]
                          · refine Gl.pre (fun _ k => XS.ifNo X0.here hx rfl (hb hby d2_5) rfl ((if0 _ _).trans (feq hc13).1) k) ?_
                            show Gl p.tables e below PP (s₁.setTop (mkF m 8 #[.val (.ref a1), .val (.int (4 : Int32))] []))
                            refine Gl.pre (fun _ k => XS.aloadN X0.here hx rfl (hb hby d2_8) rfl rfl k) ?_
                            show Gl p.tables e below PP (s₁.setTop (mkF m 9 #[.val (.ref a1), .val (.int (4 : Int32))] [(.ref a1)]))
                            refine Gl.pre (fun _ k => XS.iloadN X0.here hx rfl (hb hby d2_9) rfl k) ?_
                            show Gl p.tables e below PP (s₁.setTop (mkF m 10 #[.val (.ref a1), .val (.int (4 : Int32))] [(.int (4 : Int32)), (.ref a1)]))
                            refine Gl.pre (fun _ k => own_ldB X0 hx hZ e0 V_a1 (j := (4 : Int32)) (i := 4) (by decide) (by decide) (Nat.lt_of_lt_of_eq (by decide : 4 < 5) rfl) (v := x4) rfl (g := (mkF m 10 #[.val (.ref a1), .val (.int (4 : Int32))] [(.int (4 : Int32)), (.ref a1)])) rfl rfl (hb hby d2_10) _ k) ?_
                            show Gl p.tables e below PP (s₁.setTop (mkF m 11 #[.val (.ref a1), .val (.int (4 : Int32))] [(.int x4)]))
                            refine Gl.pre (fun _ k => XS.iconst X0.here hx rfl (hb hby d2_11) k) ?_
                            show Gl p.tables e below PP (s₁.setTop (mkF m 12 #[.val (.ref a1), .val (.int (4 : Int32))] [(.int (1 : Int32)), (.int x4)]))
                            by_cases hc14 : x4 = (1 : Int32)
                            · refine Gl.pre (fun _ k => XS.icmpYes X0.here hx rfl (pc0 := 12) (pc' := 28) rfl (hb hby d2_12) rfl (teq hc14).1 (by decide) (by decide) k) ?_
                              show Gl p.tables e below PP (s₁.setTop (mkF m 28 #[.val (.ref a1), .val (.int (4 : Int32))] []))
                              refine Gl.pre (fun _ k => XS.iloadN X0.here hx rfl (hb hby d2_28) rfl k) ?_
                              show Gl p.tables e below PP (s₁.setTop (mkF m 29 #[.val (.ref a1), .val (.int (4 : Int32))] [(.int (4 : Int32))]))
                              rw [hPP]
                              refine own_finI (Q := (Q2 Z a1 x0 x1 x2 x3 x4 h0 n0)) X0 hx hlk Bd.returns (hb hby d2_29) ?_ (by decide) (by decide)
                              show Q2 Z a1 x0 x1 x2 x3 x4 h0 n0 _ s₁.heap _
                              rw [e0]
                              refine ⟨?_, N0, rfl⟩
                              rw [own_ne, if_neg (fun q => own_n3 _ _ _ hc1 hc2 hc3 ((own_sep x0).mp q)), if_neg (fun q => own_n3 _ _ _ hc4 hc5 hc6 ((own_sep x1).mp q)), if_neg (fun q => own_n3 _ _ _ hc7 hc8 hc9 ((own_sep x2).mp q)), if_neg (fun q => own_n3 _ _ _ hc10 hc11 hc12 ((own_sep x3).mp q))]
                            · refine Gl.pre (fun _ k => XS.icmpNo X0.here hx rfl (hb hby d2_12) rfl (feq hc14).1 k) ?_
                              show Gl p.tables e below PP (s₁.setTop (mkF m 15 #[.val (.ref a1), .val (.int (4 : Int32))] []))
                              refine Gl.pre (fun _ k => XS.aloadN X0.here hx rfl (hb hby d2_15) rfl rfl k) ?_
                              show Gl p.tables e below PP (s₁.setTop (mkF m 16 #[.val (.ref a1), .val (.int (4 : Int32))] [(.ref a1)]))
                              refine Gl.pre (fun _ k => XS.iloadN X0.here hx rfl (hb hby d2_16) rfl k) ?_
                              show Gl p.tables e below PP (s₁.setTop (mkF m 17 #[.val (.ref a1), .val (.int (4 : Int32))] [(.int (4 : Int32)), (.ref a1)]))
                              refine Gl.pre (fun _ k => own_ldB X0 hx hZ e0 V_a1 (j := (4 : Int32)) (i := 4) (by decide) (by decide) (Nat.lt_of_lt_of_eq (by decide : 4 < 5) rfl) (v := x4) rfl (g := (mkF m 17 #[.val (.ref a1), .val (.int (4 : Int32))] [(.int (4 : Int32)), (.ref a1)])) rfl rfl (hb hby d2_17) _ k) ?_
                              show Gl p.tables e below PP (s₁.setTop (mkF m 18 #[.val (.ref a1), .val (.int (4 : Int32))] [(.int x4)]))
                              refine Gl.pre (fun _ k => XS.iconst X0.here hx rfl (hb hby d2_18) k) ?_
                              show Gl p.tables e below PP (s₁.setTop (mkF m 19 #[.val (.ref a1), .val (.int (4 : Int32))] [(.int (2 : Int32)), (.int x4)]))
                              refine Gl.pre (fun _ k => XS.icmpYes X0.here hx rfl (pc0 := 19) (pc' := 28) rfl (hb hby d2_19) rfl (teq (show x4 = (2 : Int32) from (hs.resolve_left hc13).resolve_left hc14)).1 (by decide) (by decide) k) ?_
                              show Gl p.tables e below PP (s₁.setTop (mkF m 28 #[.val (.ref a1), .val (.int (4 : Int32))] []))
                              refine Gl.pre (fun _ k => XS.iloadN X0.here hx rfl (hb hby d2_28) rfl k) ?_
                              show Gl p.tables e below PP (s₁.setTop (mkF m 29 #[.val (.ref a1), .val (.int (4 : Int32))] [(.int (4 : Int32))]))
                              rw [hPP]
                              refine own_finI (Q := (Q2 Z a1 x0 x1 x2 x3 x4 h0 n0)) X0 hx hlk Bd.returns (hb hby d2_29) ?_ (by decide) (by decide)
                              show Q2 Z a1 x0 x1 x2 x3 x4 h0 n0 _ s₁.heap _
                              rw [e0]
                              refine ⟨?_, N0, rfl⟩
                              rw [own_ne, if_neg (fun q => own_n3 _ _ _ hc1 hc2 hc3 ((own_sep x0).mp q)), if_neg (fun q => own_n3 _ _ _ hc4 hc5 hc6 ((own_sep x1).mp q)), if_neg (fun q => own_n3 _ _ _ hc7 hc8 hc9 ((own_sep x2).mp q)), if_neg (fun q => own_n3 _ _ _ hc10 hc11 hc12 ((own_sep x3).mp q))]
theorem pn_0 : plainName "com/example/hermod/hermod/RecordKeysNameEndPinLaw" = true := by first | (simp [plainName, overriddenIn]; done) | decide +kernel
theorem ef_0 (m : MethodId) (p1 : Int32) (p2 : Int32) (p3 : Int32) (p4 : Int32) (p5 : Int32) : entryFrame m #[(.int p1), (.int p2), (.int p3), (.int p4), (.int p5)] maxLocals = mkF m 0 #[.val (.int p1), .val (.int p2), .val (.int p3), .val (.int p4), .val (.int p5), .unset, .unset] [] := by first | (simp [entryFrame, mkF, argsToLocals, Value.category, maxLocals]; done) | rfl
def Q0 (Z : State) (p1 : Int32) (p2 : Int32) (p3 : Int32) (p4 : Int32) (p5 : Int32) (h0 : Heap) (n0 : Nat) (v : Option Value) (h : Heap) (L : List Loc) : Prop := v = some (.int (1 : Int32)) ∧ Fr n0 L
set_option maxRecDepth 65536 in
set_option maxHeartbeats 40000000 in
theorem rm0 (l : Launch) (Z : State) (a0 : Array Value) (hw : ∀ d ∈ tables_1, d.before a0 Z = true) (ws : List Jvm.Cond) (p1 : Int32) (p2 : Int32) (p3 : Int32) (p4 : Int32) (p5 : Int32) (h0 : Heap) (n0 : Nat) (Z0 : n0 ≤ h0.size)  :
    MetFree l x (head1 (Jvm.Cond.code x code maxLocals ret :: ws) room_1) (fun a U => a = #[(.int p1), (.int p2), (.int p3), (.int p4), (.int p5)] ∧ Z.Warmed39 U.vm ∧ U.heap = h0) (fun _ _ _ _ _ => True) (fun _ U o U' => ∃ v L, o = .returned v ∧ Q0 Z p1 p2 p3 p4 p5 h0 n0 v U'.heap L ∧ FrameEnd U o U' L room_1.cells room_1.slots) := by
  refine MetFree.of_bodySF (plainFor_of_name pn_0) hisR ?_
  intro p e s m args below meth c s₁ Bd hml0 hP hK
  obtain ⟨rfl, hZ, hh⟩ := hP
  have hx := Bd.exec
  have hby := Bd.bytes
  have hlk : meth.locks = false := BodyLoose.notSynchronized Bd
  have hml : c.maxLocals = 7 := hml0
  have hown : s.vm.findClass "com/example/hermod/hermod/RecordKeysNameEndPinLaw" = some m.cls := findClass_of_methodNamed Bd.named
  have hnm := (name_of_methodNamed Bd.named Bd.method).1
  have X0 : Stand p l e room_1 s m #[(.int p1), (.int p2), (.int p3), (.int p4), (.int p5)] below meth c s₁ [] 0 0 := Stand.of_body Bd
  have e0 : s₁.heap = h0 := by rw [← hh, Bd.state]; rfl
  have N0 := Fr.nil n0
  show Gl p.tables e below (fun (o : Outcome) (U' : State) => ∃ v L, o = .returned v ∧ Q0 Z p1 p2 p3 p4 p5 h0 n0 v U'.heap L ∧ FrameEnd s o U' L room_1.cells room_1.slots) _
  refine Gl.pre (fun t k => castTop (ef_0 m p1 p2 p3 p4 p5) k) ?_
  obtain ⟨PP, hPP⟩ : ∃ P : Outcome → State → Prop, P = (fun (o : Outcome) (U' : State) => ∃ v L, o = .returned v ∧ Q0 Z p1 p2 p3 p4 p5 h0 n0 v U'.heap L ∧ FrameEnd s o U' L room_1.cells room_1.slots) := ⟨_, rfl⟩
  rw [← hPP]
  show Gl p.tables e below PP (s₁.setTop (mkF m 0 #[.val (.int p1), .val (.int p2), .val (.int p3), .val (.int p4), .val (.int p5), .unset, .unset] []))
  refine Gl.pre (fun _ k => XS.iconst X0.here hx rfl (hb hby at_0) k) ?_
  show Gl p.tables e below PP (s₁.setTop (mkF m 1 #[.val (.int p1), .val (.int p2), .val (.int p3), .val (.int p4), .val (.int p5), .unset, .unset] [(.int (5 : Int32))]))
  obtain ⟨T1, h1, k1, X1, e1, E1, A1, st1⟩ := newP X0 hx hZ (hw _ (List.mem_of_getElem? (i := 0) rfl)) e0 (g := (mkF m 1 #[.val (.int p1), .val (.int p2), .val (.int p3), .val (.int p4), .val (.int p5), .unset, .unset] [(.int (5 : Int32))])) rfl (hb hby at_1) rfl (by decide) (cap := 5) (by decide) (by decide) (by decide) (by decide)
  obtain ⟨b1, g1⟩ : ∃ z, z = h0.size := ⟨_, rfl⟩
  rw [← g1] at A1 st1
  refine Gl.pre (fun _ k => st1 _ k) ?_
  have g_b1 : n0 ≤ b1 := Nat.le_trans Z0 (Nat.le_of_eq g1.symm)
  have Z1 : n0 ≤ h1.size := Nat.le_trans Z0 E1.1
  have V_b1 : Bal Z h1 b1 .byte [(0 : Int32), (0 : Int32), (0 : Int32), (0 : Int32), (0 : Int32)] := Bal.new (ty := .byte) A1 (n := 5) (by decide) rfl
  show Gl p.tables e below PP (T1.setTop (mkF m 3 #[.val (.int p1), .val (.int p2), .val (.int p3), .val (.int p4), .val (.int p5), .unset, .unset] [(.ref b1)]))
  refine Gl.pre (fun _ k => XS.astore X1.here hx rfl (hb hby at_3) rfl rfl (l' := #[.val (.int p1), .val (.int p2), .val (.int p3), .val (.int p4), .val (.int p5), .val (.ref b1), .unset]) rfl k) ?_
  show Gl p.tables e below PP (T1.setTop (mkF m 5 #[.val (.int p1), .val (.int p2), .val (.int p3), .val (.int p4), .val (.int p5), .val (.ref b1), .unset] []))
  refine Gl.pre (fun _ k => XS.aload X1.here hx rfl (hb hby at_5) rfl rfl k) ?_
  show Gl p.tables e below PP (T1.setTop (mkF m 7 #[.val (.int p1), .val (.int p2), .val (.int p3), .val (.int p4), .val (.int p5), .val (.ref b1), .unset] [(.ref b1)]))
  refine Gl.pre (fun _ k => XS.iconst X1.here hx rfl (hb hby at_7) k) ?_
  show Gl p.tables e below PP (T1.setTop (mkF m 8 #[.val (.int p1), .val (.int p2), .val (.int p3), .val (.int p4), .val (.int p5), .val (.ref b1), .unset] [(.int (0 : Int32)), (.ref b1)]))
  refine Gl.pre (fun _ k => XS.iloadN X1.here hx rfl (hb hby at_8) rfl k) ?_
  show Gl p.tables e below PP (T1.setTop (mkF m 9 #[.val (.int p1), .val (.int p2), .val (.int p3), .val (.int p4), .val (.int p5), .val (.ref b1), .unset] [(.int p1), (.int (0 : Int32)), (.ref b1)]))
  refine Gl.pre (fun _ k => XS.i2b X1.here hx rfl (hb hby at_9) rfl k) ?_
  show Gl p.tables e below PP (T1.setTop (mkF m 10 #[.val (.int p1), .val (.int p2), .val (.int p3), .val (.int p4), .val (.int p5), .val (.ref b1), .unset] [(.int (p1.toInt8.toInt32)), (.int (0 : Int32)), (.ref b1)]))
  obtain ⟨T2, h2, X2, e2, W2, V2, st2⟩ := own_stB X1 hx hZ e1 V_b1 (j := (0 : Int32)) (i := 0) (by decide) (by decide) (Nat.lt_of_lt_of_eq (by decide : 0 < 5) rfl) (g := (mkF m 10 #[.val (.int p1), .val (.int p2), .val (.int p3), .val (.int p4), .val (.int p5), .val (.ref b1), .unset] [(.int (p1.toInt8.toInt32)), (.int (0 : Int32)), (.ref b1)])) rfl rfl (hb hby at_10)
  refine Gl.pre (fun _ k => st2 _ k) ?_
  have Z2 : n0 ≤ h2.size := by rw [W2.size]; exact Z1
  have N2 := Fr.snoc X2 N0 g_b1
  have V_b1 : Bal Z h2 b1 .byte [(nar .byte (p1.toInt8.toInt32)), (0 : Int32), (0 : Int32), (0 : Int32), (0 : Int32)] := V2
  show Gl p.tables e below PP (T2.setTop (mkF m 11 #[.val (.int p1), .val (.int p2), .val (.int p3), .val (.int p4), .val (.int p5), .val (.ref b1), .unset] []))
  refine Gl.pre (fun _ k => XS.aload X2.here hx rfl (hb hby at_11) rfl rfl k) ?_
  show Gl p.tables e below PP (T2.setTop (mkF m 13 #[.val (.int p1), .val (.int p2), .val (.int p3), .val (.int p4), .val (.int p5), .val (.ref b1), .unset] [(.ref b1)]))
  refine Gl.pre (fun _ k => XS.iconst X2.here hx rfl (hb hby at_13) k) ?_
  show Gl p.tables e below PP (T2.setTop (mkF m 14 #[.val (.int p1), .val (.int p2), .val (.int p3), .val (.int p4), .val (.int p5), .val (.ref b1), .unset] [(.int (1 : Int32)), (.ref b1)]))
  refine Gl.pre (fun _ k => XS.iloadN X2.here hx rfl (hb hby at_14) rfl k) ?_
  show Gl p.tables e below PP (T2.setTop (mkF m 15 #[.val (.int p1), .val (.int p2), .val (.int p3), .val (.int p4), .val (.int p5), .val (.ref b1), .unset] [(.int p2), (.int (1 : Int32)), (.ref b1)]))
  refine Gl.pre (fun _ k => XS.i2b X2.here hx rfl (hb hby at_15) rfl k) ?_
  show Gl p.tables e below PP (T2.setTop (mkF m 16 #[.val (.int p1), .val (.int p2), .val (.int p3), .val (.int p4), .val (.int p5), .val (.ref b1), .unset] [(.int (p2.toInt8.toInt32)), (.int (1 : Int32)), (.ref b1)]))
  obtain ⟨T3, h3, X3, e3, W3, V3, st3⟩ := own_stB X2 hx hZ e2 V_b1 (j := (1 : Int32)) (i := 1) (by decide) (by decide) (Nat.lt_of_lt_of_eq (by decide : 1 < 5) rfl) (g := (mkF m 16 #[.val (.int p1), .val (.int p2), .val (.int p3), .val (.int p4), .val (.int p5), .val (.ref b1), .unset] [(.int (p2.toInt8.toInt32)), (.int (1 : Int32)), (.ref b1)])) rfl rfl (hb hby at_16)
  refine Gl.pre (fun _ k => st3 _ k) ?_
  have Z3 : n0 ≤ h3.size := by rw [W3.size]; exact Z2
  have N3 := Fr.snoc X3 N2 g_b1
  have V_b1 : Bal Z h3 b1 .byte [(nar .byte (p1.toInt8.toInt32)), (nar .byte (p2.toInt8.toInt32)), (0 : Int32), (0 : Int32), (0 : Int32)] := V3
  show Gl p.tables e below PP (T3.setTop (mkF m 17 #[.val (.int p1), .val (.int p2), .val (.int p3), .val (.int p4), .val (.int p5), .val (.ref b1), .unset] []))
  refine Gl.pre (fun _ k => XS.aload X3.here hx rfl (hb hby at_17) rfl rfl k) ?_
  show Gl p.tables e below PP (T3.setTop (mkF m 19 #[.val (.int p1), .val (.int p2), .val (.int p3), .val (.int p4), .val (.int p5), .val (.ref b1), .unset] [(.ref b1)]))
  refine Gl.pre (fun _ k => XS.iconst X3.here hx rfl (hb hby at_19) k) ?_
  show Gl p.tables e below PP (T3.setTop (mkF m 20 #[.val (.int p1), .val (.int p2), .val (.int p3), .val (.int p4), .val (.int p5), .val (.ref b1), .unset] [(.int (2 : Int32)), (.ref b1)]))
  refine Gl.pre (fun _ k => XS.iloadN X3.here hx rfl (hb hby at_20) rfl k) ?_
  show Gl p.tables e below PP (T3.setTop (mkF m 21 #[.val (.int p1), .val (.int p2), .val (.int p3), .val (.int p4), .val (.int p5), .val (.ref b1), .unset] [(.int p3), (.int (2 : Int32)), (.ref b1)]))
  refine Gl.pre (fun _ k => XS.i2b X3.here hx rfl (hb hby at_21) rfl k) ?_
  show Gl p.tables e below PP (T3.setTop (mkF m 22 #[.val (.int p1), .val (.int p2), .val (.int p3), .val (.int p4), .val (.int p5), .val (.ref b1), .unset] [(.int (p3.toInt8.toInt32)), (.int (2 : Int32)), (.ref b1)]))
  obtain ⟨T4, h4, X4, e4, W4, V4, st4⟩ := own_stB X3 hx hZ e3 V_b1 (j := (2 : Int32)) (i := 2) (by decide) (by decide) (Nat.lt_of_lt_of_eq (by decide : 2 < 5) rfl) (g := (mkF m 22 #[.val (.int p1), .val (.int p2), .val (.int p3), .val (.int p4), .val (.int p5), .val (.ref b1), .unset] [(.int (p3.toInt8.toInt32)), (.int (2 : Int32)), (.ref b1)])) rfl rfl (hb hby at_22)
  refine Gl.pre (fun _ k => st4 _ k) ?_
  have Z4 : n0 ≤ h4.size := by rw [W4.size]; exact Z3
  have N4 := Fr.snoc X4 N3 g_b1
  have V_b1 : Bal Z h4 b1 .byte [(nar .byte (p1.toInt8.toInt32)), (nar .byte (p2.toInt8.toInt32)), (nar .byte (p3.toInt8.toInt32)), (0 : Int32), (0 : Int32)] := V4
  show Gl p.tables e below PP (T4.setTop (mkF m 23 #[.val (.int p1), .val (.int p2), .val (.int p3), .val (.int p4), .val (.int p5), .val (.ref b1), .unset] []))
  refine Gl.pre (fun _ k => XS.aload X4.here hx rfl (hb hby at_23) rfl rfl k) ?_
  show Gl p.tables e below PP (T4.setTop (mkF m 25 #[.val (.int p1), .val (.int p2), .val (.int p3), .val (.int p4), .val (.int p5), .val (.ref b1), .unset] [(.ref b1)]))
  refine Gl.pre (fun _ k => XS.iconst X4.here hx rfl (hb hby at_25) k) ?_
  show Gl p.tables e below PP (T4.setTop (mkF m 26 #[.val (.int p1), .val (.int p2), .val (.int p3), .val (.int p4), .val (.int p5), .val (.ref b1), .unset] [(.int (3 : Int32)), (.ref b1)]))
  refine Gl.pre (fun _ k => XS.iloadN X4.here hx rfl (hb hby at_26) rfl k) ?_
  show Gl p.tables e below PP (T4.setTop (mkF m 27 #[.val (.int p1), .val (.int p2), .val (.int p3), .val (.int p4), .val (.int p5), .val (.ref b1), .unset] [(.int p4), (.int (3 : Int32)), (.ref b1)]))
  refine Gl.pre (fun _ k => XS.i2b X4.here hx rfl (hb hby at_27) rfl k) ?_
  show Gl p.tables e below PP (T4.setTop (mkF m 28 #[.val (.int p1), .val (.int p2), .val (.int p3), .val (.int p4), .val (.int p5), .val (.ref b1), .unset] [(.int (p4.toInt8.toInt32)), (.int (3 : Int32)), (.ref b1)]))
  obtain ⟨T5, h5, X5, e5, W5, V5, st5⟩ := own_stB X4 hx hZ e4 V_b1 (j := (3 : Int32)) (i := 3) (by decide) (by decide) (Nat.lt_of_lt_of_eq (by decide : 3 < 5) rfl) (g := (mkF m 28 #[.val (.int p1), .val (.int p2), .val (.int p3), .val (.int p4), .val (.int p5), .val (.ref b1), .unset] [(.int (p4.toInt8.toInt32)), (.int (3 : Int32)), (.ref b1)])) rfl rfl (hb hby at_28)
  refine Gl.pre (fun _ k => st5 _ k) ?_
  have Z5 : n0 ≤ h5.size := by rw [W5.size]; exact Z4
  have N5 := Fr.snoc X5 N4 g_b1
  have V_b1 : Bal Z h5 b1 .byte [(nar .byte (p1.toInt8.toInt32)), (nar .byte (p2.toInt8.toInt32)), (nar .byte (p3.toInt8.toInt32)), (nar .byte (p4.toInt8.toInt32)), (0 : Int32)] := V5
  show Gl p.tables e below PP (T5.setTop (mkF m 29 #[.val (.int p1), .val (.int p2), .val (.int p3), .val (.int p4), .val (.int p5), .val (.ref b1), .unset] []))
  refine Gl.pre (fun _ k => XS.aload X5.here hx rfl (hb hby at_29) rfl rfl k) ?_
  show Gl p.tables e below PP (T5.setTop (mkF m 31 #[.val (.int p1), .val (.int p2), .val (.int p3), .val (.int p4), .val (.int p5), .val (.ref b1), .unset] [(.ref b1)]))
  refine Gl.pre (fun _ k => XS.iconst X5.here hx rfl (hb hby at_31) k) ?_
  show Gl p.tables e below PP (T5.setTop (mkF m 32 #[.val (.int p1), .val (.int p2), .val (.int p3), .val (.int p4), .val (.int p5), .val (.ref b1), .unset] [(.int (4 : Int32)), (.ref b1)]))
  refine Gl.pre (fun _ k => XS.iload X5.here hx rfl (hb hby at_32) rfl k) ?_
  show Gl p.tables e below PP (T5.setTop (mkF m 34 #[.val (.int p1), .val (.int p2), .val (.int p3), .val (.int p4), .val (.int p5), .val (.ref b1), .unset] [(.int p5), (.int (4 : Int32)), (.ref b1)]))
  refine Gl.pre (fun _ k => X5.ldcInt hx hown (mvT hZ (hw _ (List.mem_of_getElem? (i := 1) rfl))) (g := (mkF m 34 #[.val (.int p1), .val (.int p2), .val (.int p3), .val (.int p4), .val (.int p5), .val (.ref b1), .unset] [(.int p5), (.int (4 : Int32)), (.ref b1)])) rfl (hb hby at_34) _ k) ?_
  show Gl p.tables e below PP (T5.setTop (mkF m 36 #[.val (.int p1), .val (.int p2), .val (.int p3), .val (.int p4), .val (.int p5), .val (.ref b1), .unset] [(.int (2147483647 : Int32)), (.int p5), (.int (4 : Int32)), (.ref b1)]))
  refine Gl.pre (fun _ k => XS.iand X5.here hx rfl (hb hby at_36) rfl k) ?_
  show Gl p.tables e below PP (T5.setTop (mkF m 37 #[.val (.int p1), .val (.int p2), .val (.int p3), .val (.int p4), .val (.int p5), .val (.ref b1), .unset] [(.int (p5 &&& (2147483647 : Int32))), (.int (4 : Int32)), (.ref b1)]))
  refine Gl.pre (fun _ k => XS.iconst X5.here hx rfl (hb hby at_37) k) ?_
  show Gl p.tables e below PP (T5.setTop (mkF m 38 #[.val (.int p1), .val (.int p2), .val (.int p3), .val (.int p4), .val (.int p5), .val (.ref b1), .unset] [(.int (3 : Int32)), (.int (p5 &&& (2147483647 : Int32))), (.int (4 : Int32)), (.ref b1)]))
  refine Gl.pre (fun _ k => iremM X5 hx rfl (hb hby at_38) rfl (by decide) k) ?_
  show Gl p.tables e below PP (T5.setTop (mkF m 39 #[.val (.int p1), .val (.int p2), .val (.int p3), .val (.int p4), .val (.int p5), .val (.ref b1), .unset] [(.int ((p5 &&& (2147483647 : Int32)) % (3 : Int32))), (.int (4 : Int32)), (.ref b1)]))
  refine Gl.pre (fun _ k => XS.i2b X5.here hx rfl (hb hby at_39) rfl k) ?_
  show Gl p.tables e below PP (T5.setTop (mkF m 40 #[.val (.int p1), .val (.int p2), .val (.int p3), .val (.int p4), .val (.int p5), .val (.ref b1), .unset] [(.int (((p5 &&& (2147483647 : Int32)) % (3 : Int32)).toInt8.toInt32)), (.int (4 : Int32)), (.ref b1)]))
  obtain ⟨T6, h6, X6, e6, W6, V6, st6⟩ := own_stB X5 hx hZ e5 V_b1 (j := (4 : Int32)) (i := 4) (by decide) (by decide) (Nat.lt_of_lt_of_eq (by decide : 4 < 5) rfl) (g := (mkF m 40 #[.val (.int p1), .val (.int p2), .val (.int p3), .val (.int p4), .val (.int p5), .val (.ref b1), .unset] [(.int (((p5 &&& (2147483647 : Int32)) % (3 : Int32)).toInt8.toInt32)), (.int (4 : Int32)), (.ref b1)])) rfl rfl (hb hby at_40)
  refine Gl.pre (fun _ k => st6 _ k) ?_
  have Z6 : n0 ≤ h6.size := by rw [W6.size]; exact Z5
  have N6 := Fr.snoc X6 N5 g_b1
  have V_b1 : Bal Z h6 b1 .byte [(nar .byte (p1.toInt8.toInt32)), (nar .byte (p2.toInt8.toInt32)), (nar .byte (p3.toInt8.toInt32)), (nar .byte (p4.toInt8.toInt32)), (nar .byte (((p5 &&& (2147483647 : Int32)) % (3 : Int32)).toInt8.toInt32))] := V6
  show Gl p.tables e below PP (T6.setTop (mkF m 41 #[.val (.int p1), .val (.int p2), .val (.int p3), .val (.int p4), .val (.int p5), .val (.ref b1), .unset] []))
  refine Gl.pre (fun _ k => XS.aload X6.here hx rfl (hb hby at_41) rfl rfl k) ?_
  show Gl p.tables e below PP (T6.setTop (mkF m 43 #[.val (.int p1), .val (.int p2), .val (.int p3), .val (.int p4), .val (.int p5), .val (.ref b1), .unset] [(.ref b1)]))
  refine Gl.pre (fun _ k => XS.iconst X6.here hx rfl (hb hby at_43) k) ?_
  show Gl p.tables e below PP (T6.setTop (mkF m 44 #[.val (.int p1), .val (.int p2), .val (.int p3), .val (.int p4), .val (.int p5), .val (.ref b1), .unset] [(.int (0 : Int32)), (.ref b1)]))
  refine Gl.pre (fun _ k => own_ldB X6 hx hZ e6 V_b1 (j := (0 : Int32)) (i := 0) (by decide) (by decide) (Nat.lt_of_lt_of_eq (by decide : 0 < 5) rfl) (v := (nar .byte (p1.toInt8.toInt32))) rfl (g := (mkF m 44 #[.val (.int p1), .val (.int p2), .val (.int p3), .val (.int p4), .val (.int p5), .val (.ref b1), .unset] [(.int (0 : Int32)), (.ref b1)])) rfl rfl (hb hby at_44) _ k) ?_
  show Gl p.tables e below PP (T6.setTop (mkF m 45 #[.val (.int p1), .val (.int p2), .val (.int p3), .val (.int p4), .val (.int p5), .val (.ref b1), .unset] [(.int (nar .byte (p1.toInt8.toInt32)))]))
  obtain ⟨_, _, ⟨T7, L7, k7, n7⟩, -, X7, ⟨Lc7, hQ7, l7, y7, z7⟩, st7⟩ := Jvm.LawKit.callS X6 hx (y := (⟨"com/example/hermod/hermod/RecordKeysNameEndPinLaw", "isSep", "(B)Z"⟩ : MethodName)) hown (mvT hZ (hw _ (List.mem_of_getElem? (i := 2) rfl))) (mvT hZ (hw _ (List.mem_of_getElem? (i := 3) rfl))) (mvT hZ (hw _ (List.mem_of_getElem? (i := 4) rfl))) (mvT hZ (hw _ (List.mem_of_getElem? (i := 5) rfl))) (by decide) (backOf (W := 0) (rm1 l Z a0 hw [] (nar .byte (p1.toInt8.toInt32)) h6 n0 Z6 ) hZ (hw _ (List.mem_of_getElem? (i := 5) rfl)) (hw _ (List.mem_of_getElem? (i := 4) rfl)) (by decide) (by decide)) (g := (mkF m 45 #[.val (.int p1), .val (.int p2), .val (.int p3), .val (.int p4), .val (.int p5), .val (.ref b1), .unset] [(.int (nar .byte (p1.toInt8.toInt32)))])) rfl (by rw [hml]; rfl) (argsL := [(.int (nar .byte (p1.toInt8.toInt32)))]) (rest := []) (lenOf pd_0 rfl) rfl (by show 2 * 0 + _ ≤ _; exact Nat.le_of_eq rfl) (hb hby at_45) (fun _ _ => ⟨rfl, e6, (by decide : 1 + 0 ≤ _), (by decide : 5 + 0 ≤ _)⟩)
  dsimp only [Pt.U, Pt.locs, Pt.cells, Pt.slots] at X7 l7 y7 z7 st7 hQ7
  subst l7 y7 z7
  obtain ⟨rfl, N7q, e7⟩ := hQ7
  have N7 := Fr.app N6 N7q
  refine Gl.pre (fun _ k => st7 _ k) ?_
  show Gl p.tables e below PP (T7.setTop (mkF m 48 #[.val (.int p1), .val (.int p2), .val (.int p3), .val (.int p4), .val (.int p5), .val (.ref b1), .unset] [(.int (own_pi (¬ ((nar .byte (p1.toInt8.toInt32)) < (0 : Int32)) ∧ ¬ ((2 : Int32) < (nar .byte (p1.toInt8.toInt32))))))]))
  by_cases hc8 : ¬ ((nar .byte (p1.toInt8.toInt32)) < (0 : Int32)) ∧ ¬ ((2 : Int32) < (nar .byte (p1.toInt8.toInt32)))
  · refine Gl.pre (fun _ k => XS.ifNo X7.here hx rfl (hb hby at_48) rfl ((if0 _ _).trans (feq (fun q => (own_pi0 (P := ¬ ((nar .byte (p1.toInt8.toInt32)) < (0 : Int32)) ∧ ¬ ((2 : Int32) < (nar .byte (p1.toInt8.toInt32))))).mp q hc8)).1) k) ?_
    show Gl p.tables e below PP (T7.setTop (mkF m 51 #[.val (.int p1), .val (.int p2), .val (.int p3), .val (.int p4), .val (.int p5), .val (.ref b1), .unset] []))
    refine Gl.pre (fun _ k => XS.iconst X7.here hx rfl (hb hby at_51) k) ?_
    show Gl p.tables e below PP (T7.setTop (mkF m 52 #[.val (.int p1), .val (.int p2), .val (.int p3), .val (.int p4), .val (.int p5), .val (.ref b1), .unset] [(.int (0 : Int32))]))
    refine Gl.pre (fun _ k => XS.istore X7.here hx rfl (hb hby at_52) rfl (l' := #[.val (.int p1), .val (.int p2), .val (.int p3), .val (.int p4), .val (.int p5), .val (.ref b1), .val (.int (0 : Int32))]) rfl k) ?_
    show Gl p.tables e below PP (T7.setTop (mkF m 54 #[.val (.int p1), .val (.int p2), .val (.int p3), .val (.int p4), .val (.int p5), .val (.ref b1), .val (.int (0 : Int32))] []))
    refine Gl.pre (fun _ k => XS.goto X7.here hx rfl (pc0 := 54) (pc' := 108) rfl (hb hby at_54) (by decide) (by decide) k) ?_
    show Gl p.tables e below PP (T7.setTop (mkF m 108 #[.val (.int p1), .val (.int p2), .val (.int p3), .val (.int p4), .val (.int p5), .val (.ref b1), .val (.int (0 : Int32))] []))
    refine Gl.pre (fun _ k => XS.aload X7.here hx rfl (hb hby at_108) rfl rfl k) ?_
    show Gl p.tables e below PP (T7.setTop (mkF m 110 #[.val (.int p1), .val (.int p2), .val (.int p3), .val (.int p4), .val (.int p5), .val (.ref b1), .val (.int (0 : Int32))] [(.ref b1)]))
    obtain ⟨_, _, ⟨T9, L9, k9, n9⟩, -, X9, ⟨Lc9, hQ9, l9, y9, z9⟩, st9⟩ := Jvm.LawKit.callS X7 hx (y := (⟨"com/example/hermod/hermod/RecordKeys", "nameEnd", "([B)I"⟩ : MethodName)) hown (mvT hZ (hw _ (List.mem_of_getElem? (i := 6) rfl))) (mvT hZ (hw _ (List.mem_of_getElem? (i := 7) rfl))) (mvT hZ (hw _ (List.mem_of_getElem? (i := 8) rfl))) (mvT hZ (hw _ (List.mem_of_getElem? (i := 9) rfl))) (by decide) (backOf (W := 0) (rm2 l Z a0 hw [] b1 (nar .byte (p1.toInt8.toInt32)) (nar .byte (p2.toInt8.toInt32)) (nar .byte (p3.toInt8.toInt32)) (nar .byte (p4.toInt8.toInt32)) (nar .byte (((p5 &&& (2147483647 : Int32)) % (3 : Int32)).toInt8.toInt32)) h6 n0 Z6 V_b1 (own_x4 p5)) hZ (hw _ (List.mem_of_getElem? (i := 9) rfl)) (hw _ (List.mem_of_getElem? (i := 8) rfl)) (by decide) (by decide)) (g := (mkF m 110 #[.val (.int p1), .val (.int p2), .val (.int p3), .val (.int p4), .val (.int p5), .val (.ref b1), .val (.int (0 : Int32))] [(.ref b1)])) rfl (by rw [hml]; rfl) (argsL := [(.ref b1)]) (rest := []) (lenOf pd_1 rfl) rfl (by show 2 * 0 + _ ≤ _; exact Nat.le_of_eq rfl) (hb hby at_110) (fun _ _ => ⟨rfl, e7, (by decide : 1 + 0 ≤ _), (by decide : 5 + 0 ≤ _)⟩)
    dsimp only [Pt.U, Pt.locs, Pt.cells, Pt.slots] at X9 l9 y9 z9 st9 hQ9
    subst l9 y9 z9
    obtain ⟨rfl, N9q, e9⟩ := hQ9
    have N9 := Fr.app N7 N9q
    refine Gl.pre (fun _ k => st9 _ k) ?_
    show Gl p.tables e below PP (T9.setTop (mkF m 113 #[.val (.int p1), .val (.int p2), .val (.int p3), .val (.int p4), .val (.int p5), .val (.ref b1), .val (.int (0 : Int32))] [(.int (own_ne (nar .byte (p1.toInt8.toInt32)) (nar .byte (p2.toInt8.toInt32)) (nar .byte (p3.toInt8.toInt32)) (nar .byte (p4.toInt8.toInt32))))]))
    refine Gl.pre (fun _ k => XS.iload X9.here hx rfl (hb hby at_113) rfl k) ?_
    show Gl p.tables e below PP (T9.setTop (mkF m 115 #[.val (.int p1), .val (.int p2), .val (.int p3), .val (.int p4), .val (.int p5), .val (.ref b1), .val (.int (0 : Int32))] [(.int (0 : Int32)), (.int (own_ne (nar .byte (p1.toInt8.toInt32)) (nar .byte (p2.toInt8.toInt32)) (nar .byte (p3.toInt8.toInt32)) (nar .byte (p4.toInt8.toInt32))))]))
    refine Gl.pre (fun _ k => XS.icmpNo X9.here hx rfl (hb hby at_115) rfl (teq (show (own_ne (nar .byte (p1.toInt8.toInt32)) (nar .byte (p2.toInt8.toInt32)) (nar .byte (p3.toInt8.toInt32)) (nar .byte (p4.toInt8.toInt32))) = (0 : Int32) from (by rw [own_ne, if_pos hc8]))).2 k) ?_
    show Gl p.tables e below PP (T9.setTop (mkF m 118 #[.val (.int p1), .val (.int p2), .val (.int p3), .val (.int p4), .val (.int p5), .val (.ref b1), .val (.int (0 : Int32))] []))
    refine Gl.pre (fun _ k => XS.iconst X9.here hx rfl (hb hby at_118) k) ?_
    show Gl p.tables e below PP (T9.setTop (mkF m 119 #[.val (.int p1), .val (.int p2), .val (.int p3), .val (.int p4), .val (.int p5), .val (.ref b1), .val (.int (0 : Int32))] [(.int (1 : Int32))]))
    refine Gl.pre (fun _ k => XS.goto X9.here hx rfl (pc0 := 119) (pc' := 123) rfl (hb hby at_119) (by decide) (by decide) k) ?_
    show Gl p.tables e below PP (T9.setTop (mkF m 123 #[.val (.int p1), .val (.int p2), .val (.int p3), .val (.int p4), .val (.int p5), .val (.ref b1), .val (.int (0 : Int32))] [(.int (1 : Int32))]))
    rw [hPP]
    refine own_finN (Q := (Q0 Z p1 p2 p3 p4 p5 h0 n0)) X9 hx hlk Bd.returns (t := .boolean) (z' := (1 : Int32)) (by simp) (by decide) (hb hby at_123) ?_ (by decide) (by decide)
    show Q0 Z p1 p2 p3 p4 p5 h0 n0 _ T9.heap _
    rw [e9]
    exact ⟨rfl, N9⟩
  · refine Gl.pre (fun _ k => XS.ifYes X7.here hx rfl (pc0 := 48) (pc' := 57) rfl (hb hby at_48) rfl ((if0 _ _).trans (teq ((own_pi0 (P := ¬ ((nar .byte (p1.toInt8.toInt32)) < (0 : Int32)) ∧ ¬ ((2 : Int32) < (nar .byte (p1.toInt8.toInt32))))).mpr hc8)).1) (by decide) (by decide) k) ?_
    show Gl p.tables e below PP (T7.setTop (mkF m 57 #[.val (.int p1), .val (.int p2), .val (.int p3), .val (.int p4), .val (.int p5), .val (.ref b1), .unset] []))
    refine Gl.pre (fun _ k => XS.aload X7.here hx rfl (hb hby at_57) rfl rfl k) ?_
    show Gl p.tables e below PP (T7.setTop (mkF m 59 #[.val (.int p1), .val (.int p2), .val (.int p3), .val (.int p4), .val (.int p5), .val (.ref b1), .unset] [(.ref b1)]))
    refine Gl.pre (fun _ k => XS.iconst X7.here hx rfl (hb hby at_59) k) ?_
    show Gl p.tables e below PP (T7.setTop (mkF m 60 #[.val (.int p1), .val (.int p2), .val (.int p3), .val (.int p4), .val (.int p5), .val (.ref b1), .unset] [(.int (1 : Int32)), (.ref b1)]))
    refine Gl.pre (fun _ k => own_ldB X7 hx hZ e7 V_b1 (j := (1 : Int32)) (i := 1) (by decide) (by decide) (Nat.lt_of_lt_of_eq (by decide : 1 < 5) rfl) (v := (nar .byte (p2.toInt8.toInt32))) rfl (g := (mkF m 60 #[.val (.int p1), .val (.int p2), .val (.int p3), .val (.int p4), .val (.int p5), .val (.ref b1), .unset] [(.int (1 : Int32)), (.ref b1)])) rfl rfl (hb hby at_60) _ k) ?_
    show Gl p.tables e below PP (T7.setTop (mkF m 61 #[.val (.int p1), .val (.int p2), .val (.int p3), .val (.int p4), .val (.int p5), .val (.ref b1), .unset] [(.int (nar .byte (p2.toInt8.toInt32)))]))
    obtain ⟨_, _, ⟨T10, L10, k10, n10⟩, -, X10, ⟨Lc10, hQ10, l10, y10, z10⟩, st10⟩ := Jvm.LawKit.callS X7 hx (y := (⟨"com/example/hermod/hermod/RecordKeysNameEndPinLaw", "isSep", "(B)Z"⟩ : MethodName)) hown (mvT hZ (hw _ (List.mem_of_getElem? (i := 2) rfl))) (mvT hZ (hw _ (List.mem_of_getElem? (i := 3) rfl))) (mvT hZ (hw _ (List.mem_of_getElem? (i := 4) rfl))) (mvT hZ (hw _ (List.mem_of_getElem? (i := 5) rfl))) (by decide) (backOf (W := 0) (rm1 l Z a0 hw [] (nar .byte (p2.toInt8.toInt32)) h6 n0 Z6 ) hZ (hw _ (List.mem_of_getElem? (i := 5) rfl)) (hw _ (List.mem_of_getElem? (i := 4) rfl)) (by decide) (by decide)) (g := (mkF m 61 #[.val (.int p1), .val (.int p2), .val (.int p3), .val (.int p4), .val (.int p5), .val (.ref b1), .unset] [(.int (nar .byte (p2.toInt8.toInt32)))])) rfl (by rw [hml]; rfl) (argsL := [(.int (nar .byte (p2.toInt8.toInt32)))]) (rest := []) (lenOf pd_0 rfl) rfl (by show 2 * 0 + _ ≤ _; exact Nat.le_of_eq rfl) (hb hby at_61) (fun _ _ => ⟨rfl, e7, (by decide : 1 + 0 ≤ _), (by decide : 5 + 0 ≤ _)⟩)
    dsimp only [Pt.U, Pt.locs, Pt.cells, Pt.slots] at X10 l10 y10 z10 st10 hQ10
    subst l10 y10 z10
    obtain ⟨rfl, N10q, e10⟩ := hQ10
    have N10 := Fr.app N7 N10q
    refine Gl.pre (fun _ k => st10 _ k) ?_
    show Gl p.tables e below PP (T10.setTop (mkF m 64 #[.val (.int p1), .val (.int p2), .val (.int p3), .val (.int p4), .val (.int p5), .val (.ref b1), .unset] [(.int (own_pi (¬ ((nar .byte (p2.toInt8.toInt32)) < (0 : Int32)) ∧ ¬ ((2 : Int32) < (nar .byte (p2.toInt8.toInt32))))))]))
    by_cases hc11 : ¬ ((nar .byte (p2.toInt8.toInt32)) < (0 : Int32)) ∧ ¬ ((2 : Int32) < (nar .byte (p2.toInt8.toInt32)))
    · refine Gl.pre (fun _ k => XS.ifNo X10.here hx rfl (hb hby at_64) rfl ((if0 _ _).trans (feq (fun q => (own_pi0 (P := ¬ ((nar .byte (p2.toInt8.toInt32)) < (0 : Int32)) ∧ ¬ ((2 : Int32) < (nar .byte (p2.toInt8.toInt32))))).mp q hc11)).1) k) ?_
      show Gl p.tables e below PP (T10.setTop (mkF m 67 #[.val (.int p1), .val (.int p2), .val (.int p3), .val (.int p4), .val (.int p5), .val (.ref b1), .unset] []))
      refine Gl.pre (fun _ k => XS.iconst X10.here hx rfl (hb hby at_67) k) ?_
      show Gl p.tables e below PP (T10.setTop (mkF m 68 #[.val (.int p1), .val (.int p2), .val (.int p3), .val (.int p4), .val (.int p5), .val (.ref b1), .unset] [(.int (1 : Int32))]))
      refine Gl.pre (fun _ k => XS.istore X10.here hx rfl (hb hby at_68) rfl (l' := #[.val (.int p1), .val (.int p2), .val (.int p3), .val (.int p4), .val (.int p5), .val (.ref b1), .val (.int (1 : Int32))]) rfl k) ?_
      show Gl p.tables e below PP (T10.setTop (mkF m 70 #[.val (.int p1), .val (.int p2), .val (.int p3), .val (.int p4), .val (.int p5), .val (.ref b1), .val (.int (1 : Int32))] []))
      refine Gl.pre (fun _ k => XS.goto X10.here hx rfl (pc0 := 70) (pc' := 108) rfl (hb hby at_70) (by decide) (by decide) k) ?_
      show Gl p.tables e below PP (T10.setTop (mkF m 108 #[.val (.int p1), .val (.int p2), .val (.int p3), .val (.int p4), .val (.int p5), .val (.ref b1), .val (.int (1 : Int32))] []))
      refine Gl.pre (fun _ k => XS.aload X10.here hx rfl (hb hby at_108) rfl rfl k) ?_
      show Gl p.tables e below PP (T10.setTop (mkF m 110 #[.val (.int p1), .val (.int p2), .val (.int p3), .val (.int p4), .val (.int p5), .val (.ref b1), .val (.int (1 : Int32))] [(.ref b1)]))
      obtain ⟨_, _, ⟨T12, L12, k12, n12⟩, -, X12, ⟨Lc12, hQ12, l12, y12, z12⟩, st12⟩ := Jvm.LawKit.callS X10 hx (y := (⟨"com/example/hermod/hermod/RecordKeys", "nameEnd", "([B)I"⟩ : MethodName)) hown (mvT hZ (hw _ (List.mem_of_getElem? (i := 6) rfl))) (mvT hZ (hw _ (List.mem_of_getElem? (i := 7) rfl))) (mvT hZ (hw _ (List.mem_of_getElem? (i := 8) rfl))) (mvT hZ (hw _ (List.mem_of_getElem? (i := 9) rfl))) (by decide) (backOf (W := 0) (rm2 l Z a0 hw [] b1 (nar .byte (p1.toInt8.toInt32)) (nar .byte (p2.toInt8.toInt32)) (nar .byte (p3.toInt8.toInt32)) (nar .byte (p4.toInt8.toInt32)) (nar .byte (((p5 &&& (2147483647 : Int32)) % (3 : Int32)).toInt8.toInt32)) h6 n0 Z6 V_b1 (own_x4 p5)) hZ (hw _ (List.mem_of_getElem? (i := 9) rfl)) (hw _ (List.mem_of_getElem? (i := 8) rfl)) (by decide) (by decide)) (g := (mkF m 110 #[.val (.int p1), .val (.int p2), .val (.int p3), .val (.int p4), .val (.int p5), .val (.ref b1), .val (.int (1 : Int32))] [(.ref b1)])) rfl (by rw [hml]; rfl) (argsL := [(.ref b1)]) (rest := []) (lenOf pd_1 rfl) rfl (by show 2 * 0 + _ ≤ _; exact Nat.le_of_eq rfl) (hb hby at_110) (fun _ _ => ⟨rfl, e10, (by decide : 1 + 0 ≤ _), (by decide : 5 + 0 ≤ _)⟩)
      dsimp only [Pt.U, Pt.locs, Pt.cells, Pt.slots] at X12 l12 y12 z12 st12 hQ12
      subst l12 y12 z12
      obtain ⟨rfl, N12q, e12⟩ := hQ12
      have N12 := Fr.app N10 N12q
      refine Gl.pre (fun _ k => st12 _ k) ?_
      show Gl p.tables e below PP (T12.setTop (mkF m 113 #[.val (.int p1), .val (.int p2), .val (.int p3), .val (.int p4), .val (.int p5), .val (.ref b1), .val (.int (1 : Int32))] [(.int (own_ne (nar .byte (p1.toInt8.toInt32)) (nar .byte (p2.toInt8.toInt32)) (nar .byte (p3.toInt8.toInt32)) (nar .byte (p4.toInt8.toInt32))))]))
      refine Gl.pre (fun _ k => XS.iload X12.here hx rfl (hb hby at_113) rfl k) ?_
      show Gl p.tables e below PP (T12.setTop (mkF m 115 #[.val (.int p1), .val (.int p2), .val (.int p3), .val (.int p4), .val (.int p5), .val (.ref b1), .val (.int (1 : Int32))] [(.int (1 : Int32)), (.int (own_ne (nar .byte (p1.toInt8.toInt32)) (nar .byte (p2.toInt8.toInt32)) (nar .byte (p3.toInt8.toInt32)) (nar .byte (p4.toInt8.toInt32))))]))
      refine Gl.pre (fun _ k => XS.icmpNo X12.here hx rfl (hb hby at_115) rfl (teq (show (own_ne (nar .byte (p1.toInt8.toInt32)) (nar .byte (p2.toInt8.toInt32)) (nar .byte (p3.toInt8.toInt32)) (nar .byte (p4.toInt8.toInt32))) = (1 : Int32) from (by rw [own_ne, if_neg hc8, if_pos hc11]))).2 k) ?_
      show Gl p.tables e below PP (T12.setTop (mkF m 118 #[.val (.int p1), .val (.int p2), .val (.int p3), .val (.int p4), .val (.int p5), .val (.ref b1), .val (.int (1 : Int32))] []))
      refine Gl.pre (fun _ k => XS.iconst X12.here hx rfl (hb hby at_118) k) ?_
      show Gl p.tables e below PP (T12.setTop (mkF m 119 #[.val (.int p1), .val (.int p2), .val (.int p3), .val (.int p4), .val (.int p5), .val (.ref b1), .val (.int (1 : Int32))] [(.int (1 : Int32))]))
      refine Gl.pre (fun _ k => XS.goto X12.here hx rfl (pc0 := 119) (pc' := 123) rfl (hb hby at_119) (by decide) (by decide) k) ?_
      show Gl p.tables e below PP (T12.setTop (mkF m 123 #[.val (.int p1), .val (.int p2), .val (.int p3), .val (.int p4), .val (.int p5), .val (.ref b1), .val (.int (1 : Int32))] [(.int (1 : Int32))]))
      rw [hPP]
      refine own_finN (Q := (Q0 Z p1 p2 p3 p4 p5 h0 n0)) X12 hx hlk Bd.returns (t := .boolean) (z' := (1 : Int32)) (by simp) (by decide) (hb hby at_123) ?_ (by decide) (by decide)
      show Q0 Z p1 p2 p3 p4 p5 h0 n0 _ T12.heap _
      rw [e12]
      exact ⟨rfl, N12⟩
    · refine Gl.pre (fun _ k => XS.ifYes X10.here hx rfl (pc0 := 64) (pc' := 73) rfl (hb hby at_64) rfl ((if0 _ _).trans (teq ((own_pi0 (P := ¬ ((nar .byte (p2.toInt8.toInt32)) < (0 : Int32)) ∧ ¬ ((2 : Int32) < (nar .byte (p2.toInt8.toInt32))))).mpr hc11)).1) (by decide) (by decide) k) ?_
      show Gl p.tables e below PP (T10.setTop (mkF m 73 #[.val (.int p1), .val (.int p2), .val (.int p3), .val (.int p4), .val (.int p5), .val (.ref b1), .unset] []))
      refine Gl.pre (fun _ k => XS.aload X10.here hx rfl (hb hby at_73) rfl rfl k) ?_
      show Gl p.tables e below PP (T10.setTop (mkF m 75 #[.val (.int p1), .val (.int p2), .val (.int p3), .val (.int p4), .val (.int p5), .val (.ref b1), .unset] [(.ref b1)]))
      refine Gl.pre (fun _ k => XS.iconst X10.here hx rfl (hb hby at_75) k) ?_
      show Gl p.tables e below PP (T10.setTop (mkF m 76 #[.val (.int p1), .val (.int p2), .val (.int p3), .val (.int p4), .val (.int p5), .val (.ref b1), .unset] [(.int (2 : Int32)), (.ref b1)]))
      refine Gl.pre (fun _ k => own_ldB X10 hx hZ e10 V_b1 (j := (2 : Int32)) (i := 2) (by decide) (by decide) (Nat.lt_of_lt_of_eq (by decide : 2 < 5) rfl) (v := (nar .byte (p3.toInt8.toInt32))) rfl (g := (mkF m 76 #[.val (.int p1), .val (.int p2), .val (.int p3), .val (.int p4), .val (.int p5), .val (.ref b1), .unset] [(.int (2 : Int32)), (.ref b1)])) rfl rfl (hb hby at_76) _ k) ?_
      show Gl p.tables e below PP (T10.setTop (mkF m 77 #[.val (.int p1), .val (.int p2), .val (.int p3), .val (.int p4), .val (.int p5), .val (.ref b1), .unset] [(.int (nar .byte (p3.toInt8.toInt32)))]))
      obtain ⟨_, _, ⟨T13, L13, k13, n13⟩, -, X13, ⟨Lc13, hQ13, l13, y13, z13⟩, st13⟩ := Jvm.LawKit.callS X10 hx (y := (⟨"com/example/hermod/hermod/RecordKeysNameEndPinLaw", "isSep", "(B)Z"⟩ : MethodName)) hown (mvT hZ (hw _ (List.mem_of_getElem? (i := 2) rfl))) (mvT hZ (hw _ (List.mem_of_getElem? (i := 3) rfl))) (mvT hZ (hw _ (List.mem_of_getElem? (i := 4) rfl))) (mvT hZ (hw _ (List.mem_of_getElem? (i := 5) rfl))) (by decide) (backOf (W := 0) (rm1 l Z a0 hw [] (nar .byte (p3.toInt8.toInt32)) h6 n0 Z6 ) hZ (hw _ (List.mem_of_getElem? (i := 5) rfl)) (hw _ (List.mem_of_getElem? (i := 4) rfl)) (by decide) (by decide)) (g := (mkF m 77 #[.val (.int p1), .val (.int p2), .val (.int p3), .val (.int p4), .val (.int p5), .val (.ref b1), .unset] [(.int (nar .byte (p3.toInt8.toInt32)))])) rfl (by rw [hml]; rfl) (argsL := [(.int (nar .byte (p3.toInt8.toInt32)))]) (rest := []) (lenOf pd_0 rfl) rfl (by show 2 * 0 + _ ≤ _; exact Nat.le_of_eq rfl) (hb hby at_77) (fun _ _ => ⟨rfl, e10, (by decide : 1 + 0 ≤ _), (by decide : 5 + 0 ≤ _)⟩)
      dsimp only [Pt.U, Pt.locs, Pt.cells, Pt.slots] at X13 l13 y13 z13 st13 hQ13
      subst l13 y13 z13
      obtain ⟨rfl, N13q, e13⟩ := hQ13
      have N13 := Fr.app N10 N13q
      refine Gl.pre (fun _ k => st13 _ k) ?_
      show Gl p.tables e below PP (T13.setTop (mkF m 80 #[.val (.int p1), .val (.int p2), .val (.int p3), .val (.int p4), .val (.int p5), .val (.ref b1), .unset] [(.int (own_pi (¬ ((nar .byte (p3.toInt8.toInt32)) < (0 : Int32)) ∧ ¬ ((2 : Int32) < (nar .byte (p3.toInt8.toInt32))))))]))
      by_cases hc14 : ¬ ((nar .byte (p3.toInt8.toInt32)) < (0 : Int32)) ∧ ¬ ((2 : Int32) < (nar .byte (p3.toInt8.toInt32)))
      · refine Gl.pre (fun _ k => XS.ifNo X13.here hx rfl (hb hby at_80) rfl ((if0 _ _).trans (feq (fun q => (own_pi0 (P := ¬ ((nar .byte (p3.toInt8.toInt32)) < (0 : Int32)) ∧ ¬ ((2 : Int32) < (nar .byte (p3.toInt8.toInt32))))).mp q hc14)).1) k) ?_
        show Gl p.tables e below PP (T13.setTop (mkF m 83 #[.val (.int p1), .val (.int p2), .val (.int p3), .val (.int p4), .val (.int p5), .val (.ref b1), .unset] []))
        refine Gl.pre (fun _ k => XS.iconst X13.here hx rfl (hb hby at_83) k) ?_
        show Gl p.tables e below PP (T13.setTop (mkF m 84 #[.val (.int p1), .val (.int p2), .val (.int p3), .val (.int p4), .val (.int p5), .val (.ref b1), .unset] [(.int (2 : Int32))]))
        refine Gl.pre (fun _ k => XS.istore X13.here hx rfl (hb hby at_84) rfl (l' := #[.val (.int p1), .val (.int p2), .val (.int p3), .val (.int p4), .val (.int p5), .val (.ref b1), .val (.int (2 : Int32))]) rfl k) ?_
        show Gl p.tables e below PP (T13.setTop (mkF m 86 #[.val (.int p1), .val (.int p2), .val (.int p3), .val (.int p4), .val (.int p5), .val (.ref b1), .val (.int (2 : Int32))] []))
        refine Gl.pre (fun _ k => XS.goto X13.here hx rfl (pc0 := 86) (pc' := 108) rfl (hb hby at_86) (by decide) (by decide) k) ?_
        show Gl p.tables e below PP (T13.setTop (mkF m 108 #[.val (.int p1), .val (.int p2), .val (.int p3), .val (.int p4), .val (.int p5), .val (.ref b1), .val (.int (2 : Int32))] []))
        refine Gl.pre (fun _ k => XS.aload X13.here hx rfl (hb hby at_108) rfl rfl k) ?_
        show Gl p.tables e below PP (T13.setTop (mkF m 110 #[.val (.int p1), .val (.int p2), .val (.int p3), .val (.int p4), .val (.int p5), .val (.ref b1), .val (.int (2 : Int32))] [(.ref b1)]))
        obtain ⟨_, _, ⟨T15, L15, k15, n15⟩, -, X15, ⟨Lc15, hQ15, l15, y15, z15⟩, st15⟩ := Jvm.LawKit.callS X13 hx (y := (⟨"com/example/hermod/hermod/RecordKeys", "nameEnd", "([B)I"⟩ : MethodName)) hown (mvT hZ (hw _ (List.mem_of_getElem? (i := 6) rfl))) (mvT hZ (hw _ (List.mem_of_getElem? (i := 7) rfl))) (mvT hZ (hw _ (List.mem_of_getElem? (i := 8) rfl))) (mvT hZ (hw _ (List.mem_of_getElem? (i := 9) rfl))) (by decide) (backOf (W := 0) (rm2 l Z a0 hw [] b1 (nar .byte (p1.toInt8.toInt32)) (nar .byte (p2.toInt8.toInt32)) (nar .byte (p3.toInt8.toInt32)) (nar .byte (p4.toInt8.toInt32)) (nar .byte (((p5 &&& (2147483647 : Int32)) % (3 : Int32)).toInt8.toInt32)) h6 n0 Z6 V_b1 (own_x4 p5)) hZ (hw _ (List.mem_of_getElem? (i := 9) rfl)) (hw _ (List.mem_of_getElem? (i := 8) rfl)) (by decide) (by decide)) (g := (mkF m 110 #[.val (.int p1), .val (.int p2), .val (.int p3), .val (.int p4), .val (.int p5), .val (.ref b1), .val (.int (2 : Int32))] [(.ref b1)])) rfl (by rw [hml]; rfl) (argsL := [(.ref b1)]) (rest := []) (lenOf pd_1 rfl) rfl (by show 2 * 0 + _ ≤ _; exact Nat.le_of_eq rfl) (hb hby at_110) (fun _ _ => ⟨rfl, e13, (by decide : 1 + 0 ≤ _), (by decide : 5 + 0 ≤ _)⟩)
        dsimp only [Pt.U, Pt.locs, Pt.cells, Pt.slots] at X15 l15 y15 z15 st15 hQ15
        subst l15 y15 z15
        obtain ⟨rfl, N15q, e15⟩ := hQ15
        have N15 := Fr.app N13 N15q
        refine Gl.pre (fun _ k => st15 _ k) ?_
        show Gl p.tables e below PP (T15.setTop (mkF m 113 #[.val (.int p1), .val (.int p2), .val (.int p3), .val (.int p4), .val (.int p5), .val (.ref b1), .val (.int (2 : Int32))] [(.int (own_ne (nar .byte (p1.toInt8.toInt32)) (nar .byte (p2.toInt8.toInt32)) (nar .byte (p3.toInt8.toInt32)) (nar .byte (p4.toInt8.toInt32))))]))
        refine Gl.pre (fun _ k => XS.iload X15.here hx rfl (hb hby at_113) rfl k) ?_
        show Gl p.tables e below PP (T15.setTop (mkF m 115 #[.val (.int p1), .val (.int p2), .val (.int p3), .val (.int p4), .val (.int p5), .val (.ref b1), .val (.int (2 : Int32))] [(.int (2 : Int32)), (.int (own_ne (nar .byte (p1.toInt8.toInt32)) (nar .byte (p2.toInt8.toInt32)) (nar .byte (p3.toInt8.toInt32)) (nar .byte (p4.toInt8.toInt32))))]))
        refine Gl.pre (fun _ k => XS.icmpNo X15.here hx rfl (hb hby at_115) rfl (teq (show (own_ne (nar .byte (p1.toInt8.toInt32)) (nar .byte (p2.toInt8.toInt32)) (nar .byte (p3.toInt8.toInt32)) (nar .byte (p4.toInt8.toInt32))) = (2 : Int32) from (by rw [own_ne, if_neg hc8, if_neg hc11, if_pos hc14]))).2 k) ?_
        show Gl p.tables e below PP (T15.setTop (mkF m 118 #[.val (.int p1), .val (.int p2), .val (.int p3), .val (.int p4), .val (.int p5), .val (.ref b1), .val (.int (2 : Int32))] []))
        refine Gl.pre (fun _ k => XS.iconst X15.here hx rfl (hb hby at_118) k) ?_
        show Gl p.tables e below PP (T15.setTop (mkF m 119 #[.val (.int p1), .val (.int p2), .val (.int p3), .val (.int p4), .val (.int p5), .val (.ref b1), .val (.int (2 : Int32))] [(.int (1 : Int32))]))
        refine Gl.pre (fun _ k => XS.goto X15.here hx rfl (pc0 := 119) (pc' := 123) rfl (hb hby at_119) (by decide) (by decide) k) ?_
        show Gl p.tables e below PP (T15.setTop (mkF m 123 #[.val (.int p1), .val (.int p2), .val (.int p3), .val (.int p4), .val (.int p5), .val (.ref b1), .val (.int (2 : Int32))] [(.int (1 : Int32))]))
        rw [hPP]
        refine own_finN (Q := (Q0 Z p1 p2 p3 p4 p5 h0 n0)) X15 hx hlk Bd.returns (t := .boolean) (z' := (1 : Int32)) (by simp) (by decide) (hb hby at_123) ?_ (by decide) (by decide)
        show Q0 Z p1 p2 p3 p4 p5 h0 n0 _ T15.heap _
        rw [e15]
        exact ⟨rfl, N15⟩
      · refine Gl.pre (fun _ k => XS.ifYes X13.here hx rfl (pc0 := 80) (pc' := 89) rfl (hb hby at_80) rfl ((if0 _ _).trans (teq ((own_pi0 (P := ¬ ((nar .byte (p3.toInt8.toInt32)) < (0 : Int32)) ∧ ¬ ((2 : Int32) < (nar .byte (p3.toInt8.toInt32))))).mpr hc14)).1) (by decide) (by decide) k) ?_
        show Gl p.tables e below PP (T13.setTop (mkF m 89 #[.val (.int p1), .val (.int p2), .val (.int p3), .val (.int p4), .val (.int p5), .val (.ref b1), .unset] []))
        refine Gl.pre (fun _ k => XS.aload X13.here hx rfl (hb hby at_89) rfl rfl k) ?_
        show Gl p.tables e below PP (T13.setTop (mkF m 91 #[.val (.int p1), .val (.int p2), .val (.int p3), .val (.int p4), .val (.int p5), .val (.ref b1), .unset] [(.ref b1)]))
        refine Gl.pre (fun _ k => XS.iconst X13.here hx rfl (hb hby at_91) k) ?_
        show Gl p.tables e below PP (T13.setTop (mkF m 92 #[.val (.int p1), .val (.int p2), .val (.int p3), .val (.int p4), .val (.int p5), .val (.ref b1), .unset] [(.int (3 : Int32)), (.ref b1)]))
        refine Gl.pre (fun _ k => own_ldB X13 hx hZ e13 V_b1 (j := (3 : Int32)) (i := 3) (by decide) (by decide) (Nat.lt_of_lt_of_eq (by decide : 3 < 5) rfl) (v := (nar .byte (p4.toInt8.toInt32))) rfl (g := (mkF m 92 #[.val (.int p1), .val (.int p2), .val (.int p3), .val (.int p4), .val (.int p5), .val (.ref b1), .unset] [(.int (3 : Int32)), (.ref b1)])) rfl rfl (hb hby at_92) _ k) ?_
        show Gl p.tables e below PP (T13.setTop (mkF m 93 #[.val (.int p1), .val (.int p2), .val (.int p3), .val (.int p4), .val (.int p5), .val (.ref b1), .unset] [(.int (nar .byte (p4.toInt8.toInt32)))]))
        obtain ⟨_, _, ⟨T16, L16, k16, n16⟩, -, X16, ⟨Lc16, hQ16, l16, y16, z16⟩, st16⟩ := Jvm.LawKit.callS X13 hx (y := (⟨"com/example/hermod/hermod/RecordKeysNameEndPinLaw", "isSep", "(B)Z"⟩ : MethodName)) hown (mvT hZ (hw _ (List.mem_of_getElem? (i := 2) rfl))) (mvT hZ (hw _ (List.mem_of_getElem? (i := 3) rfl))) (mvT hZ (hw _ (List.mem_of_getElem? (i := 4) rfl))) (mvT hZ (hw _ (List.mem_of_getElem? (i := 5) rfl))) (by decide) (backOf (W := 0) (rm1 l Z a0 hw [] (nar .byte (p4.toInt8.toInt32)) h6 n0 Z6 ) hZ (hw _ (List.mem_of_getElem? (i := 5) rfl)) (hw _ (List.mem_of_getElem? (i := 4) rfl)) (by decide) (by decide)) (g := (mkF m 93 #[.val (.int p1), .val (.int p2), .val (.int p3), .val (.int p4), .val (.int p5), .val (.ref b1), .unset] [(.int (nar .byte (p4.toInt8.toInt32)))])) rfl (by rw [hml]; rfl) (argsL := [(.int (nar .byte (p4.toInt8.toInt32)))]) (rest := []) (lenOf pd_0 rfl) rfl (by show 2 * 0 + _ ≤ _; exact Nat.le_of_eq rfl) (hb hby at_93) (fun _ _ => ⟨rfl, e13, (by decide : 1 + 0 ≤ _), (by decide : 5 + 0 ≤ _)⟩)
        dsimp only [Pt.U, Pt.locs, Pt.cells, Pt.slots] at X16 l16 y16 z16 st16 hQ16
        subst l16 y16 z16
        obtain ⟨rfl, N16q, e16⟩ := hQ16
        have N16 := Fr.app N13 N16q
        refine Gl.pre (fun _ k => st16 _ k) ?_
        show Gl p.tables e below PP (T16.setTop (mkF m 96 #[.val (.int p1), .val (.int p2), .val (.int p3), .val (.int p4), .val (.int p5), .val (.ref b1), .unset] [(.int (own_pi (¬ ((nar .byte (p4.toInt8.toInt32)) < (0 : Int32)) ∧ ¬ ((2 : Int32) < (nar .byte (p4.toInt8.toInt32))))))]))
        by_cases hc17 : ¬ ((nar .byte (p4.toInt8.toInt32)) < (0 : Int32)) ∧ ¬ ((2 : Int32) < (nar .byte (p4.toInt8.toInt32)))
        · refine Gl.pre (fun _ k => XS.ifNo X16.here hx rfl (hb hby at_96) rfl ((if0 _ _).trans (feq (fun q => (own_pi0 (P := ¬ ((nar .byte (p4.toInt8.toInt32)) < (0 : Int32)) ∧ ¬ ((2 : Int32) < (nar .byte (p4.toInt8.toInt32))))).mp q hc17)).1) k) ?_
          show Gl p.tables e below PP (T16.setTop (mkF m 99 #[.val (.int p1), .val (.int p2), .val (.int p3), .val (.int p4), .val (.int p5), .val (.ref b1), .unset] []))
          refine Gl.pre (fun _ k => XS.iconst X16.here hx rfl (hb hby at_99) k) ?_
          show Gl p.tables e below PP (T16.setTop (mkF m 100 #[.val (.int p1), .val (.int p2), .val (.int p3), .val (.int p4), .val (.int p5), .val (.ref b1), .unset] [(.int (3 : Int32))]))
          refine Gl.pre (fun _ k => XS.istore X16.here hx rfl (hb hby at_100) rfl (l' := #[.val (.int p1), .val (.int p2), .val (.int p3), .val (.int p4), .val (.int p5), .val (.ref b1), .val (.int (3 : Int32))]) rfl k) ?_
          show Gl p.tables e below PP (T16.setTop (mkF m 102 #[.val (.int p1), .val (.int p2), .val (.int p3), .val (.int p4), .val (.int p5), .val (.ref b1), .val (.int (3 : Int32))] []))
          refine Gl.pre (fun _ k => XS.goto X16.here hx rfl (pc0 := 102) (pc' := 108) rfl (hb hby at_102) (by decide) (by decide) k) ?_
          show Gl p.tables e below PP (T16.setTop (mkF m 108 #[.val (.int p1), .val (.int p2), .val (.int p3), .val (.int p4), .val (.int p5), .val (.ref b1), .val (.int (3 : Int32))] []))
          refine Gl.pre (fun _ k => XS.aload X16.here hx rfl (hb hby at_108) rfl rfl k) ?_
          show Gl p.tables e below PP (T16.setTop (mkF m 110 #[.val (.int p1), .val (.int p2), .val (.int p3), .val (.int p4), .val (.int p5), .val (.ref b1), .val (.int (3 : Int32))] [(.ref b1)]))
          obtain ⟨_, _, ⟨T18, L18, k18, n18⟩, -, X18, ⟨Lc18, hQ18, l18, y18, z18⟩, st18⟩ := Jvm.LawKit.callS X16 hx (y := (⟨"com/example/hermod/hermod/RecordKeys", "nameEnd", "([B)I"⟩ : MethodName)) hown (mvT hZ (hw _ (List.mem_of_getElem? (i := 6) rfl))) (mvT hZ (hw _ (List.mem_of_getElem? (i := 7) rfl))) (mvT hZ (hw _ (List.mem_of_getElem? (i := 8) rfl))) (mvT hZ (hw _ (List.mem_of_getElem? (i := 9) rfl))) (by decide) (backOf (W := 0) (rm2 l Z a0 hw [] b1 (nar .byte (p1.toInt8.toInt32)) (nar .byte (p2.toInt8.toInt32)) (nar .byte (p3.toInt8.toInt32)) (nar .byte (p4.toInt8.toInt32)) (nar .byte (((p5 &&& (2147483647 : Int32)) % (3 : Int32)).toInt8.toInt32)) h6 n0 Z6 V_b1 (own_x4 p5)) hZ (hw _ (List.mem_of_getElem? (i := 9) rfl)) (hw _ (List.mem_of_getElem? (i := 8) rfl)) (by decide) (by decide)) (g := (mkF m 110 #[.val (.int p1), .val (.int p2), .val (.int p3), .val (.int p4), .val (.int p5), .val (.ref b1), .val (.int (3 : Int32))] [(.ref b1)])) rfl (by rw [hml]; rfl) (argsL := [(.ref b1)]) (rest := []) (lenOf pd_1 rfl) rfl (by show 2 * 0 + _ ≤ _; exact Nat.le_of_eq rfl) (hb hby at_110) (fun _ _ => ⟨rfl, e16, (by decide : 1 + 0 ≤ _), (by decide : 5 + 0 ≤ _)⟩)
          dsimp only [Pt.U, Pt.locs, Pt.cells, Pt.slots] at X18 l18 y18 z18 st18 hQ18
          subst l18 y18 z18
          obtain ⟨rfl, N18q, e18⟩ := hQ18
          have N18 := Fr.app N16 N18q
          refine Gl.pre (fun _ k => st18 _ k) ?_
          show Gl p.tables e below PP (T18.setTop (mkF m 113 #[.val (.int p1), .val (.int p2), .val (.int p3), .val (.int p4), .val (.int p5), .val (.ref b1), .val (.int (3 : Int32))] [(.int (own_ne (nar .byte (p1.toInt8.toInt32)) (nar .byte (p2.toInt8.toInt32)) (nar .byte (p3.toInt8.toInt32)) (nar .byte (p4.toInt8.toInt32))))]))
          refine Gl.pre (fun _ k => XS.iload X18.here hx rfl (hb hby at_113) rfl k) ?_
          show Gl p.tables e below PP (T18.setTop (mkF m 115 #[.val (.int p1), .val (.int p2), .val (.int p3), .val (.int p4), .val (.int p5), .val (.ref b1), .val (.int (3 : Int32))] [(.int (3 : Int32)), (.int (own_ne (nar .byte (p1.toInt8.toInt32)) (nar .byte (p2.toInt8.toInt32)) (nar .byte (p3.toInt8.toInt32)) (nar .byte (p4.toInt8.toInt32))))]))
          refine Gl.pre (fun _ k => XS.icmpNo X18.here hx rfl (hb hby at_115) rfl (teq (show (own_ne (nar .byte (p1.toInt8.toInt32)) (nar .byte (p2.toInt8.toInt32)) (nar .byte (p3.toInt8.toInt32)) (nar .byte (p4.toInt8.toInt32))) = (3 : Int32) from (by rw [own_ne, if_neg hc8, if_neg hc11, if_neg hc14, if_pos hc17]))).2 k) ?_
          show Gl p.tables e below PP (T18.setTop (mkF m 118 #[.val (.int p1), .val (.int p2), .val (.int p3), .val (.int p4), .val (.int p5), .val (.ref b1), .val (.int (3 : Int32))] []))
          refine Gl.pre (fun _ k => XS.iconst X18.here hx rfl (hb hby at_118) k) ?_
          show Gl p.tables e below PP (T18.setTop (mkF m 119 #[.val (.int p1), .val (.int p2), .val (.int p3), .val (.int p4), .val (.int p5), .val (.ref b1), .val (.int (3 : Int32))] [(.int (1 : Int32))]))
          refine Gl.pre (fun _ k => XS.goto X18.here hx rfl (pc0 := 119) (pc' := 123) rfl (hb hby at_119) (by decide) (by decide) k) ?_
          show Gl p.tables e below PP (T18.setTop (mkF m 123 #[.val (.int p1), .val (.int p2), .val (.int p3), .val (.int p4), .val (.int p5), .val (.ref b1), .val (.int (3 : Int32))] [(.int (1 : Int32))]))
          rw [hPP]
          refine own_finN (Q := (Q0 Z p1 p2 p3 p4 p5 h0 n0)) X18 hx hlk Bd.returns (t := .boolean) (z' := (1 : Int32)) (by simp) (by decide) (hb hby at_123) ?_ (by decide) (by decide)
          show Q0 Z p1 p2 p3 p4 p5 h0 n0 _ T18.heap _
          rw [e18]
          exact ⟨rfl, N18⟩
        · refine Gl.pre (fun _ k => XS.ifYes X16.here hx rfl (pc0 := 96) (pc' := 105) rfl (hb hby at_96) rfl ((if0 _ _).trans (teq ((own_pi0 (P := ¬ ((nar .byte (p4.toInt8.toInt32)) < (0 : Int32)) ∧ ¬ ((2 : Int32) < (nar .byte (p4.toInt8.toInt32))))).mpr hc17)).1) (by decide) (by decide) k) ?_
          show Gl p.tables e below PP (T16.setTop (mkF m 105 #[.val (.int p1), .val (.int p2), .val (.int p3), .val (.int p4), .val (.int p5), .val (.ref b1), .unset] []))
          refine Gl.pre (fun _ k => XS.iconst X16.here hx rfl (hb hby at_105) k) ?_
          show Gl p.tables e below PP (T16.setTop (mkF m 106 #[.val (.int p1), .val (.int p2), .val (.int p3), .val (.int p4), .val (.int p5), .val (.ref b1), .unset] [(.int (4 : Int32))]))
          refine Gl.pre (fun _ k => XS.istore X16.here hx rfl (hb hby at_106) rfl (l' := #[.val (.int p1), .val (.int p2), .val (.int p3), .val (.int p4), .val (.int p5), .val (.ref b1), .val (.int (4 : Int32))]) rfl k) ?_
          show Gl p.tables e below PP (T16.setTop (mkF m 108 #[.val (.int p1), .val (.int p2), .val (.int p3), .val (.int p4), .val (.int p5), .val (.ref b1), .val (.int (4 : Int32))] []))
          refine Gl.pre (fun _ k => XS.aload X16.here hx rfl (hb hby at_108) rfl rfl k) ?_
          show Gl p.tables e below PP (T16.setTop (mkF m 110 #[.val (.int p1), .val (.int p2), .val (.int p3), .val (.int p4), .val (.int p5), .val (.ref b1), .val (.int (4 : Int32))] [(.ref b1)]))
          obtain ⟨_, _, ⟨T19, L19, k19, n19⟩, -, X19, ⟨Lc19, hQ19, l19, y19, z19⟩, st19⟩ := Jvm.LawKit.callS X16 hx (y := (⟨"com/example/hermod/hermod/RecordKeys", "nameEnd", "([B)I"⟩ : MethodName)) hown (mvT hZ (hw _ (List.mem_of_getElem? (i := 6) rfl))) (mvT hZ (hw _ (List.mem_of_getElem? (i := 7) rfl))) (mvT hZ (hw _ (List.mem_of_getElem? (i := 8) rfl))) (mvT hZ (hw _ (List.mem_of_getElem? (i := 9) rfl))) (by decide) (backOf (W := 0) (rm2 l Z a0 hw [] b1 (nar .byte (p1.toInt8.toInt32)) (nar .byte (p2.toInt8.toInt32)) (nar .byte (p3.toInt8.toInt32)) (nar .byte (p4.toInt8.toInt32)) (nar .byte (((p5 &&& (2147483647 : Int32)) % (3 : Int32)).toInt8.toInt32)) h6 n0 Z6 V_b1 (own_x4 p5)) hZ (hw _ (List.mem_of_getElem? (i := 9) rfl)) (hw _ (List.mem_of_getElem? (i := 8) rfl)) (by decide) (by decide)) (g := (mkF m 110 #[.val (.int p1), .val (.int p2), .val (.int p3), .val (.int p4), .val (.int p5), .val (.ref b1), .val (.int (4 : Int32))] [(.ref b1)])) rfl (by rw [hml]; rfl) (argsL := [(.ref b1)]) (rest := []) (lenOf pd_1 rfl) rfl (by show 2 * 0 + _ ≤ _; exact Nat.le_of_eq rfl) (hb hby at_110) (fun _ _ => ⟨rfl, e16, (by decide : 1 + 0 ≤ _), (by decide : 5 + 0 ≤ _)⟩)
          dsimp only [Pt.U, Pt.locs, Pt.cells, Pt.slots] at X19 l19 y19 z19 st19 hQ19
          subst l19 y19 z19
          obtain ⟨rfl, N19q, e19⟩ := hQ19
          have N19 := Fr.app N16 N19q
          refine Gl.pre (fun _ k => st19 _ k) ?_
          show Gl p.tables e below PP (T19.setTop (mkF m 113 #[.val (.int p1), .val (.int p2), .val (.int p3), .val (.int p4), .val (.int p5), .val (.ref b1), .val (.int (4 : Int32))] [(.int (own_ne (nar .byte (p1.toInt8.toInt32)) (nar .byte (p2.toInt8.toInt32)) (nar .byte (p3.toInt8.toInt32)) (nar .byte (p4.toInt8.toInt32))))]))
          refine Gl.pre (fun _ k => XS.iload X19.here hx rfl (hb hby at_113) rfl k) ?_
          show Gl p.tables e below PP (T19.setTop (mkF m 115 #[.val (.int p1), .val (.int p2), .val (.int p3), .val (.int p4), .val (.int p5), .val (.ref b1), .val (.int (4 : Int32))] [(.int (4 : Int32)), (.int (own_ne (nar .byte (p1.toInt8.toInt32)) (nar .byte (p2.toInt8.toInt32)) (nar .byte (p3.toInt8.toInt32)) (nar .byte (p4.toInt8.toInt32))))]))
          refine Gl.pre (fun _ k => XS.icmpNo X19.here hx rfl (hb hby at_115) rfl (teq (show (own_ne (nar .byte (p1.toInt8.toInt32)) (nar .byte (p2.toInt8.toInt32)) (nar .byte (p3.toInt8.toInt32)) (nar .byte (p4.toInt8.toInt32))) = (4 : Int32) from (by rw [own_ne, if_neg hc8, if_neg hc11, if_neg hc14, if_neg hc17]))).2 k) ?_
          show Gl p.tables e below PP (T19.setTop (mkF m 118 #[.val (.int p1), .val (.int p2), .val (.int p3), .val (.int p4), .val (.int p5), .val (.ref b1), .val (.int (4 : Int32))] []))
          refine Gl.pre (fun _ k => XS.iconst X19.here hx rfl (hb hby at_118) k) ?_
          show Gl p.tables e below PP (T19.setTop (mkF m 119 #[.val (.int p1), .val (.int p2), .val (.int p3), .val (.int p4), .val (.int p5), .val (.ref b1), .val (.int (4 : Int32))] [(.int (1 : Int32))]))
          refine Gl.pre (fun _ k => XS.goto X19.here hx rfl (pc0 := 119) (pc' := 123) rfl (hb hby at_119) (by decide) (by decide) k) ?_
          show Gl p.tables e below PP (T19.setTop (mkF m 123 #[.val (.int p1), .val (.int p2), .val (.int p3), .val (.int p4), .val (.int p5), .val (.ref b1), .val (.int (4 : Int32))] [(.int (1 : Int32))]))
          rw [hPP]
          refine own_finN (Q := (Q0 Z p1 p2 p3 p4 p5 h0 n0)) X19 hx hlk Bd.returns (t := .boolean) (z' := (1 : Int32)) (by simp) (by decide) (hb hby at_123) ?_ (by decide) (by decide)
          show Q0 Z p1 p2 p3 p4 p5 h0 n0 _ T19.heap _
          rw [e19]
          exact ⟨rfl, N19⟩
set_option maxRecDepth 65536 in
set_option maxHeartbeats 40000000 in
theorem comes_1 {Post : Tables → Env → Array Value → State → Outcome → State → Prop} (hpost : ∀ tb e args s v u, (limb_1_1.after args s (.returned v) u = true ∧ limb_1_2.after args s (.returned v) u = true ∧ True) → FrameEnd s (.returned v) u (Jvm.fieldLocs frame_1_writes args s ++ Jvm.arrayLocs frame_1_arrays args s ++ Jvm.staticLocs frame_1_statics s) 16 128 → Post tb e args s (.returned v) u) :
    ArmFor flags0 classFile x code maxLocals ret World_1 tables_1 room_1 Calls_1 rest_1 Pre_1 Post := by
  intro l hfl _ _ p e ha hc hk s m args below hf hA hF happ hP
  obtain ⟨hcalls, hrest, hpre⟩ := hP
  obtain ⟨-, -, -, hnamed, -, -, -, hat⟩ := (Spec.applies_iff hf).mp happ
  obtain ⟨hg, hn⟩ := and_e (Cond.before_iff.mp (show (Jvm.Cond.and given_1 narrow_1).before args s = true from hpre))
  obtain ⟨gc, gr0⟩ := and_e hg
  obtain ⟨ga0, gr1⟩ := and_e gr0
  obtain ⟨ga1, gr2⟩ := and_e gr1
  obtain ⟨ga2, gr3⟩ := and_e gr2
  obtain ⟨ga3, gr4⟩ := and_e gr3
  obtain ⟨w0, w1, w2, w3, w4, rfl⟩ : ∃ w0 w1 w2 w3 w4 : Value, args = #[w0, w1, w2, w3, w4] := by
    have hs : args.size = 5 := by simpa [Cond.value, given_1] using gc
    obtain ⟨L⟩ := args
    match L, hs with
    | [w0, w1, w2, w3, w4], _ => exact ⟨w0, w1, w2, w3, w4, rfl⟩
  have hw := fun d (hd : d ∈ tables_1) => atoms_spec (ws := Jvm.Cond.code x code maxLocals ret :: tables_1) hat d (List.mem_cons_of_mem _ hd)
  have hfit : Fit s := fun {y c} hc i hi => by
    obtain ⟨ha, rfl⟩ := Array.getElem?_eq_some_iff.mp hc
    have q := List.all_eq_true.mp ((Array.all_eq_true_iff_forall_mem.mp hF) _ (Array.getElem_mem ha)) i (List.mem_range.mpr hi)
    simpa [Array.getElem?_eq_getElem hi] using q
  obtain ⟨i0, ei0⟩ := is_v ga0
  obtain rfl : w0 = (.int i0) := Option.some.inj ei0
  obtain ⟨i1, ei1⟩ := is_v ga1
  obtain rfl : w1 = (.int i1) := Option.some.inj ei1
  obtain ⟨i2, ei2⟩ := is_v ga2
  obtain rfl : w2 = (.int i2) := Option.some.inj ei2
  obtain ⟨i3, ei3⟩ := is_v ga3
  obtain rfl : w3 = (.int i3) := Option.some.inj ei3
  obtain ⟨i4, ei4⟩ := is_v gr4
  obtain rfl : w4 = (.int i4) := Option.some.inj ei4
  obtain ⟨n, o, h1, h2, h3, _, L, rfl, ⟨rfl, N⟩, hq⟩ := rm0 l s _ hw tables_1 i0 i1 i2 i3 i4  s.heap s.heap.size (Nat.le_refl _)  p e ha hc hk s m _ below hf ((Spec.applies_iff_loose hf).mp happ).1 ⟨rfl, State.Warmed39.refl s, rfl⟩ trivial
  refine ⟨n, _, h1, h2, h3, hpost _ _ _ _ _ _ ⟨Cond.after_iff.mpr rfl, Cond.after_iff.mpr (eq_i res_at (Term.int_eval (1)) rfl), trivial⟩ ⟨hq.1, hq.2.1, (hq.2.2.sift fun y hy => Or.inr (N y hy)).mono (by decide) (by decide)⟩⟩
theorem main_1_1 : Claimed_1_1 := comes_1 fun _ _ _ _ _ _ h hF => ⟨h.1, hF⟩
theorem main_1_2 : Claimed_1_2 := comes_1 fun _ _ _ _ _ _ h hF => ⟨h.2.1, hF⟩
end Jvm.Pilot.@@N@@
namespace Jvm.Pilot.@@N@@
open Jvm Jvm.ClassFile Sem Op Lib Jvm.Free Jvm.Stand Jvm.Pilot.@@N@@.Jvm.D
/-! MADE BY PROGRAM (witnessworld.py) out of the Statement's table words and the real class files: 9 classes; the members and pool entries that the words name. The judged class is class 1, her method 2. -/
namespace start1
open Jvm.ClassFile
def u (s : String) : CpInfo := .utf8 (stringToUtf16 s)
/-- a pool by its gaps: so many unusable entries, then the entry; so many at the end -/
def gap : Nat → List CpInfo → List CpInfo
  | 0, r => r
  | n + 1, r => .unusable :: gap n r
def poolList (es : List (Nat × CpInfo)) (last : Nat) : List CpInfo := es.foldr (fun e r => gap e.1 (e.2 :: r)) (gap last [])
def pool (es : List (Nat × CpInfo)) (last : Nat) : Array CpInfo := ⟨poolList es last⟩
def fileOf (pool : Array CpInfo) (this : Nat) (attrs : Array Attribute := #[]) (ms : Array MethodInfo := #[]) (fl : Nat := 33) (sup : Nat := 0) (ifs : Array Nat := #[]) (fds : Array FieldInfo := #[]) : ClassFile where
  minorVersion := 0
  majorVersion := 65
  constantPool := pool
  accessFlags := fl
  thisClass := this
  superClass := sup
  interfaces := ifs
  fields := fds
  methods := ms
  attributes := attrs
def plain (name : String) (sup : Option ClassId) : Class where
  name := name
  kind := .ordinary
  loader := none
  accessFlags := 33
  super := sup
  interfaces := #[]
  cf := none
  fields := #[]
  methods := #[]
  instanceTypes := #[]
  staticTypes := #[]
  resolved := #[]
  callSites := []
  init := .initialized
  statics := none
  mirror := none

def pool0 : Array CpInfo := pool [(5, u "<init>"), (0, u "()V"), (1, .class_ 10), (1, u "java/lang/Object")] 113

def k0m0 : Method := { name := "<init>", desc := "()V", sig := { parameters := [], returnType := none }, accessFlags := 1, code := none }
/-- java/lang/Object -/
def k0 : Class := { plain "java/lang/Object" none with
  accessFlags := 33
  interfaces := #[]
  cf := some (fileOf pool0 8 #[] #[{ accessFlags := 1, nameIndex := 5, descriptorIndex := 6, attributes := #[] }] 33 0 #[] #[])
  fields := #[]
  methods := #[k0m0]
  instanceTypes := #[]
  staticTypes := #[]
  resolved := Array.replicate 124 none
  statics := none }

def pool1 : Array CpInfo := pool [(2, .class_ 4), (1, u "java/lang/Object"), (0, u "<init>"), (0, u "()V"), (0, .integer 2147483647), (0, .methodref 9 10), (0, .class_ 11), (0, .nameAndType 12 13), (0, u "com/example/hermod/hermod/RecordKeysNameEndPinLaw"), (0, u "isSep"), (0, u "(B)Z"), (0, .methodref 15 16), (0, .class_ 17), (0, .nameAndType 18 19), (0, u "com/example/hermod/hermod/RecordKeys"), (0, u "nameEnd"), (0, u "([B)I"), (3, u "law"), (0, u "(IIIII)Z")] 4

def k1m0 : Method := { name := "<init>", desc := "()V", sig := { parameters := [], returnType := none }, accessFlags := 1, code := none }
def k1c1 : Code := { maxStack := 2, maxLocals := 1, code := method_2_code, exceptionTable := #[], attributes := #[] }
def k1m1 : Method := { name := "isSep", desc := "(B)Z", sig := { parameters := [.byte], returnType := some .boolean }, accessFlags := 10, code := some k1c1 }
def k1c2 : Code := { maxStack := 4, maxLocals := 7, code := code, exceptionTable := #[], attributes := #[] }
def k1m2 : Method := { name := "law", desc := "(IIIII)Z", sig := { parameters := [.int, .int, .int, .int, .int], returnType := some .boolean }, accessFlags := 9, code := some k1c2 }
/-- com/example/hermod/hermod/RecordKeysNameEndPinLaw -/
def k1 : Class := { plain "com/example/hermod/hermod/RecordKeysNameEndPinLaw" (some 0) with
  accessFlags := 49
  interfaces := #[]
  cf := some (fileOf pool1 9 #[] #[{ accessFlags := 1, nameIndex := 5, descriptorIndex := 6, attributes := #[] }, { accessFlags := 10, nameIndex := 12, descriptorIndex := 13, attributes := #[] }, { accessFlags := 9, nameIndex := 23, descriptorIndex := 24, attributes := #[] }] 49 2 #[] #[])
  fields := #[]
  methods := #[k1m0, k1m1, k1m2]
  instanceTypes := #[]
  staticTypes := #[]
  resolved := Array.replicate 29 none
  statics := none }

def pool2 : Array CpInfo := pool [(2, .class_ 4), (1, u "java/lang/Object"), (0, u "<init>"), (0, u "()V"), (0, .class_ 8), (0, u "com/example/hermod/hermod/RecordKeys"), (2, u "NONE"), (0, u "[B"), (28, u "FIRST_MEMBER"), (2, u "PAST_MEMBERS"), (0, u "MEMBER"), (0, u "B"), (2, u "ITEM"), (1, u "NODE"), (10, u "nameEnd"), (0, u "([B)I")] 4

def k2m0 : Method := { name := "<init>", desc := "()V", sig := { parameters := [], returnType := none }, accessFlags := 2, code := none }
def k2c1 : Code := { maxStack := 2, maxLocals := 2, code := prog_2_method_8_code, exceptionTable := #[], attributes := #[] }
def k2m1 : Method := { name := "nameEnd", desc := "([B)I", sig := { parameters := [(.array .byte)], returnType := some .int }, accessFlags := 8, code := some k2c1 }
/-- com/example/hermod/hermod/RecordKeys -/
def k2 : Class := { plain "com/example/hermod/hermod/RecordKeys" (some 0) with
  accessFlags := 32
  interfaces := #[]
  cf := some (fileOf pool2 7 #[] #[{ accessFlags := 2, nameIndex := 5, descriptorIndex := 6, attributes := #[] }, { accessFlags := 8, nameIndex := 62, descriptorIndex := 63, attributes := #[] }] 32 2 #[] #[{ accessFlags := 24, nameIndex := 45, descriptorIndex := 46, attributes := #[] }, { accessFlags := 24, nameIndex := 49, descriptorIndex := 46, attributes := #[] }, { accessFlags := 24, nameIndex := 51, descriptorIndex := 46, attributes := #[] }, { accessFlags := 24, nameIndex := 41, descriptorIndex := 12, attributes := #[] }, { accessFlags := 24, nameIndex := 44, descriptorIndex := 12, attributes := #[] }, { accessFlags := 26, nameIndex := 11, descriptorIndex := 12, attributes := #[] }])
  fields := #[{ name := "MEMBER", type := .byte, accessFlags := 24, slot := 0, constantValue := 0 }, { name := "ITEM", type := .byte, accessFlags := 24, slot := 1, constantValue := 0 }, { name := "NODE", type := .byte, accessFlags := 24, slot := 2, constantValue := 0 }, { name := "FIRST_MEMBER", type := (.array .byte), accessFlags := 24, slot := 3, constantValue := 0 }, { name := "PAST_MEMBERS", type := (.array .byte), accessFlags := 24, slot := 4, constantValue := 0 }, { name := "NONE", type := (.array .byte), accessFlags := 26, slot := 5, constantValue := 0 }]
  methods := #[k2m0, k2m1]
  instanceTypes := #[]
  staticTypes := #[.byte, .byte, .byte, (.array .byte), (.array .byte), (.array .byte)]
  resolved := Array.replicate 68 none
  statics := none }

def pool3 : Array CpInfo := pool [(1, u "java/lang/Cloneable"), (0, .class_ 1), (0, u "java/lang/Object"), (0, .class_ 3)] 3

/-- java/lang/Cloneable -/
def k3 : Class := { plain "java/lang/Cloneable" (some 0) with
  accessFlags := 1537
  interfaces := #[]
  cf := some (fileOf pool3 2 #[] #[] 1537 4 #[] #[])
  fields := #[]
  methods := #[]
  instanceTypes := #[]
  staticTypes := #[]
  resolved := Array.replicate 8 none
  statics := none }

def pool4 : Array CpInfo := pool [(1, u "java/io/Serializable"), (0, .class_ 1), (0, u "java/lang/Object"), (0, .class_ 3)] 3

/-- java/io/Serializable -/
def k4 : Class := { plain "java/io/Serializable" (some 0) with
  accessFlags := 1537
  interfaces := #[]
  cf := some (fileOf pool4 2 #[] #[] 1537 4 #[] #[])
  fields := #[]
  methods := #[]
  instanceTypes := #[]
  staticTypes := #[]
  resolved := Array.replicate 8 none
  statics := none }

/-- the primitive byte -/
def k5 : Class := { plain "byte" none with kind := .primitive 'B', accessFlags := 0x411 }
/-- [B -/
def k6 : Class := { plain "[B" (some 0) with kind := .array 5 .byte, interfaces := #[3, 4], accessFlags := 1041 }

/-- the primitive int -/
def k7 : Class := { plain "int" none with kind := .primitive 'I', accessFlags := 0x411 }
/-- [I -/
def k8 : Class := { plain "[I" (some 0) with kind := .array 7 .int, interfaces := #[3, 4], accessFlags := 1041 }

def heap : Heap := #[]
def classes : Array Class := #[k0, k1, k2, k3, k4, k5, k6, k7, k8]
def interned : List (Array UInt16 × Addr) := []
def slotsUsed : Nat := 0
def theMethod : MethodId := ⟨1, 2⟩
def args0 : Array Value := #[.int 5, .int 6, .int 7, .int 8, .int 9]
def aboutOver (below : List Frame) : State where
  vm := { classes := classes, interned := interned.toArray }
  heap := heap
  slotsUsed := slotsUsed
  threads := #[{ frames := .invoking theMethod args0 :: below }]
def below0 : List Frame := [.native { method := ⟨0, 0⟩, args := #[] }]
def about1 : State := aboutOver below0
def p0 : Program := .bare "" "" ""
def e0 : Env := launch0.env 0 0 0
theorem w_frames : about1.frames = Frame.invoking theMethod args0 :: below0 := rfl
set_option maxRecDepth 65536 in
theorem w_args : argsFit about1.vm theMethod args0 = true := by decide +kernel
set_option maxRecDepth 65536 in
theorem w_heap : heapFits about1 = true := by decide +kernel
set_option maxRecDepth 65536 in
theorem w_runnable : about1.curStatus? = some .runnable := by decide +kernel
set_option maxRecDepth 65536 in
theorem w_alone : about1.alone = true := by decide +kernel
set_option maxRecDepth 65536 in
theorem w_named : about1.methodNamed? x = some theMethod := by decide +kernel
set_option maxRecDepth 65536 in
theorem w_hears : about1.hears theMethod below0 = true := by decide +kernel
set_option maxRecDepth 65536 in
theorem w_ripe : about1.ripe theMethod args0 below0 = true := by decide +kernel
theorem w_running : about1.status = .running := rfl
set_option maxRecDepth 65536 in
theorem w_room : about1.hasRoom e0.platform room_1 = true :=
  launch0.hasRoom_least _ room_1 (by decide +kernel) (by decide +kernel) (by decide +kernel) (by decide +kernel) (by decide +kernel) (by decide +kernel)
theorem allAtoms_all (ts : List Jvm.Cond) (a : Array Jvm.Value) (st : Jvm.State) : (allAtoms ts).before a st = ts.all (fun c => c.before a st) := by
  induction ts with
  | nil => rfl
  | cons c t ih =>
    show (Jvm.Cond.and c (allAtoms t)).before a st = _
    rw [Jvm.Cond.before_and, ih, List.all_cons]
def words1 : List Jvm.Cond := Jvm.Cond.code x code maxLocals ret :: tables_1
/-- a 'code' word, met by the world's own term for the bytes: nothing is compared byte by byte -/
theorem code_word {y : MethodName} {bytes : ByteArray} {mx : Nat} {rt : Option FieldType} {a : Array Value} {s : State} {m : MethodId} {meth : Method} {c : Code} (h1 : s.methodNamed? y = some m) (h2 : s.vm.method? m = some meth) (h3 : meth.code = some c) (h4 : c.code = bytes)
    (h5 : (c.maxLocals == mx && c.exceptionTable.isEmpty && decide (c.maxStack ≤ mostOperands) && decide (meth.sig.returnType = rt) && !meth.locks && decide (parseMethodDescriptor y.desc = some meth.sig)) = true) : (Jvm.Cond.code y bytes mx rt).before a s = true := by
  simp only [Bool.and_eq_true, beq_iff_eq, Bool.not_eq_true', decide_eq_true_eq] at h5
  obtain ⟨⟨⟨⟨⟨g1, g2⟩, g3⟩, g4⟩, g5⟩, g6⟩ := h5
  simp [Cond.before, Cond.holds, Cond.value, h1, h2, h3, h4, g1, g2, g3, g4, g5, g6]
def isCode : Jvm.Cond → Bool
  | .code _ _ _ _ => true
  | _ => false
theorem all_split {L : List Jvm.Cond} {P : Jvm.Cond → Bool} (h1 : L.all (fun c => isCode c || P c) = true) (h2 : ∀ c ∈ L.filter isCode, P c = true) : L.all P = true := by
  refine List.all_eq_true.mpr fun c hc => ?_
  have h := List.all_eq_true.mp h1 c hc
  rcases Bool.eq_false_or_eq_true (isCode c) with hi | hi
  · exact h2 c (List.mem_filter.mpr ⟨hc, hi⟩)
  · simpa [hi] using h
set_option maxRecDepth 65536 in
theorem w_c0 : (Jvm.Cond.code x code maxLocals ret).before args0 about1 = true := code_word (m := ⟨1, 2⟩) (meth := k1m2) (c := k1c2) (by decide +kernel) rfl rfl rfl (by decide +kernel)
set_option maxRecDepth 65536 in
theorem w_c1 : (Jvm.Cond.code ({ cls := "com/example/hermod/hermod/RecordKeysNameEndPinLaw", name := "isSep", desc := "(B)Z" } : Jvm.MethodName) method_2_code (1 : Nat) (Option.some Jvm.ClassFile.FieldType.boolean)).before args0 about1 = true := code_word (m := ⟨1, 1⟩) (meth := k1m1) (c := k1c1) (by decide +kernel) rfl rfl rfl (by decide +kernel)
set_option maxRecDepth 65536 in
theorem w_c2 : (Jvm.Cond.code ({ cls := "com/example/hermod/hermod/RecordKeys", name := "nameEnd", desc := "([B)I" } : Jvm.MethodName) prog_2_method_8_code (2 : Nat) (Option.some Jvm.ClassFile.FieldType.int)).before args0 about1 = true := code_word (m := ⟨2, 1⟩) (meth := k2m1) (c := k2c1) (by decide +kernel) rfl rfl rfl (by decide +kernel)
def codes1 : List Jvm.Cond := [Jvm.Cond.code x code maxLocals ret, Jvm.Cond.code ({ cls := "com/example/hermod/hermod/RecordKeysNameEndPinLaw", name := "isSep", desc := "(B)Z" } : Jvm.MethodName) method_2_code (1 : Nat) (Option.some Jvm.ClassFile.FieldType.boolean), Jvm.Cond.code ({ cls := "com/example/hermod/hermod/RecordKeys", name := "nameEnd", desc := "([B)I" } : Jvm.MethodName) prog_2_method_8_code (2 : Nat) (Option.some Jvm.ClassFile.FieldType.int)]
set_option maxRecDepth 65536 in
theorem codes_eq : words1.filter isCode = codes1 := rfl
theorem w_codes : ∀ c ∈ words1.filter isCode, c.before args0 about1 = true := by
  rw [codes_eq]
  intro c hc
  simp only [codes1, List.mem_cons, List.not_mem_nil, or_false] at hc
  rcases hc with rfl | rfl | rfl
  · exact w_c0
  · exact w_c1
  · exact w_c2
set_option maxRecDepth 65536 in
theorem w_t1 : words1.all (fun c => isCode c || c.before args0 about1) = true := by decide +kernel
theorem w_tables : (allAtoms (Jvm.Cond.code x code maxLocals ret :: tables_1)).before args0 about1 = true := by
  rw [allAtoms_all]
  show words1.all (fun c => c.before args0 about1) = true
  refine all_split ?_ w_codes
  rw [w_t1]
set_option maxRecDepth 65536 in
theorem w_case : (Jvm.Cond.and given_1 narrow_1).before args0 about1 = true := by decide +kernel
theorem w_applies : (headSpec (Jvm.Cond.code x code maxLocals ret :: tables_1) room_1).applies x e0.platform about1 = true :=
  (Spec.applies_iff w_frames).mpr ⟨w_running, w_runnable, w_alone, w_named, w_hears, w_ripe, w_room, w_tables⟩
theorem atStart : AtStart classFile x code maxLocals ret World_1 tables_1 room_1 Calls_1 rest_1 Pre_1 launch0 p0 e0 about1 theMethod args0 below0 :=
  ⟨lists_1, trivial, launch0.admits_env _ _ _, launch0.least_env, fairChoices_fair.cas, fairChoices_fair.clock, w_frames, w_args, w_heap, w_applies, trivial, trivial, w_case⟩
end start1
theorem witness_1 : WitnessClaimed_1 := ⟨start1.p0, start1.e0, start1.about1, start1.theMethod, start1.args0, start1.below0, start1.atStart⟩
end Jvm.Pilot.@@N@@
