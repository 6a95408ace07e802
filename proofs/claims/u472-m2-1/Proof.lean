import JvmDerived
import JvmDerived.Pilot.@@N@@Statement
import JvmDerived.Pilot.@@N@@Code
set_option linter.unusedVariables false
set_option linter.unusedSimpArgs false
namespace Jvm.RoadKit
open Sem ClassFile Op Lib Jvm.Stand Jvm.Free Jvm.LawKit
section New
variable {p : Program} {l : Launch} {e : Env} {R : Room} {s : State} {m : MethodId} {args : Array Value} {below : List Frame} {meth : Method} {c : Code} {T : State} {locs : List Loc} {cells slots : Nat}
theorem retI (X : Stand p l e R s m args below meth c T locs cells slots) (hx : p.tables.exec = Jvm.exec) {pc : Nat} {Ls : Array Slot} {z : Int32} {rest : List Value} (hret : meth.sig.returnType = some .int) (hd : decode c.code pc = .ok (.ireturn, 1)) {fs : List Frame}
    (hl : ∀ (f : JFrame) (acts : List Action), f.method = m → f.locked = none → f.entered = [] → (doReturn e (T.setTop f) acts (some (.int z))).1 = T.setFrames fs) : Steps p.tables e below (T.setTop (mkF m pc Ls (.int z :: rest))) (T.setFrames fs) := by
  have hm' : T.vm.method? m = some meth := X.method'
  have hn : narrow .int (.int z) = .int z := rfl
  show Steps p.tables e below (T.setTop { method := m, pc := pc, locals := Ls, stack := _ :: rest, locked := none }) _
  jvm_step X.here [X.here.top, hx, hd, hm', hret, hn]
  first | (intro acts; rw [hl _ acts rfl rfl rfl]) | rw [hl _ _ rfl rfl rfl]
  exact Steps.refl _
/-- a run from A that ends in an outcome with P -/
def Gl (tb : Tables) (e : Env) (below : List Frame) (P : Outcome → State → Prop) (A : State) : Prop := ∃ s₂ o, Steps tb e below A s₂ ∧ s₂.status = .running ∧ Ended s₂ below o ∧ P o s₂
theorem Gl.pre {tb : Tables} {e : Env} {below : List Frame} {P : Outcome → State → Prop} {A B : State} (h : ∀ t, Steps tb e below B t → Steps tb e below A t) (g : Gl tb e below P B) : Gl tb e below P A := by
  obtain ⟨s2, o, h1, r⟩ := g; exact ⟨s2, o, h _ h1, r⟩
theorem own_finI (X : Stand p l e R s m args below meth c T locs cells slots) (hx : p.tables.exec = Jvm.exec) (hlk : meth.locks = false) {pc : Nat} {Ls : Array Slot} {z : Int32} {rest : List Value} (hret : meth.sig.returnType = some .int) (hd : decode c.code pc = .ok (.ireturn, 1)) {Q : Option Value → Heap → List Loc → Prop} {C S : Nat}
    (hq : Q (some (.int z)) T.heap locs) (hc : cells ≤ C) (hs : slots ≤ S) : Gl p.tables e below (fun o U' => ∃ v L, o = .returned v ∧ Q v U'.heap L ∧ FrameEnd s o U' L C S) (T.setTop (mkF m pc Ls (.int z :: rest))) := by
  obtain ⟨fs, hr, hrun, hended, hW, hsame⟩ := X.leave (v := some (.int z)) (fun h => by rw [hret] at h; cases h) hlk
  exact ⟨_, _, retI X hx hret hd hr, hrun, hended, _, _, rfl, hq, ⟨_, rfl⟩, hW, hsame.mono hc hs⟩
theorem own_finN (X : Stand p l e R s m args below meth c T locs cells slots) (hx : p.tables.exec = Jvm.exec) (hlk : meth.locks = false) {pc : Nat} {Ls : Array Slot} {z z' : Int32} {rest : List Value} {t : FieldType} (hret : meth.sig.returnType = some t) (ht : t = .boolean ∨ t = .byte ∨ t = .char ∨ t = .short) (hz : nar t z = z') (hd : decode c.code pc = .ok (.ireturn, 1)) {Q : Option Value → Heap → List Loc → Prop} {C S : Nat}
    (hq : Q (some (.int z')) T.heap locs) (hc : cells ≤ C) (hs : slots ≤ S) : Gl p.tables e below (fun o U' => ∃ v L, o = .returned v ∧ Q v U'.heap L ∧ FrameEnd s o U' L C S) (T.setTop (mkF m pc Ls (.int z :: rest))) := by
  subst hz
  obtain ⟨fs, hr, hrun, hended, hW, hsame⟩ := X.leave (v := some (.int (nar t z))) (fun h => by rw [hret] at h; cases h) hlk
  exact ⟨_, _, retN X hx hret ht hd hr, hrun, hended, _, _, rfl, hq, ⟨_, rfl⟩, hW, hsame.mono hc hs⟩
theorem own_finV (X : Stand p l e R s m args below meth c T locs cells slots) (hx : p.tables.exec = Jvm.exec) (hlk : meth.locks = false) {pc : Nat} {Ls : Array Slot} (hret : meth.sig.returnType = none) (hd : decode c.code pc = .ok (.return_, 1)) {Q : Option Value → Heap → List Loc → Prop} {C S : Nat}
    (hq : Q none T.heap locs) (hc : cells ≤ C) (hs : slots ≤ S) : Gl p.tables e below (fun o U' => ∃ v L, o = .returned v ∧ Q v U'.heap L ∧ FrameEnd s o U' L C S) (T.setTop (mkF m pc Ls [])) := by
  obtain ⟨fs, hr, hrun, hended, hW, hsame⟩ := X.leave (v := none) (fun _ => rfl) hlk
  exact ⟨_, _, X.returnOut hx hret hd hr, hrun, hended, _, _, rfl, hq, ⟨_, rfl⟩, hW, hsame.mono hc hs⟩
theorem own_finA (X : Stand p l e R s m args below meth c T locs cells slots) (hx : p.tables.exec = Jvm.exec) (hlk : meth.locks = false) {pc : Nat} {Ls : Array Slot} {w : Value} {rest : List Value} {t : FieldType} (hret : meth.sig.returnType = some t) (hw : w.isRef = true) (ht : t.isReference = true) (hd : decode c.code pc = .ok (.areturn, 1)) {Q : Option Value → Heap → List Loc → Prop} {C S : Nat}
    (hq : Q (some w) T.heap locs) (hc : cells ≤ C) (hs : slots ≤ S) : Gl p.tables e below (fun o U' => ∃ v L, o = .returned v ∧ Q v U'.heap L ∧ FrameEnd s o U' L C S) (T.setTop (mkF m pc Ls (w :: rest))) := by
  obtain ⟨fs, hr, hrun, hended, hW, hsame⟩ := X.leave (v := some w) (fun h => by rw [hret] at h; cases h) hlk
  have hn : narrow t w = w := by rcases ref_cases hw with rfl | ⟨z, rfl⟩ <;> cases t <;> rfl
  exact ⟨_, _, retOut X hx hret hn (Or.inr (Or.inr (Or.inr (Or.inr ⟨rfl, ht, hw⟩)))) hd hr, hrun, hended, _, _, rfl, hq, ⟨_, rfl⟩, hW, hsame.mono hc hs⟩
/-- Java's >>> -/
def own_ushr (x y : Int32) : Int32 := (x.toUInt32 >>> (y &&& 31).toUInt32).toInt32
def own_ushrL (x : Int64) (y : Int32) : Int64 := (x.toUInt64 >>> (y &&& 0x3f).toInt64.toUInt64).toInt64
/-- 1 where P holds, else 0 -/
def own_pi (P : Prop) [Decidable P] : Int32 := if P then 1 else 0
theorem own_pi_t {P : Prop} [Decidable P] (h : P) : own_pi P = 1 := if_pos h
theorem own_pi_f {P : Prop} [Decidable P] (h : ¬ P) : own_pi P = 0 := if_neg h
theorem own_pi_nt {P : Prop} [Decidable P] (h : P) : own_pi (¬ P) = 0 := if_neg (fun q => q h)
theorem own_pi_nf {P : Prop} [Decidable P] (h : ¬ P) : own_pi (¬ P) = 1 := if_pos h
theorem own_pi0 {P : Prop} [Decidable P] : own_pi P = 0 ↔ ¬ P := by unfold own_pi; split <;> simp_all
theorem own_pi_eq {P Q : Prop} [Decidable P] [Decidable Q] (h : P ↔ Q) : own_pi P = own_pi Q := by unfold own_pi; simp [h]
theorem own_nar_pi {P : Prop} [i : Decidable P] : nar .boolean (@own_pi P i) = @own_pi P i := by unfold own_pi; split <;> decide
end New
/-- the array at a (of kind ty) holds the ints xs -/
def Bal (Z : State) (h : Heap) (a : Addr) (ty : FieldType) (xs : List Int32) : Prop := ∃ c : Cell, Arr Z h a c ty ∧ c.slots.size = xs.length ∧ ∀ i, i < xs.length → c.slots[i]? = some (.int (xs.getD i 0))
section Arrays
variable {Z : State} {h h' : Heap} {a b : Addr} {ty : FieldType} {xs : List Int32} {ws : List Addr}
theorem Bal.lt (F : Bal Z h a ty xs) : a < h.size := by obtain ⟨c, A, -⟩ := F; exact A.lt
theorem Bal.ext (F : Bal Z h a ty xs) (E : Ext h h') : Bal Z h' a ty xs := by obtain ⟨c, A, r⟩ := F; exact ⟨c, A.ext E, r⟩
theorem Bal.other {sl : Nat} {v : Value} (F : Bal Z h b ty xs) (W : Wr h h' a sl v) (q : b ≠ a) : Bal Z h' b ty xs := by obtain ⟨c, A, r⟩ := F; exact ⟨c, A.other W q, r⟩
theorem Bal.keep (F : Bal Z h a ty xs) (K : Keep h h' ws) (q : a ∉ ws) : Bal Z h' a ty xs := by obtain ⟨c, A, r⟩ := F; exact ⟨c, ⟨K.2.1 a c A.1 q, A.2⟩, r⟩
theorem Bal.new {k : ClassId} {z : Int32} {n : Nat} (A : Arr Z h a (newA k ty z) ty) (hz : z.toNatClampNeg = n) (hd : defaultValue ty = .int 0) : Bal Z h a ty (List.replicate n 0) := by
  subst hz
  refine ⟨_, A, by rw [sz_new, List.length_replicate], fun i hi => ?_⟩
  rw [List.length_replicate] at hi
  simp [newA, hd, hi, List.getD_eq_getElem?_getD]
theorem Bal.set {i : Nat} {v : Int32} (F : Bal Z h a ty xs) (W : Wr h h' a i (.int v)) (hi : i < xs.length) : Bal Z h' a ty (xs.set i v) := by
  obtain ⟨c, A, S, H⟩ := F
  refine ⟨_, A.same W, by rw [sz_set, S, List.length_set], fun k hk => ?_⟩
  rw [List.length_set] at hk
  show (c.slots.setIfInBounds i (.int v))[k]? = _
  rw [Array.getElem?_setIfInBounds, List.getD_eq_getElem?_getD, List.getElem?_set]
  by_cases q : i = k
  · subst q; simp [S, hk]
  · rw [if_neg q, if_neg q, ← List.getD_eq_getElem?_getD]; exact H k hk
theorem Bal.inb {c : Cell} {j : Int32} {i : Nat} (S : c.slots.size = xs.length) (h0 : ¬ j < 0) (hj : j.toNatClampNeg = i) (hi : i < xs.length) : ¬ (j < 0 ∨ c.slots.size ≤ j.toNatClampNeg) := by
  rintro (q | q)
  · exact h0 q
  · omega
variable {p : Program} {l : Launch} {e : Env} {R : Room} {s : State} {m : MethodId} {args : Array Value} {below : List Frame} {meth : Method} {c : Code} {T : State} {locs : List Loc} {cells slots : Nat}
theorem own_stB (X : Stand p l e R s m args below meth c T locs cells slots) (hx : p.tables.exec = Jvm.exec) (hZ : Z.Warmed39 s.vm) (eT : T.heap = h) (F : Bal Z h a .byte xs) {j x : Int32} {i : Nat} (h0 : ¬ j < 0) (hj : j.toNatClampNeg = i) (hi : i < xs.length) {g : JFrame} (hg : g.method = m) {rest : List Value} (hs : g.stack = .int x :: .int j :: .ref a :: rest) (hd : decode c.code g.pc = .ok (.bastore, 1)) :
    ∃ T' h', Stand p l e R s m args below meth c T' (locs ++ [⟨a, i⟩]) cells slots ∧ T'.heap = h' ∧ Wr h h' a i (.int (nar .byte x)) ∧ Bal Z h' a .byte (xs.set i (nar .byte x)) ∧ ∀ target, Steps p.tables e below (T'.setTop { g with pc := g.pc + 1, stack := rest }) target → Steps p.tables e below (T.setTop g) target := by
  have F' := F
  obtain ⟨cl, A, S, H⟩ := F
  obtain ⟨T', h', X', e', W, st⟩ := stB X hx hZ eT A (j := j) (Bal.inb S h0 hj hi) hg hs hd
  subst hj
  exact ⟨T', h', X', e', W, F'.set W hi, st⟩
theorem own_stC (X : Stand p l e R s m args below meth c T locs cells slots) (hx : p.tables.exec = Jvm.exec) (hZ : Z.Warmed39 s.vm) (eT : T.heap = h) (F : Bal Z h a .char xs) {j x : Int32} {i : Nat} (h0 : ¬ j < 0) (hj : j.toNatClampNeg = i) (hi : i < xs.length) {g : JFrame} (hg : g.method = m) {rest : List Value} (hs : g.stack = .int x :: .int j :: .ref a :: rest) (hd : decode c.code g.pc = .ok (.castore, 1)) :
    ∃ T' h', Stand p l e R s m args below meth c T' (locs ++ [⟨a, i⟩]) cells slots ∧ T'.heap = h' ∧ Wr h h' a i (.int (nar .char x)) ∧ Bal Z h' a .char (xs.set i (nar .char x)) ∧ ∀ target, Steps p.tables e below (T'.setTop { g with pc := g.pc + 1, stack := rest }) target → Steps p.tables e below (T.setTop g) target := by
  have F' := F
  obtain ⟨cl, A, S, H⟩ := F
  obtain ⟨T', h', X', e', W, st⟩ := stC X hx hZ eT A (j := j) (Bal.inb S h0 hj hi) hg hs hd
  subst hj
  exact ⟨T', h', X', e', W, F'.set W hi, st⟩
theorem own_ldB (X : Stand p l e R s m args below meth c T locs cells slots) (hx : p.tables.exec = Jvm.exec) (hZ : Z.Warmed39 s.vm) (eT : T.heap = h) (F : Bal Z h a .byte xs) {j : Int32} {i : Nat} (h0 : ¬ j < 0) (hj : j.toNatClampNeg = i) (hi : i < xs.length) {v : Int32} (hv : xs.getD i 0 = v) {g : JFrame} (hg : g.method = m) {rest : List Value} (hs : g.stack = .int j :: .ref a :: rest) (hd : decode c.code g.pc = .ok (.baload, 1)) (target : State)
    (k : Steps p.tables e below (T.setTop { g with pc := g.pc + 1, stack := .int v :: rest }) target) : Steps p.tables e below (T.setTop g) target := by
  obtain ⟨cl, A, S, H⟩ := F
  subst hv
  exact X.baloadBytes hx (j := j) (v := .int (xs.getD i 0)) (by rw [eT]; exact A.1) (State.isArrayOf_alike hZ.alike A.2.1) A.2.2 (Bal.inb S h0 hj hi) (by rw [hj]; exact H i hi) hg hs hd _ k
theorem own_ldC (X : Stand p l e R s m args below meth c T locs cells slots) (hx : p.tables.exec = Jvm.exec) (hZ : Z.Warmed39 s.vm) (eT : T.heap = h) (F : Bal Z h a .char xs) {j : Int32} {i : Nat} (h0 : ¬ j < 0) (hj : j.toNatClampNeg = i) (hi : i < xs.length) {v : Int32} (hv : xs.getD i 0 = v) {g : JFrame} (hg : g.method = m) {rest : List Value} (hs : g.stack = .int j :: .ref a :: rest) (hd : decode c.code g.pc = .ok (.caload, 1)) (target : State)
    (k : Steps p.tables e below (T.setTop { g with pc := g.pc + 1, stack := .int v :: rest }) target) : Steps p.tables e below (T.setTop g) target := by
  obtain ⟨cl, A, S, H⟩ := F
  subst hv
  exact X.caload hx (j := j) (v := .int (xs.getD i 0)) (by rw [eT]; exact A.1) (State.isArrayOf_alike hZ.alike A.2.1) A.2.2 (Bal.inb S h0 hj hi) (by rw [hj]; exact H i hi) hg hs hd _ k
theorem own_len (X : Stand p l e R s m args below meth c T locs cells slots) (hx : p.tables.exec = Jvm.exec) (hZ : Z.Warmed39 s.vm) (eT : T.heap = h) (F : Bal Z h a ty xs) {v : Int32} (hv : xs.length.toInt32 = v) {g : JFrame} (hg : g.method = m) {rest : List Value} (hs : g.stack = .ref a :: rest) (hd : decode c.code g.pc = .ok (.arraylength, 1)) (target : State)
    (k : Steps p.tables e below (T.setTop { g with pc := g.pc + 1, stack := .int v :: rest }) target) : Steps p.tables e below (T.setTop g) target := by
  obtain ⟨cl, A, S, H⟩ := F
  subst hv
  refine X.arraylength hx (by rw [eT]; exact A.1) (State.isArrayOf_alike hZ.alike A.2.1) hg hs hd _ ?_
  rw [S]; exact k
theorem own_balOf {k : ClassId} {z : Int32} (F : Arv Z h a k .byte z (xs.map Value.int) (.int 0)) (hz : z.toNatClampNeg = xs.length) : Bal Z h a .byte xs := by
  obtain ⟨c, A, -, S, -, H, -⟩ := F
  refine ⟨c, A, by rw [S, hz], fun i hi => ?_⟩
  have q := H i (by rw [S, hz]; exact hi)
  rw [q]
  simp [List.getD_eq_getElem?_getD, List.getElem?_map, List.getElem?_eq_getElem hi]
theorem own_arvC (F : Bal Z h a .char xs) (hf : ∀ x ∈ xs, fits .char (.int x) = true) (hl : xs.length < 2 ^ 31) : ∃ k, Arv Z h a k .char (Int32.ofNat xs.length) (xs.map Value.int) (.int 0) := by
  obtain ⟨c, A, S, H⟩ := F
  have hi : (Int32.ofNat xs.length).toInt = xs.length := Int32.toInt_ofNat_of_lt hl
  refine ⟨c.cls, c, A, rfl, ?_, ?_, ?_, ?_⟩
  · rw [S, Int32.toNatClampNeg, hi]; rfl
  · rw [Int32.lt_iff_toInt_lt, hi, show (0 : Int32).toInt = 0 from rfl]; omega
  · intro i hi'
    rw [S] at hi'
    rw [H i hi']
    simp [List.getD_eq_getElem?_getD, List.getElem?_map, List.getElem?_eq_getElem hi']
  · intro i hi'
    rw [S] at hi'
    have : (xs.map Value.int).getD i (.int 0) = .int xs[i] := by simp [List.getD_eq_getElem?_getD, List.getElem?_map, List.getElem?_eq_getElem hi']
    rw [this]; exact hf _ (List.getElem_mem hi')
theorem own_piN {P : Prop} [Decidable P] : (¬ own_pi P = 0) ↔ P := by unfold own_pi; split <;> simp_all
end Arrays
section Wide
variable {p : Program} {l : Launch} {e : Env} {R : Room} {s Z : State} {EL : List (String × Nat)} {vm0 : Vm} {k0 : Nat} {m : MethodId} {args : Array Value} {below : List Frame} {meth : Method} {c : Code} {T : State} {locs : List Loc} {cells slots : Nat}
theorem own_monoW {t : State} {o : Outcome} {L : List Loc} {k n k' n' : Nat} (h : ReturnedEndW s o t L k n) (hk : k ≤ k') (hn : n ≤ n') : ReturnedEndW s o t L k' n' := ⟨h.1, h.2.1, h.2.2.1, h.2.2.2.mono hk hn⟩
theorem own_finIW (X : Stand p l e R (s.setVm vm0) m args below meth c T locs cells slots) (hx : p.tables.exec = Jvm.exec) (hlk : meth.locks = false) (hS : s.Since vm0 k0) (hk : k0 ≤ T.heap.size) {pc : Nat} {Ls : Array Slot} {z : Int32} {rest : List Value} (hret : meth.sig.returnType = some .int) (hd : decode c.code pc = .ok (.ireturn, 1)) {Q : Option Value → Heap → List Loc → Prop} {C S : Nat}
    (hq : Q (some (.int z)) T.heap locs) (hC : CHr Z EL s.vm s.heap T.vm T.heap) (hc : cells ≤ C) (hs : slots ≤ S) : Gl p.tables e below (fun o U' => ∃ v L, o = .returned v ∧ Q v U'.heap L ∧ CHr Z EL s.vm s.heap U'.vm U'.heap ∧ ReturnedEndW s o U' L C S) (T.setTop (mkF m pc Ls (.int z :: rest))) := by
  obtain ⟨fs, hr, hrun, hended, hW⟩ := X.leaveW hS hk (v := some (.int z)) (fun h => by rw [hret] at h; cases h) hlk
  exact ⟨_, _, retI X hx hret hd hr, hrun, hended, _, _, rfl, hq, hC, own_monoW hW hc hs⟩
theorem own_finNW (X : Stand p l e R (s.setVm vm0) m args below meth c T locs cells slots) (hx : p.tables.exec = Jvm.exec) (hlk : meth.locks = false) (hS : s.Since vm0 k0) (hk : k0 ≤ T.heap.size) {pc : Nat} {Ls : Array Slot} {z z' : Int32} {rest : List Value} {t : FieldType} (hret : meth.sig.returnType = some t) (ht : t = .boolean ∨ t = .byte ∨ t = .char ∨ t = .short) (hz : nar t z = z') (hd : decode c.code pc = .ok (.ireturn, 1)) {Q : Option Value → Heap → List Loc → Prop} {C S : Nat}
    (hq : Q (some (.int z')) T.heap locs) (hC : CHr Z EL s.vm s.heap T.vm T.heap) (hc : cells ≤ C) (hs : slots ≤ S) : Gl p.tables e below (fun o U' => ∃ v L, o = .returned v ∧ Q v U'.heap L ∧ CHr Z EL s.vm s.heap U'.vm U'.heap ∧ ReturnedEndW s o U' L C S) (T.setTop (mkF m pc Ls (.int z :: rest))) := by
  subst hz
  obtain ⟨fs, hr, hrun, hended, hW⟩ := X.leaveW hS hk (v := some (.int (nar t z))) (fun h => by rw [hret] at h; cases h) hlk
  exact ⟨_, _, retN X hx hret ht hd hr, hrun, hended, _, _, rfl, hq, hC, own_monoW hW hc hs⟩
theorem own_finVW (X : Stand p l e R (s.setVm vm0) m args below meth c T locs cells slots) (hx : p.tables.exec = Jvm.exec) (hlk : meth.locks = false) (hS : s.Since vm0 k0) (hk : k0 ≤ T.heap.size) {pc : Nat} {Ls : Array Slot} (hret : meth.sig.returnType = none) (hd : decode c.code pc = .ok (.return_, 1)) {Q : Option Value → Heap → List Loc → Prop} {C S : Nat}
    (hq : Q none T.heap locs) (hC : CHr Z EL s.vm s.heap T.vm T.heap) (hc : cells ≤ C) (hs : slots ≤ S) : Gl p.tables e below (fun o U' => ∃ v L, o = .returned v ∧ Q v U'.heap L ∧ CHr Z EL s.vm s.heap U'.vm U'.heap ∧ ReturnedEndW s o U' L C S) (T.setTop (mkF m pc Ls [])) := by
  obtain ⟨fs, hr, hrun, hended, hW⟩ := X.leaveW hS hk (v := none) (fun _ => rfl) hlk
  exact ⟨_, _, X.returnOut hx hret hd hr, hrun, hended, _, _, rfl, hq, hC, own_monoW hW hc hs⟩
theorem own_finAW (X : Stand p l e R (s.setVm vm0) m args below meth c T locs cells slots) (hx : p.tables.exec = Jvm.exec) (hlk : meth.locks = false) (hS : s.Since vm0 k0) (hk : k0 ≤ T.heap.size) {pc : Nat} {Ls : Array Slot} {w : Value} {rest : List Value} {t : FieldType} (hret : meth.sig.returnType = some t) (hw : w.isRef = true) (ht : t.isReference = true) (hd : decode c.code pc = .ok (.areturn, 1)) {Q : Option Value → Heap → List Loc → Prop} {C S : Nat}
    (hq : Q (some w) T.heap locs) (hC : CHr Z EL s.vm s.heap T.vm T.heap) (hc : cells ≤ C) (hs : slots ≤ S) : Gl p.tables e below (fun o U' => ∃ v L, o = .returned v ∧ Q v U'.heap L ∧ CHr Z EL s.vm s.heap U'.vm U'.heap ∧ ReturnedEndW s o U' L C S) (T.setTop (mkF m pc Ls (w :: rest))) := by
  obtain ⟨fs, hr, hrun, hended, hW⟩ := X.leaveW hS hk (v := some w) (fun h => by rw [hret] at h; cases h) hlk
  have hn : narrow t w = w := by rcases ref_cases hw with rfl | ⟨z, rfl⟩ <;> cases t <;> rfl
  exact ⟨_, _, retOut X hx hret hn (Or.inr (Or.inr (Or.inr (Or.inr ⟨rfl, ht, hw⟩)))) hd hr, hrun, hended, _, _, rfl, hq, hC, own_monoW hW hc hs⟩
/-- a callee that keeps the constants' invariant; SL: objects that it may write, none of them a constant's -/
theorem own_backH {a0 : Array Value} {h : Heap} {y : MethodName} {bytes : ByteArray} {maxL : Nat} {ret : Option FieldType} {rm : Room} {len W : Nat} {as' : Array Value} {Q : Option Value → Heap → List Loc → Prop} {SL : List Addr}
    (hM : MetFree l y (head1 [Cond.code y bytes maxL ret] rm) (fun a U => a = as' ∧ Z.Warmed39 U.vm ∧ U.heap = h ∧ CHv Z EL U.vm h ∧ ∀ x ∈ SL, Safe Z EL U.vm h x) (fun _ _ _ _ _ => True) (fun _ U o U' => ∃ v L, o = .returned v ∧ Q v U'.heap L ∧ CHr Z EL U.vm U.heap U'.vm U'.heap ∧ ReturnedEndW U o U' L rm.cells rm.slots))
    (hZ : Z.Warmed39 vm0) (wc : (Cond.code y bytes maxL ret).before a0 Z = true) (wz : (Cond.initialized y.cls).before a0 Z = true) (hf : rm.frames + 1 ≤ R.frames) (hl : W + (maxL + 11) + rm.locals ≤ R.locals) (hEL : EW Z a0 EL) (H : CHv Z EL vm0 h) (hSL : ∀ x ∈ SL, x < h.size ∧ Safe Z EL vm0 h x) :
    BackS l R p e below (s.setVm vm0) args y len W (fun A a => a = as' ∧ A.U.heap = h ∧ A.cells + rm.cells ≤ R.cells ∧ A.slots + rm.slots ≤ R.slots)
      (fun A _ v B => ∃ L, Q v B.U.heap L ∧ B.locs = A.locs ++ L ∧ B.cells = A.cells + rm.cells ∧ B.slots = A.slots + rm.slots ∧ CHr Z EL vm0 h B.U.vm B.U.heap) := by
  refine BackS.of_freeW (bytes := bytes) (maxL := maxL) (ret := ret) (E := fun _ first o t L k n => k = rm.cells ∧ n = rm.slots ∧ (∃ v, o = .returned v ∧ Q v t.heap L) ∧ CHr Z EL first.vm first.heap t.vm t.heap) hM hf hl ?_ ?_ (fun _ _ _ _ _ _ _ _ _ => trivial) (fun _ _ _ _ ⟨v, L, h1, h2, h3, h4⟩ => ⟨L, _, _, h4, rfl, rfl, ⟨v, h1, h2⟩, h3⟩) ?_
  · intro m meth c A a Y hp
    have hU : Z.Warmed39 A.U.vm := wtrans (s := s.setVm vm0) hZ Y.warmed
    refine ⟨?_, mv hU wc, mv hU wz, hp.2.2.1, hp.2.2.2⟩
    show (Cond.and _ .tt).before a A.U = true
    rw [Cond.before_and, mv hU wc]; rfl
  · intro m meth c A a g mk Y hp
    have q := CHv.at Y hZ hEL H
    exact ⟨hp.1, wtrans (s := s.setVm vm0) hZ Y.warmed, hp.2.1, q.1, fun x hx => q.safe (hSL x hx).1 (hSL x hx).2⟩
  · rintro m meth c A a g mk v t L k n Y hp _ _ ⟨e1, e2, ⟨v', e3, e4⟩, e5⟩
    cases e3; subst e1 e2
    refine ⟨L, e4, rfl, rfl, rfl, (CHv.at Y hZ hEL H).trans ?_⟩
    rw [← hp.2.1]; exact e5
end Wide
theorem own_fits_pi {P : Prop} [i : Decidable P] : fits .boolean (.int (@own_pi P i)) = true := by unfold own_pi; split <;> rfl
/-- the array at a, of the class k over C, holds the values vs -/
def Ral (Z : State) (h : Heap) (a : Addr) (k : ClassId) (C : String) (vs : List Value) : Prop := ∃ c : Cell, Arr Z h a c (.object C) ∧ c.cls = k ∧ c.slots.size = vs.length ∧ ∀ i, i < vs.length → c.slots[i]? = some (vs.getD i .null)
section Refs
variable {Z : State} {h h' : Heap} {a b : Addr} {k : ClassId} {C : String} {vs : List Value} {ws : List Addr}
theorem Ral.lt (F : Ral Z h a k C vs) : a < h.size := by obtain ⟨c, A, -⟩ := F; exact A.lt
theorem Ral.ext (F : Ral Z h a k C vs) (E : Ext h h') : Ral Z h' a k C vs := by obtain ⟨c, A, r⟩ := F; exact ⟨c, A.ext E, r⟩
theorem Ral.other {sl : Nat} {v : Value} (F : Ral Z h b k C vs) (W : Wr h h' a sl v) (q : b ≠ a) : Ral Z h' b k C vs := by obtain ⟨c, A, r⟩ := F; exact ⟨c, A.other W q, r⟩
theorem Ral.keep (F : Ral Z h a k C vs) (K : Keep h h' ws) (q : a ∉ ws) : Ral Z h' a k C vs := by obtain ⟨c, A, r⟩ := F; exact ⟨c, ⟨K.2.1 a c A.1 q, A.2⟩, r⟩
theorem Ral.new {z : Int32} {n : Nat} (A : Arr Z h a (newA k (.object C) z) (.object C)) (hz : z.toNatClampNeg = n) : Ral Z h a k C (List.replicate n .null) := by
  subst hz
  refine ⟨_, A, rfl, by rw [sz_new, List.length_replicate], fun i hi => ?_⟩
  rw [List.length_replicate] at hi
  simp [newA, defaultValue, hi, List.getD_eq_getElem?_getD]
theorem Ral.set {i : Nat} {v : Value} (F : Ral Z h a k C vs) (W : Wr h h' a i v) (hi : i < vs.length) : Ral Z h' a k C (vs.set i v) := by
  obtain ⟨c, A, q0, S, H⟩ := F
  refine ⟨_, A.same W, q0, by rw [sz_set, S, List.length_set], fun k hk => ?_⟩
  rw [List.length_set] at hk
  show (c.slots.setIfInBounds i v)[k]? = _
  rw [Array.getElem?_setIfInBounds, List.getD_eq_getElem?_getD, List.getElem?_set]
  by_cases q : i = k
  · subst q; simp [S, hk]
  · rw [if_neg q, if_neg q, ← List.getD_eq_getElem?_getD]; exact H k hk
variable {p : Program} {l : Launch} {e : Env} {R : Room} {s : State} {m : MethodId} {args : Array Value} {below : List Frame} {meth : Method} {c : Code} {T : State} {locs : List Loc} {cells slots : Nat}
theorem own_stR (X : Stand p l e R s m args below meth c T locs cells slots) (hx : p.tables.exec = Jvm.exec) (hZ : Z.Warmed39 s.vm) (eT : T.heap = h) (F : Ral Z h a k C vs) (O : Ovr Z k C) {y : Addr} (I : Ins Z h y C true) {j : Int32} {i : Nat} (h0 : ¬ j < 0) (hj : j.toNatClampNeg = i) (hi : i < vs.length) {g : JFrame} (hg : g.method = m) {rest : List Value} (hs : g.stack = .ref y :: .int j :: .ref a :: rest) (hd : decode c.code g.pc = .ok (.aastore, 1)) :
    ∃ T' h', Stand p l e R s m args below meth c T' (locs ++ [⟨a, i⟩]) cells slots ∧ T'.heap = h' ∧ Wr h h' a i (.ref y) ∧ Ral Z h' a k C (vs.set i (.ref y)) ∧ ∀ target, Steps p.tables e below (T'.setTop { g with pc := g.pc + 1, stack := rest }) target → Steps p.tables e below (T.setTop g) target := by
  have F' := F
  obtain ⟨cl, A, q0, S, H⟩ := F
  have hin : ¬ (j < 0 ∨ cl.slots.size ≤ j.toNatClampNeg) := by
    rintro (q | q)
    · exact h0 q
    · omega
  subst q0
  obtain ⟨T', h', X', e', W, st⟩ := stR X hx hZ eT A (j := j) hin rfl (Sto.of A O I) hg hs hd
  subst hj
  exact ⟨T', h', X', e', W, F'.set W hi, st⟩
theorem own_ldR (X : Stand p l e R s m args below meth c T locs cells slots) (hx : p.tables.exec = Jvm.exec) (hZ : Z.Warmed39 s.vm) (eT : T.heap = h) (F : Ral Z h a k C vs) {j : Int32} {i : Nat} (h0 : ¬ j < 0) (hj : j.toNatClampNeg = i) (hi : i < vs.length) {v : Value} (hv : vs.getD i .null = v) {g : JFrame} (hg : g.method = m) {rest : List Value} (hs : g.stack = .int j :: .ref a :: rest) (hd : decode c.code g.pc = .ok (.aaload, 1)) (target : State)
    (kk : Steps p.tables e below (T.setTop { g with pc := g.pc + 1, stack := v :: rest }) target) : Steps p.tables e below (T.setTop g) target := by
  obtain ⟨cl, A, q0, S, H⟩ := F
  have hin : ¬ (j < 0 ∨ cl.slots.size ≤ j.toNatClampNeg) := by
    rintro (q | q)
    · exact h0 q
    · omega
  subst hv
  exact X.aaload hx (j := j) (v := vs.getD i .null) (by rw [eT]; exact A.1) (State.isArrayOf_alike hZ.alike A.2.1) rfl A.2.2 hin (by rw [hj]; exact H i hi) hg hs hd _ kk
end Refs
section Starts
variable {s : State} {args : Array Value} {t : Term} {a : Addr} {C n d : String}
theorem own_fldI {z : Int32} (ev : t.eval args s none [] s = some (.ref a)) (h : (Cond.eq (Term.field t C n d) (Term.int z)).value args s none s [] = some true) : Fld s s.heap a C n d (.int z) := by
  refine Fld.start ?_
  rw [← fld_at (args := args) (first := s) (o := none) (idx := []) ev]
  cases hf : (Term.field t C n d).eval args s none [] s with
  | none => simp [Cond.value, hf] at h
  | some x =>
    have hz : (Term.int z).eval args s none [] s = some (.int z) := rfl
    cases x <;> simp [Cond.value, hf, hz] at h
    rw [h]
theorem own_fldN (ev : t.eval args s none [] s = some (.ref a)) (h : (Cond.eq (Term.field t C n d) Term.null).value args s none s [] = some true) : Fld s s.heap a C n d .null := by
  refine Fld.start ?_
  rw [← fld_at (args := args) (first := s) (o := none) (idx := []) ev]
  exact null_v h
theorem own_fldE {K : String} (ev : t.eval args s none [] s = some (.ref a)) (h : (Cond.exactly (Term.field t C n d) K).value args s none s [] = some true) : ∃ y, Fld s s.heap a C n d (.ref y) := by
  obtain ⟨y, hy⟩ := exa_v h
  refine ⟨y, Fld.start ?_⟩
  rw [← fld_at (args := args) (first := s) (o := none) (idx := []) ev]
  exact hy
theorem own_fldS {u : Term} {b : Addr} (ev : t.eval args s none [] s = some (.ref a)) (eu : u.eval args s none [] s = some (.ref b)) (h : (Cond.eq (Term.field t C n d) u).value args s none s [] = some true) : Fld s s.heap a C n d (.ref b) := by
  refine Fld.start ?_
  rw [← fld_at (args := args) (first := s) (o := none) (idx := []) ev]
  cases hf : (Term.field t C n d).eval args s none [] s with
  | none => simp [Cond.value, hf] at h
  | some x =>
    cases x <;> simp [Cond.value, hf, eu] at h
    rw [h]
theorem own_statI {t : Term} {z : Int32} (h : (Cond.eq t (Term.int z)).value args s none s [] = some true) : t.eval args s none [] s = some (.int z) := by
  cases hf : t.eval args s none [] s with
  | none => simp [Cond.value, hf] at h
  | some x =>
    have hz : (Term.int z).eval args s none [] s = some (.int z) := rfl
    cases x <;> simp [Cond.value, hf, hz] at h
    rw [h]
theorem own_empty {cl : Cell} {ty : FieldType} (ev : t.eval args s none [] s = some (.ref a)) (A : Arr s s.heap a cl ty) (h : (Cond.eq (Term.length t) (Term.int 0)).value args s none s [] = some true) : Bal s s.heap a ty [] := by
  have ha : s.arrayAt? a = some cl := A.fin (Vm.Alike.refl _)
  have hsz : cl.slots.size = 0 := by
    by_cases hl : cl.slots.size < 2 ^ 31
    · have hv := len_f (args := args) (first := s) (o := none) (idx := []) ev ha hl
      have hz : (Term.int 0).eval args s none [] s = some (.int 0) := rfl
      simp only [Cond.value, hv, hz] at h
      have q := len_toInt hl
      have q2 : cl.slots.size.toInt32 = 0 := by simpa using h
      rw [q2] at q
      have : (0 : Int32).toInt = 0 := rfl
      omega
    · exfalso
      cases hf : (Term.length t).eval args s none [] s with
      | none => simp [Cond.value, hf] at h
      | some x => simp [Term.eval, ev, ha, hl] at hf
  exact ⟨cl, A, hsz, fun i hi => absurd hi (Nat.not_lt_zero i)⟩
end Starts
end Jvm.RoadKit
/- laws to paste: Road.backV, Road.chN, Road.eqW, Road.codOf (cut by pick.py; bodies as the Statement names them) -/
namespace Jvm.Pilot.@@N@@
namespace StrChars
open Jvm Sem ClassFile Op Lib Jvm.Stand Jvm.Free.XT Jvm.Free.ALB Jvm.Free.JM Jvm.Free
open Jvm.Lib.Cold (StaticIs)
/-- a char array whose places are chars -/
def Ch (a : Addr) (A : Cell) (U : State) : Prop := Arr .char a A U ∧ Typed .char A
theorem Ch.mv {a : Addr} {A : Cell} {U U' : State} (h : Ch a A U) (hal : U.vm.Alike U'.vm) (hh : U'.heap = U.heap) : Ch a A U' := ⟨h.1.mv hal hh, h.2⟩
theorem Ch.keep {a : Addr} {A : Cell} {U U' : State} (h : Ch a A U) (hal : U.vm.Alike U'.vm) (hk : U'.heap[a]? = some A) : Ch a A U' := ⟨h.1.keep hal hk, h.2⟩
/-- what place i of a char[]'s cell holds -/
def cv (A : Cell) (i : Nat) : Int32 := match A.slots[i]? with | some (.int x) => x | _ => 0
theorem Ch.get {a : Addr} {A : Cell} {U : State} (h : Ch a A U) {i : Nat} (hi : i < A.slots.size) : A.slots[i]? = some (.int (cv A i)) := by
  have e := Array.getElem?_eq_getElem hi
  have f := h.2 i _ e
  unfold cv; rw [e]
  generalize A.slots[i] = v at f
  cases v <;> simp [fits] at f ⊢
/-- the byte that i2b leaves of a char -/
def lo8 (x : Int32) : Int32 := x.toInt8.toInt32
theorem fits_lo8 (y : Int32) : fits .byte (.int (lo8 y)) = true := by
  have h1 := y.toInt8.le_toInt
  have h2 := y.toInt8.toInt_lt
  simp only [lo8, fits, Bool.and_eq_true, decide_eq_true_eq, Int32.le_iff_toInt_le, Int8.toInt_toInt32, show (-128 : Int32).toInt = -128 from by decide, show (127 : Int32).toInt = 127 from by decide]
  omega
/-- A' is A but that each place j of lo .. hi - 1 holds f j -/
def Laid (A A' : Cell) (lo hi : Nat) (f : Nat → Value) : Prop := A'.cls = A.cls ∧ A'.vm = A.vm ∧ A'.slots.size = A.slots.size ∧ ∀ i, A'.slots[i]? = if lo ≤ i ∧ i < hi then some (f i) else A.slots[i]?
theorem Laid.zero (A : Cell) (lo : Nat) (f : Nat → Value) : Laid A A lo (lo + 0) f := ⟨rfl, rfl, rfl, fun i => by rw [if_neg (by omega)]⟩
theorem Laid.step {A Ak : Cell} {lo k : Nat} {f : Nat → Value} {v : Value} (h : Laid A Ak lo k f) (hlo : lo ≤ k) (hk : k < Ak.slots.size) (hv : v = f k) : Laid A (Ak.setSlot k v) lo (k + 1) f := by
  refine ⟨h.1, h.2.1, by simpa [Cell.setSlot] using h.2.2.1, fun i => ?_⟩
  by_cases e : k = i
  · subst e; rw [Cell.slots_setSlot_self v hk, if_pos (by omega), hv]
  · rw [Cell.slots_setSlot_ne v e, h.2.2.2 i]
    by_cases q : lo ≤ i ∧ i < k
    · rw [if_pos q, if_pos (by omega)]
    · rw [if_neg q, if_neg (by omega)]
def U16 : String := "java/lang/StringUTF16"
namespace Cmp5
def yN : MethodName := ⟨"java/lang/StringUTF16", "compress", "([CI[BII)I"⟩
abbrev yB : ByteArray := jdk_52_method_21_code
theorem d0 : decode yB 0 = .ok (.iconst 0, 1) := by decide +kernel
theorem d1 : decode yB 1 = .ok (.istore 5, 2) := by decide +kernel
theorem d3 : decode yB 3 = .ok (.iload 5, 2) := by decide +kernel
theorem d5 : decode yB 5 = .ok (.iload 4, 2) := by decide +kernel
theorem d7 : decode yB 7 = .ok (.if_icmp (.ge) 37, 3) := by decide +kernel
theorem d10 : decode yB 10 = .ok (.aload_n 0, 1) := by decide +kernel
theorem d11 : decode yB 11 = .ok (.iload_n 1, 1) := by decide +kernel
theorem d12 : decode yB 12 = .ok (.caload, 1) := by decide +kernel
theorem d13 : decode yB 13 = .ok (.istore 6, 2) := by decide +kernel
theorem d15 : decode yB 15 = .ok (.iload 6, 2) := by decide +kernel
theorem d17 : decode yB 17 = .ok (.sipush 255, 3) := by decide +kernel
theorem d20 : decode yB 20 = .ok (.if_icmp (.le) 6, 3) := by decide +kernel
theorem d26 : decode yB 26 = .ok (.aload_n 2, 1) := by decide +kernel
theorem d27 : decode yB 27 = .ok (.iload_n 3, 1) := by decide +kernel
theorem d28 : decode yB 28 = .ok (.iload 6, 2) := by decide +kernel
theorem d30 : decode yB 30 = .ok (.i2b, 1) := by decide +kernel
theorem d31 : decode yB 31 = .ok (.bastore, 1) := by decide +kernel
theorem d32 : decode yB 32 = .ok (.iinc 1 1, 3) := by decide +kernel
theorem d35 : decode yB 35 = .ok (.iinc 3 1, 3) := by decide +kernel
theorem d38 : decode yB 38 = .ok (.iinc 5 1, 3) := by decide +kernel
theorem d41 : decode yB 41 = .ok (.goto (-38), 3) := by decide +kernel
theorem d44 : decode yB 44 = .ok (.iload 4, 2) := by decide +kernel
theorem d46 : decode yB 46 = .ok (.ireturn, 1) := by decide +kernel
def site : List Cond := []
def tab : Cond := tabOf yN yB 7 (some .int) site
def P (b : Addr) (A : Cell) (d : Addr) (B : Cell) (o q len : Nat) (args : Array Value) (s : State) : Prop := args = #[.ref b, .int (Int32.ofNat o), .ref d, .int (Int32.ofNat q), .int (Int32.ofNat len)] ∧ Ch b A s ∧ Arr .byte d B s ∧ b ≠ d ∧ o + len ≤ A.slots.size ∧ q + len ≤ B.slots.size ∧ ∀ i, i < len → ¬ 255 < cv A (o + i)
def E (b : Addr) (A : Cell) (d : Addr) (B : Cell) (o q len : Nat) (r : Option Value) (s u : State) : Prop := r = some (.int (Int32.ofNat len)) ∧ ∃ B', Put d B' s u ∧ Laid B B' q (q + len) (fun j => Value.int (lo8 (cv A (o + (j - q)))))
/-- no char of the range above 255: len; the places written hold each char's low byte -/
theorem law (l : Launch) (b : Addr) (A : Cell) (d : Addr) (B : Cell) (o q len : Nat) : Law l yN 5 5 0 0 yB 7 (some .int) site (P b A d B o q len) (E b A d B o q len) (copyLocs d q len) 0 0 := by
  refine Law.of_walk (plainFor_of_name (by decide +kernel)) (by decide +kernel) (by decide +kernel) (by decide) (fun _ _ h => by rw [h.1]; rfl) (fun _ U U' hal hh h => ⟨h.1, h.2.1.mv hal hh, h.2.2.1.mv hal hh, h.2.2.2⟩) (fun r U U' V V' h1 hal h2 h => ⟨h.1, h.2.elim fun B' q => ⟨B', q.1.mv h1 h2, q.2⟩⟩) ?_
  intro p e s m args below meth c s₁ X0 hexec hbytes hml hret hlk hnm hown hh0 W hP
  obtain ⟨rfl, hA, hB, hne, l1, l2, hp⟩ := hP
  have c1 : Steps p.tables e below (s₁.setTop (entryFrame m #[.ref b, .int (Int32.ofNat o), .ref d, .int (Int32.ofNat q), .int (Int32.ofNat len)] 7)) (s₁.setTop (mkF m 0 #[.val (.ref b), .val (.int (Int32.ofNat o)), .val (.ref d), .val (.int (Int32.ofNat q)), .val (.int (Int32.ofNat len)), .unset, .unset] [])) := entry rfl
  have hA0 := hA.1.mv X0.warmed.alike hh0
  have hB0 := hB.mv X0.warmed.alike hh0
  have a31 := hA.1.2.2.2
  have c2 : Steps p.tables e below (s₁.setTop (entryFrame m #[.ref b, .int (Int32.ofNat o), .ref d, .int (Int32.ofNat q), .int (Int32.ofNat len)] 7)) (s₁.setTop (mkF m 3 #[.val (.ref b), .val (.int (Int32.ofNat o)), .val (.ref d), .val (.int (Int32.ofNat q)), .val (.int (Int32.ofNat len)), .val (.int 0), .unset] [])) := c1.trans (by
    refine iconstV X0.here hexec rfl 0 (hb hbytes d0) (by decide) ?_
    refine XS.istore X0.here hexec rfl (hb hbytes d1) rfl rfl ?_
    exact Steps.refl _)
  have loop : ∀ (r i : Nat), i + r = len → ∀ (z : Slot), (z = .unset ∨ ∃ w, z = .val w ∧ w.category = 1) → ∀ (Tl : State) (Bk : Cell), Stand p l e { frames := 0, locals := 0, cells := 0, slots := 0 } s m #[.ref b, .int (Int32.ofNat o), .ref d, .int (Int32.ofNat q), .int (Int32.ofNat len)] below meth c Tl ([] ++ copyLocs d q i) 0 0 → Put d Bk s₁ Tl → Laid B Bk q (q + i) (fun j => Value.int (lo8 (cv A (o + (j - q))))) →
      Steps p.tables e below (s₁.setTop (entryFrame m #[.ref b, .int (Int32.ofNat o), .ref d, .int (Int32.ofNat q), .int (Int32.ofNat len)] 7)) (Tl.setTop (mkF m 3 #[.val (.ref b), .val (.int (Int32.ofNat (o + i))), .val (.ref d), .val (.int (Int32.ofNat (q + i))), .val (.int (Int32.ofNat len)), .val (.int (Int32.ofNat i)), z] [])) → ∃ (T' : State) (B' : Cell) (z' : Slot), Stand p l e { frames := 0, locals := 0, cells := 0, slots := 0 } s m #[.ref b, .int (Int32.ofNat o), .ref d, .int (Int32.ofNat q), .int (Int32.ofNat len)] below meth c T' ([] ++ copyLocs d q len) 0 0 ∧ Put d B' s₁ T' ∧ Laid B B' q (q + len) (fun j => Value.int (lo8 (cv A (o + (j - q))))) ∧
      Steps p.tables e below (s₁.setTop (entryFrame m #[.ref b, .int (Int32.ofNat o), .ref d, .int (Int32.ofNat q), .int (Int32.ofNat len)] 7)) (T'.setTop (mkF m 3 #[.val (.ref b), .val (.int (Int32.ofNat (o + len))), .val (.ref d), .val (.int (Int32.ofNat (q + len))), .val (.int (Int32.ofNat len)), .val (.int (Int32.ofNat len)), z'] [])) := by
    intro r
    induction r with
    | zero =>
      intro i hi z hz Tl Bk Xl pl fl cl
      have hil : i = len := by omega
      rw [hil] at Xl fl cl
      exact ⟨Tl, Bk, z, Xl, pl, fl, cl⟩
    | succ r ih =>
      intro i hi z hz Tl Bk Xl pl fl cl
      have all := X0.warmed.alike.symm.trans Xl.warmed.alike
      have hAl := hA0.keep all (pl.other hne hA0.1)
      have hBk := hB0.like all pl.1 fl.1 fl.2.1 fl.2.2.1
      have hlt : q + i < Bk.slots.size := by rw [fl.2.2.1]; omega
      have c3 : Steps p.tables e below (s₁.setTop (entryFrame m #[.ref b, .int (Int32.ofNat o), .ref d, .int (Int32.ofNat q), .int (Int32.ofNat len)] 7)) (Tl.setTop (mkF m 12 #[.val (.ref b), .val (.int (Int32.ofNat (o + i))), .val (.ref d), .val (.int (Int32.ofNat (q + i))), .val (.int (Int32.ofNat len)), .val (.int (Int32.ofNat i)), z] [.int (Int32.ofNat (o + i)), .ref b])) := cl.trans (by
        refine XS.iload Xl.here hexec rfl (hb hbytes d3) rfl ?_
        refine XS.iload Xl.here hexec rfl (hb hbytes d5) rfl ?_
        refine XS.icmpNo Xl.here hexec rfl (hb hbytes d7) rfl (ii_ge_f (lt32 (by omega) (by omega))) ?_
        refine XS.aloadN Xl.here hexec rfl (hb hbytes d10) rfl rfl ?_
        refine XS.iloadN Xl.here hexec rfl (hb hbytes d11) rfl ?_
        exact Steps.refl _)
      have c4 : Steps p.tables e below (s₁.setTop (entryFrame m #[.ref b, .int (Int32.ofNat o), .ref d, .int (Int32.ofNat q), .int (Int32.ofNat len)] 7)) (Tl.setTop (mkF m 13 #[.val (.ref b), .val (.int (Int32.ofNat (o + i))), .val (.ref d), .val (.int (Int32.ofNat (q + i))), .val (.int (Int32.ofNat len)), .val (.int (Int32.ofNat i)), z] [.int (cv A (o + i))])) := c3.trans (by
        refine Xl.aget hexec hAl rfl (hA.get (i := o + i) (by omega)) rfl rfl (hb hbytes d12) ?_
        exact Steps.refl _)
      have c5 : Steps p.tables e below (s₁.setTop (entryFrame m #[.ref b, .int (Int32.ofNat o), .ref d, .int (Int32.ofNat q), .int (Int32.ofNat len)] 7)) (Tl.setTop (mkF m 15 #[.val (.ref b), .val (.int (Int32.ofNat (o + i))), .val (.ref d), .val (.int (Int32.ofNat (q + i))), .val (.int (Int32.ofNat len)), .val (.int (Int32.ofNat i)), .val (.int (cv A (o + i)))] [])) := c4.trans (by
        refine XS.istoreS Xl.here hexec rfl (hb hbytes d13) rfl rfl hz ?_
        exact Steps.refl _)
      have c6 : Steps p.tables e below (s₁.setTop (entryFrame m #[.ref b, .int (Int32.ofNat o), .ref d, .int (Int32.ofNat q), .int (Int32.ofNat len)] 7)) (Tl.setTop (mkF m 31 #[.val (.ref b), .val (.int (Int32.ofNat (o + i))), .val (.ref d), .val (.int (Int32.ofNat (q + i))), .val (.int (Int32.ofNat len)), .val (.int (Int32.ofNat i)), .val (.int (cv A (o + i)))] [.int (lo8 (cv A (o + i))), .int (Int32.ofNat (q + i)), .ref d])) := c5.trans (by
        refine XS.iload Xl.here hexec rfl (hb hbytes d15) rfl ?_
        refine sipushV Xl.here hexec rfl 255 (hb hbytes d17) (by decide) ?_
        refine XS.icmpYes Xl.here hexec rfl (pc0 := 20) rfl (hb hbytes d20) rfl (ii_le_t (hp i (by omega))) (by decide) rfl ?_
        refine XS.aloadN Xl.here hexec rfl (hb hbytes d26) rfl rfl ?_
        refine XS.iloadN Xl.here hexec rfl (hb hbytes d27) rfl ?_
        refine XS.iload Xl.here hexec rfl (hb hbytes d28) rfl ?_
        refine i2b Xl.here hexec rfl (hb hbytes d30) rfl ?_
        exact Steps.refl _)
      obtain ⟨T7, X7, p7, st7⟩ := Xl.aput hexec hBk rfl hlt rfl (fits_lo8 (cv A (o + i))) (g := (mkF m 31 #[.val (.ref b), .val (.int (Int32.ofNat (o + i))), .val (.ref d), .val (.int (Int32.ofNat (q + i))), .val (.int (Int32.ofNat len)), .val (.int (Int32.ofNat i)), .val (.int (cv A (o + i)))] [.int (lo8 (cv A (o + i))), .int (Int32.ofNat (q + i)), .ref d])) rfl (rest := []) rfl (hb hbytes d31)
      have c8 : Steps p.tables e below (s₁.setTop (entryFrame m #[.ref b, .int (Int32.ofNat o), .ref d, .int (Int32.ofNat q), .int (Int32.ofNat len)] 7)) (T7.setTop (mkF m 32 #[.val (.ref b), .val (.int (Int32.ofNat (o + i))), .val (.ref d), .val (.int (Int32.ofNat (q + i))), .val (.int (Int32.ofNat len)), .val (.int (Int32.ofNat i)), .val (.int (cv A (o + i)))] [])) := c6.trans (st7 _ (Steps.refl _))
      have c9 : Steps p.tables e below (s₁.setTop (entryFrame m #[.ref b, .int (Int32.ofNat o), .ref d, .int (Int32.ofNat q), .int (Int32.ofNat len)] 7)) (T7.setTop (mkF m 3 #[.val (.ref b), .val (.int (Int32.ofNat (o + i) + 1)), .val (.ref d), .val (.int (Int32.ofNat (q + i) + 1)), .val (.int (Int32.ofNat len)), .val (.int (Int32.ofNat i + 1)), .val (.int (cv A (o + i)))] [])) := c8.trans (by
        refine iincV X7.here hexec rfl 1 (hb hbytes d32) (by decide) rfl rfl ?_
        refine iincV X7.here hexec rfl 1 (hb hbytes d35) (by decide) rfl rfl ?_
        refine iincV X7.here hexec rfl 1 (hb hbytes d38) (by decide) rfl rfl ?_
        refine XS.goto X7.here hexec rfl (pc0 := 41) rfl (hb hbytes d41) (by decide) rfl ?_
        exact Steps.refl _)
      have c10 : Steps p.tables e below (s₁.setTop (entryFrame m #[.ref b, .int (Int32.ofNat o), .ref d, .int (Int32.ofNat q), .int (Int32.ofNat len)] 7)) (T7.setTop (mkF m 3 #[.val (.ref b), .val (.int (Int32.ofNat (o + (i + 1)))), .val (.ref d), .val (.int (Int32.ofNat (q + (i + 1)))), .val (.int (Int32.ofNat len)), .val (.int (Int32.ofNat (i + 1))), .val (.int (cv A (o + i)))] [])) := by
        have := c9
        rw [succ32, succ32, succ32] at this
        exact this
      exact ih (i + 1) (by omega) _ (Or.inr ⟨_, rfl, rfl⟩) T7 _ (by rw [copyLocs_step, ← List.append_assoc]; exact X7) (pl.trans p7) (fl.step (by omega) hlt (by simp)) c10
  obtain ⟨T9, B9, z9, X9, p9, f9, g9⟩ := loop len 0 (by omega) .unset (Or.inl rfl) s₁ B (by simpa [copyLocs] using X0) ⟨hB0.1, fun _ _ => rfl, rfl⟩ (Laid.zero _ _ _) c2
  have c11 : Steps p.tables e below (s₁.setTop (entryFrame m #[.ref b, .int (Int32.ofNat o), .ref d, .int (Int32.ofNat q), .int (Int32.ofNat len)] 7)) (T9.setTop (mkF m 46 #[.val (.ref b), .val (.int (Int32.ofNat (o + len))), .val (.ref d), .val (.int (Int32.ofNat (q + len))), .val (.int (Int32.ofNat len)), .val (.int (Int32.ofNat len)), z9] [.int (Int32.ofNat len)])) := g9.trans (by
    refine XS.iload X9.here hexec rfl (hb hbytes d3) rfl ?_
    refine XS.iload X9.here hexec rfl (hb hbytes d5) rfl ?_
    refine XS.icmpYes X9.here hexec rfl (pc0 := 7) rfl (hb hbytes d7) rfl (ii_ge_t (nlt32 (by omega) (Nat.le_refl _))) (by decide) rfl ?_
    refine XS.iload X9.here hexec rfl (hb hbytes d44) rfl ?_
    exact Steps.refl _)
  exact ⟨T9, some (.int (Int32.ofNat len)), _, _, _, X9, by simp, rfl, rfl, (fun h => by cases h), ⟨rfl, B9, p9.from hh0, f9⟩, fun fs hl => c11.trans (X9.ireturnOut hexec hret rfl (Or.inl rfl) (hb hbytes d46) hl)⟩
end Cmp5
namespace Cmp3
def yN : MethodName := ⟨"java/lang/StringUTF16", "compress", "([CII)[B"⟩
abbrev yB : ByteArray := jdk_52_method_16_code
theorem d0 : decode yB 0 = .ok (.iload_n 2, 1) := by decide +kernel
theorem d1 : decode yB 1 = .ok (.newarray .byte, 2) := by decide +kernel
theorem d3 : decode yB 3 = .ok (.astore_n 3, 1) := by decide +kernel
theorem d4 : decode yB 4 = .ok (.aload_n 0, 1) := by decide +kernel
theorem d5 : decode yB 5 = .ok (.iload_n 1, 1) := by decide +kernel
theorem d6 : decode yB 6 = .ok (.aload_n 3, 1) := by decide +kernel
theorem d7 : decode yB 7 = .ok (.iconst 0, 1) := by decide +kernel
theorem d8 : decode yB 8 = .ok (.iload_n 2, 1) := by decide +kernel
theorem d9 : decode yB 9 = .ok (.invokestatic 115, 3) := by decide +kernel
theorem d12 : decode yB 12 = .ok (.istore 4, 2) := by decide +kernel
theorem d14 : decode yB 14 = .ok (.iload 4, 2) := by decide +kernel
theorem d16 : decode yB 16 = .ok (.iload_n 2, 1) := by decide +kernel
theorem d17 : decode yB 17 = .ok (.if_icmp (.eq) 40, 3) := by decide +kernel
theorem d57 : decode yB 57 = .ok (.aload_n 3, 1) := by decide +kernel
theorem d58 : decode yB 58 = .ok (.areturn, 1) := by decide +kernel
def site : List Cond := [.arrayClass .byte, Cmp5.tab] ++ staticW U16 115 Cmp5.yN
def tab : Cond := tabOf yN yB 6 (some (.array .byte)) site
def P (b : Addr) (A : Cell) (o len : Nat) (args : Array Value) (s : State) : Prop := args = #[.ref b, .int (Int32.ofNat o), .int (Int32.ofNat len)] ∧ Ch b A s ∧ o + len ≤ A.slots.size ∧ len ≤ 536870912 ∧ ∀ i, i < len → ¬ 255 < cv A (o + i)
def E (b : Addr) (A : Cell) (o len : Nat) (r : Option Value) (s u : State) : Prop := NewArr .byte "[B" len (fun j => .int (lo8 (cv A (o + j)))) r s u ∧ u.heap.size = s.heap.size + 1
/-- no char of the range above 255: a new byte[] of their low bytes -/
theorem law (l : Launch) (b : Addr) (A : Cell) (o len : Nat) : Law l yN 3 3 1 18 yB 6 (some (.array .byte)) site (P b A o len) (E b A o len) [] 1 len := by
  refine Law.of_walk (plainFor_of_name (by decide +kernel)) (by decide +kernel) (by decide +kernel) (by decide) (fun _ _ h => by rw [h.1]; rfl) (fun _ U U' hal hh h => ⟨h.1, h.2.1.mv hal hh, h.2.2⟩) (fun r U U' V V' h1 hal h2 h => ⟨NewArr.mv r U U' V V' h1 hal h2 h.1, by rw [h1, h2]; exact h.2⟩) ?_
  intro p e s m args below meth c s₁ X0 hexec hbytes hml hret hlk hnm hown hh0 W hP
  obtain ⟨rfl, hA, l1, l2, hp⟩ := hP
  have a31 := hA.1.2.2.2
  have c1 : Steps p.tables e below (s₁.setTop (entryFrame m #[.ref b, .int (Int32.ofNat o), .int (Int32.ofNat len)] 6)) (s₁.setTop (mkF m 0 #[.val (.ref b), .val (.int (Int32.ofNat o)), .val (.int (Int32.ofNat len)), .unset, .unset, .unset] [])) := entry rfl
  have c2 : Steps p.tables e below (s₁.setTop (entryFrame m #[.ref b, .int (Int32.ofNat o), .int (Int32.ofNat len)] 6)) (s₁.setTop (mkF m 1 #[.val (.ref b), .val (.int (Int32.ofNat o)), .val (.int (Int32.ofNat len)), .unset, .unset, .unset] [.int (Int32.ofNat len)])) := c1.trans (by
    refine XS.iloadN X0.here hexec rfl (hb hbytes d0) rfl ?_
    exact Steps.refl _)
  obtain ⟨T3, B3, X3, ba3, bs3, bv3, bh3, bf3, st3⟩ := X0.anew hexec (atype := .byte) (wk W (.arrayClass .byte)) rfl (by show len * 1 ≤ _; omega) (by omega) (g := (mkF m 1 #[.val (.ref b), .val (.int (Int32.ofNat o)), .val (.int (Int32.ofNat len)), .unset, .unset, .unset] [.int (Int32.ofNat len)])) rfl (hb hbytes d1) (rest := []) rfl (Nat.le_refl _) (by show 0 + len ≤ len; omega)
  rw [hh0] at ba3 st3
  have kp3 : XT.Kept s T3 := (XT.Kept.of_eq hh0).push bh3
  have hA3 := hA.keep X3.warmed.alike (kp3 _ _ hA.1.1)
  have hne : b ≠ s.heap.size := hA.1.ne
  have c4 : Steps p.tables e below (s₁.setTop (entryFrame m #[.ref b, .int (Int32.ofNat o), .int (Int32.ofNat len)] 6)) (T3.setTop (mkF m 3 #[.val (.ref b), .val (.int (Int32.ofNat o)), .val (.int (Int32.ofNat len)), .unset, .unset, .unset] [.ref s.heap.size])) := c2.trans (st3 _ (Steps.refl _))
  have c5 : Steps p.tables e below (s₁.setTop (entryFrame m #[.ref b, .int (Int32.ofNat o), .int (Int32.ofNat len)] 6)) (T3.setTop (mkF m 9 #[.val (.ref b), .val (.int (Int32.ofNat o)), .val (.int (Int32.ofNat len)), .val (.ref s.heap.size), .unset, .unset] [.int (Int32.ofNat len), .int 0, .ref s.heap.size, .int (Int32.ofNat o), .ref b])) := c4.trans (by
    refine XS.astoreN X3.here hexec rfl (hb hbytes d3) rfl rfl rfl ?_
    refine XS.aloadN X3.here hexec rfl (hb hbytes d4) rfl rfl ?_
    refine XS.iloadN X3.here hexec rfl (hb hbytes d5) rfl ?_
    refine XS.aloadN X3.here hexec rfl (hb hbytes d6) rfl rfl ?_
    refine iconstV X3.here hexec rfl 0 (hb hbytes d7) (by decide) ?_
    refine XS.iloadN X3.here hexec rfl (hb hbytes d8) rfl ?_
    exact Steps.refl _)
  obtain ⟨v6, T6, X6, E6, g6⟩ := X3.callS hexec (Cmp5.law l b A s.heap.size B3 o 0 len) hown (wks W (staticW U16 115 Cmp5.yN)) (wk W Cmp5.tab) (W := 0) (Nat.le_of_ble_eq_true rfl) (Nat.le_of_ble_eq_true rfl) (Nat.le_refl _) (by show 0 + len + 0 ≤ len; omega) (g := (mkF m 9 #[.val (.ref b), .val (.int (Int32.ofNat o)), .val (.int (Int32.ofNat len)), .val (.ref s.heap.size), .unset, .unset] [.int (Int32.ofNat len), .int (Int32.ofNat 0), .ref s.heap.size, .int (Int32.ofNat o), .ref b])) rfl (by rw [hml]; rfl) c5 (argsL := [.ref b, .int (Int32.ofNat o), .ref s.heap.size, .int (Int32.ofNat 0), .int (Int32.ofNat len)]) (rest := []) rfl rfl (by show 2 * 0 + 0 ≤ _; decide) (hb hbytes d9) (⟨rfl, hA3, ba3, hne, l1, by rw [bs3]; simp, hp⟩)
  obtain ⟨rfl, B6, p6, f6⟩ := E6
  have c7 : Steps p.tables e below (s₁.setTop (entryFrame m #[.ref b, .int (Int32.ofNat o), .int (Int32.ofNat len)] 6)) (T6.setTop (mkF m 12 #[.val (.ref b), .val (.int (Int32.ofNat o)), .val (.int (Int32.ofNat len)), .val (.ref s.heap.size), .unset, .unset] [.int (Int32.ofNat len)])) := g6
  have c8 : Steps p.tables e below (s₁.setTop (entryFrame m #[.ref b, .int (Int32.ofNat o), .int (Int32.ofNat len)] 6)) (T6.setTop (mkF m 58 #[.val (.ref b), .val (.int (Int32.ofNat o)), .val (.int (Int32.ofNat len)), .val (.ref s.heap.size), .val (.int (Int32.ofNat len)), .unset] [.ref s.heap.size])) := c7.trans (by
    refine XS.istore X6.here hexec rfl (hb hbytes d12) rfl rfl ?_
    refine XS.iload X6.here hexec rfl (hb hbytes d14) rfl ?_
    refine XS.iloadN X6.here hexec rfl (hb hbytes d16) rfl ?_
    refine XS.icmpYes X6.here hexec rfl (pc0 := 17) rfl (hb hbytes d17) rfl (ii_eq_t rfl) (by decide) rfl ?_
    refine XS.aloadN X6.here hexec rfl (hb hbytes d57) rfl rfl ?_
    exact Steps.refl _)
  have X8 := X6.wide (L' := []) (cells' := 1) (slots' := len) (fun x hx hlt => by
    simp only [List.nil_append, copyLocs, List.mem_map, List.mem_range] at hx
    obtain ⟨i, -, rfl⟩ := hx
    exact absurd hlt (Nat.lt_irrefl _)) (Nat.le_refl _) (by omega)
  exact ⟨T6, some (.ref s.heap.size), _, _, _, X8, rfl, rfl, rfl, (fun h => by cases h), ⟨⟨rfl, B6, ba3.like (X3.warmed.alike.symm.trans X6.warmed.alike) p6.1 f6.1 f6.2.1 f6.2.2.1, f6.2.1.trans bv3, by rw [X6.warmed.alike.findClass, f6.1]; exact bf3, by rw [f6.2.2.1, bs3]; simp, fun j hj => by rw [f6.2.2.2 j, if_pos (by omega)]; rfl, kp3.put p6 (Nat.le_refl _)⟩, by rw [p6.2.2, bh3, hh0]; simp⟩, fun fs hl => c8.trans (X8.areturnOut hexec rfl hret rfl (hb hbytes d58) hl)⟩
end Cmp3
namespace CodL
def yN : MethodName := ⟨"java/lang/StringUTF16", "coderFromArrayLen", "([BI)B"⟩
abbrev yB : ByteArray := jdk_52_method_15_code
theorem d0 : decode yB 0 = .ok (.iload_n 1, 1) := by decide +kernel
theorem d1 : decode yB 1 = .ok (.aload_n 0, 1) := by decide +kernel
theorem d2 : decode yB 2 = .ok (.arraylength, 1) := by decide +kernel
theorem d3 : decode yB 3 = .ok (.isub, 1) := by decide +kernel
theorem d4 : decode yB 4 = .ok (.bipush 31, 2) := by decide +kernel
theorem d6 : decode yB 6 = .ok (.iushr, 1) := by decide +kernel
theorem d7 : decode yB 7 = .ok (.i2b, 1) := by decide +kernel
theorem d8 : decode yB 8 = .ok (.ireturn, 1) := by decide +kernel
def site : List Cond := []
def tab : Cond := tabOf yN yB 2 (some .byte) site
def P (d : Addr) (B : Cell) (args : Array Value) (s : State) : Prop := args = #[.ref d, .int (Int32.ofNat B.slots.size)] ∧ Arr .byte d B s
def E (r : Option Value) (s u : State) : Prop := XT.PureE (some (.int 0)) r s u
/-- an array as long as the number of chars: LATIN1 -/
theorem law (l : Launch) (d : Addr) (B : Cell) : Law l yN 2 2 0 0 yB 2 (some .byte) site (P d B) E [] 0 0 := by
  refine Law.of_walk (plainFor_of_name (by decide +kernel)) (by decide +kernel) (by decide +kernel) (by decide) (fun _ _ h => by rw [h.1]; rfl) (fun _ U U' hal hh h => ⟨h.1, h.2.mv hal hh⟩) (fun r U U' V V' h1 hal h2 h => XT.PureE.mv r U U' V V' h1 hal h2 h) ?_
  intro p e s m args below meth c s₁ X0 hexec hbytes hml hret hlk hnm hown hh0 W hP
  obtain ⟨rfl, hB⟩ := hP
  have hB0 := hB.mv X0.warmed.alike hh0
  have c1 : Steps p.tables e below (s₁.setTop (entryFrame m #[.ref d, .int (Int32.ofNat B.slots.size)] 2)) (s₁.setTop (mkF m 0 #[.val (.ref d), .val (.int (Int32.ofNat B.slots.size))] [])) := entry rfl
  have c2 : Steps p.tables e below (s₁.setTop (entryFrame m #[.ref d, .int (Int32.ofNat B.slots.size)] 2)) (s₁.setTop (mkF m 2 #[.val (.ref d), .val (.int (Int32.ofNat B.slots.size))] [.ref d, .int (Int32.ofNat B.slots.size)])) := c1.trans (by
    refine XS.iloadN X0.here hexec rfl (hb hbytes d0) rfl ?_
    refine XS.aloadN X0.here hexec rfl (hb hbytes d1) rfl rfl ?_
    exact Steps.refl _)
  have c3 : Steps p.tables e below (s₁.setTop (entryFrame m #[.ref d, .int (Int32.ofNat B.slots.size)] 2)) (s₁.setTop (mkF m 8 #[.val (.ref d), .val (.int (Int32.ofNat B.slots.size))] [.int (lo8 (ushr (Int32.ofNat B.slots.size - Int32.ofNat B.slots.size) 31))])) := c2.trans (by
    refine X0.alen hexec hB0 rfl rfl (hb hbytes d2) ?_
    refine XS.isub X0.here hexec rfl (hb hbytes d3) rfl ?_
    refine bipushV X0.here hexec rfl 31 (hb hbytes d4) (by decide) ?_
    refine iushr X0.here hexec rfl (hb hbytes d6) rfl ?_
    refine i2b X0.here hexec rfl (hb hbytes d7) rfl ?_
    exact Steps.refl _)
  have e0 : lo8 (ushr (Int32.ofNat B.slots.size - Int32.ofNat B.slots.size) 31) = 0 := by rw [Int32.sub_self]; decide
  rw [e0] at c3
  exact ⟨s₁, some (.int 0), _, _, _, X0, rfl, rfl, rfl, (fun h => by cases h), ⟨rfl, hh0⟩, fun fs hl => c3.trans (X0.ireturnOut hexec hret rfl (Or.inr (Or.inr (Or.inl rfl))) (hb hbytes d8) hl)⟩
end CodL
/-- the String at a is Latin-1 over a new byte[] (the heap's one new cell): the low bytes of the len chars of A from o on; every cell but a is kept -/
def Got (a : Addr) (D : Cell) (fV fC : Field) (A : Cell) (o len : Nat) (r : Option Value) (s u : State) : Prop := r = none ∧ ∃ D' V : Cell, Blank "java/lang/String" a D' u ∧ Same D D' [fV.slot, fC.slot] ∧ D'.slots[fV.slot]? = some (.ref s.heap.size) ∧ D'.slots[fC.slot]? = some (.int 0) ∧ Arr .byte s.heap.size V u ∧ V.vm = .none ∧ u.vm.findClass "[B" = some V.cls ∧ V.slots.size = len ∧ (∀ j, j < len → V.slots[j]? = some (.int (lo8 (cv A (o + j))))) ∧ (∀ (y : Addr) (c : Cell), y ≠ a → s.heap[y]? = some c → u.heap[y]? = some c) ∧ u.heap.size = s.heap.size + 1
theorem Got.mv {a : Addr} {D A : Cell} {fV fC : Field} {o len : Nat} : ∀ r (U U' V V' : State), U'.heap = U.heap → V.vm.Alike V'.vm → V'.heap = V.heap → Got a D fV fC A o len r U V → Got a D fV fC A o len r U' V' :=
  fun r U U' V V' h1 hal h2 ⟨e0, D', X, a1, a2, a3, a4, a5, a6, a7, a8, a9, a10, a11⟩ => ⟨e0, D', X, a1.mv hal h2, a2, by rw [h1]; exact a3, a4, by rw [h1]; exact a5.mv hal h2, a6, by rw [hal.findClass]; exact a7, a8, a9, by rw [h1, h2]; exact a10, by rw [h1, h2]; exact a11⟩
namespace New4
def yN : MethodName := ⟨"java/lang/String", "<init>", "([CIILjava/lang/Void;)V"⟩
abbrev yB : ByteArray := jdk_42_method_149_code
theorem d0 : decode yB 0 = .ok (.aload_n 0, 1) := by decide +kernel
theorem d1 : decode yB 1 = .ok (.invokespecial 1, 3) := by decide +kernel
theorem d4 : decode yB 4 = .ok (.iload_n 3, 1) := by decide +kernel
theorem d5 : decode yB 5 = .ok (.ifCond (.ne) 22, 3) := by decide +kernel
theorem d27 : decode yB 27 = .ok (.getstatic 38, 3) := by decide +kernel
theorem d30 : decode yB 30 = .ok (.ifCond (.eq) 28, 3) := by decide +kernel
theorem d33 : decode yB 33 = .ok (.aload_n 1, 1) := by decide +kernel
theorem d34 : decode yB 34 = .ok (.iload_n 2, 1) := by decide +kernel
theorem d35 : decode yB 35 = .ok (.iload_n 3, 1) := by decide +kernel
theorem d36 : decode yB 36 = .ok (.invokestatic 177, 3) := by decide +kernel
theorem d39 : decode yB 39 = .ok (.astore 5, 2) := by decide +kernel
theorem d41 : decode yB 41 = .ok (.aload_n 0, 1) := by decide +kernel
theorem d42 : decode yB 42 = .ok (.aload 5, 2) := by decide +kernel
theorem d44 : decode yB 44 = .ok (.iload_n 3, 1) := by decide +kernel
theorem d45 : decode yB 45 = .ok (.invokestatic 47, 3) := by decide +kernel
theorem d48 : decode yB 48 = .ok (.putfield 15, 3) := by decide +kernel
theorem d51 : decode yB 51 = .ok (.aload_n 0, 1) := by decide +kernel
theorem d52 : decode yB 52 = .ok (.aload 5, 2) := by decide +kernel
theorem d54 : decode yB 54 = .ok (.putfield 9, 3) := by decide +kernel
theorem d57 : decode yB 57 = .ok (.return_, 1) := by decide +kernel
def site : List Cond := [.fieldLink "java/lang/String" 38 "java/lang/String" "COMPACT_STRINGS" "Z", Cmp3.tab, CodL.tab, .laysFinal "java/lang/String" "java/lang/String" "value" "[B", .fieldLink "java/lang/String" 9 "java/lang/String" "value" "[B", .laysFinal "java/lang/String" "java/lang/String" "coder" "B", .fieldLink "java/lang/String" 15 "java/lang/String" "coder" "B"] ++ objW "java/lang/String" 1 ++ staticW "java/lang/String" 177 Cmp3.yN ++ staticW "java/lang/String" 47 CodL.yN
def tab : Cond := tabOf yN yB 6 none site
def P (a : Addr) (D : Cell) (fV fC : Field) (b : Addr) (A : Cell) (z : Int32) (o len : Nat) (args : Array Value) (s : State) : Prop := args = #[.ref a, .ref b, .int (Int32.ofNat o), .int (Int32.ofNat len), .null] ∧ Blank "java/lang/String" a D s ∧ Found "java/lang/String" "value" "[B" fV s ∧ Found "java/lang/String" "coder" "B" fC s ∧ Ch b A s ∧ StaticIs s "java/lang/String" "COMPACT_STRINGS" "Z" (.int z) ∧ ¬ z = 0 ∧ 0 < len ∧ o + len ≤ A.slots.size ∧ len ≤ 536870912 ∧ ∀ i, i < len → ¬ 255 < cv A (o + i)
def E (a : Addr) (D : Cell) (fV fC : Field) (A : Cell) (o len : Nat) (r : Option Value) (s u : State) : Prop := Got a D fV fC A o len r s u
/-- len > 0, no char of the range above 255: a Latin-1 String of their low bytes -/
theorem law (l : Launch) (a : Addr) (D : Cell) (fV fC : Field) (b : Addr) (A : Cell) (z : Int32) (o len : Nat) : Law l yN 5 4 2 35 yB 6 none site (P a D fV fC b A z o len) (E a D fV fC A o len) [⟨a, fC.slot⟩, ⟨a, fV.slot⟩] 1 len := by
  refine Law.of_walk (plainFor_of_name (by decide +kernel)) (by decide +kernel) (by decide +kernel) (by decide) (fun _ _ h => by rw [h.1]; rfl) (fun _ U U' hal hh h => ⟨h.1, h.2.1.mv hal hh, h.2.2.1.al hal, h.2.2.2.1.al hal, h.2.2.2.2.1.mv hal hh, h.2.2.2.2.2.1.there hal hh, h.2.2.2.2.2.2⟩) (fun r U U' V V' h1 hal h2 h => Got.mv r U U' V V' h1 hal h2 h) ?_
  intro p e s m args below meth c s₁ X0 hexec hbytes hml hret hlk hnm hown hh0 W hP
  obtain ⟨rfl, hB, f1, f2, hA, s1, hz, l0, l1, l2, hp⟩ := hP
  have a31 := hA.1.2.2.2
  have c1 : Steps p.tables e below (s₁.setTop (entryFrame m #[.ref a, .ref b, .int (Int32.ofNat o), .int (Int32.ofNat len), .null] 6)) (s₁.setTop (mkF m 0 #[.val (.ref a), .val (.ref b), .val (.int (Int32.ofNat o)), .val (.int (Int32.ofNat len)), .val .null, .unset] [])) := entry rfl
  have c2 : Steps p.tables e below (s₁.setTop (entryFrame m #[.ref a, .ref b, .int (Int32.ofNat o), .int (Int32.ofNat len), .null] 6)) (s₁.setTop (mkF m 1 #[.val (.ref a), .val (.ref b), .val (.int (Int32.ofNat o)), .val (.int (Int32.ofNat len)), .val .null, .unset] [.ref a])) := c1.trans (by
    refine XS.aloadN X0.here hexec rfl (hb hbytes d0) rfl rfl ?_
    exact Steps.refl _)
  obtain ⟨T3, X3, q3, st3⟩ := X0.oinit hexec hown (wks W (objW "java/lang/String" 1)) (g := (mkF m 1 #[.val (.ref a), .val (.ref b), .val (.int (Int32.ofNat o)), .val (.int (Int32.ofNat len)), .val .null, .unset] [.ref a])) rfl (by rw [hml]; rfl) (rest := []) rfl (hb hbytes d1) (W := 0) (by show 2 * 0 + 0 ≤ _; decide) (Nat.le_of_ble_eq_true rfl) (Nat.le_of_ble_eq_true rfl)
  have hh3 := q3.trans hh0
  have c4 : Steps p.tables e below (s₁.setTop (entryFrame m #[.ref a, .ref b, .int (Int32.ofNat o), .int (Int32.ofNat len), .null] 6)) (T3.setTop (mkF m 27 #[.val (.ref a), .val (.ref b), .val (.int (Int32.ofNat o)), .val (.int (Int32.ofNat len)), .val .null, .unset] [])) := (c2.trans (st3 _ (Steps.refl _))).trans (by
    refine XS.iloadN X3.here hexec rfl (hb hbytes d4) rfl ?_
    refine XS.ifYes X3.here hexec rfl (pc0 := 5) rfl (hb hbytes d5) rfl (i0_ne_t (nz32 (by omega) l0)) (by decide) rfl ?_
    exact Steps.refl _)
  obtain ⟨T5, X5, q5, st5⟩ := X3.sget hexec hown (wk W (.fieldLink "java/lang/String" 38 "java/lang/String" "COMPACT_STRINGS" "Z")) s1 (fun _ _ h => by rw [hh3]; exact h) (g := (mkF m 27 #[.val (.ref a), .val (.ref b), .val (.int (Int32.ofNat o)), .val (.int (Int32.ofNat len)), .val .null, .unset] [])) rfl (hb hbytes d27)
  have hh5 := q5.trans hh3
  have c6 : Steps p.tables e below (s₁.setTop (entryFrame m #[.ref a, .ref b, .int (Int32.ofNat o), .int (Int32.ofNat len), .null] 6)) (T5.setTop (mkF m 30 #[.val (.ref a), .val (.ref b), .val (.int (Int32.ofNat o)), .val (.int (Int32.ofNat len)), .val .null, .unset] [.int z])) := c4.trans (st5 _ (Steps.refl _))
  have c7 : Steps p.tables e below (s₁.setTop (entryFrame m #[.ref a, .ref b, .int (Int32.ofNat o), .int (Int32.ofNat len), .null] 6)) (T5.setTop (mkF m 36 #[.val (.ref a), .val (.ref b), .val (.int (Int32.ofNat o)), .val (.int (Int32.ofNat len)), .val .null, .unset] [.int (Int32.ofNat len), .int (Int32.ofNat o), .ref b])) := c6.trans (by
    refine XS.ifNo X5.here hexec rfl (hb hbytes d30) rfl (i0_eq_f hz) ?_
    refine XS.aloadN X5.here hexec rfl (hb hbytes d33) rfl rfl ?_
    refine XS.iloadN X5.here hexec rfl (hb hbytes d34) rfl ?_
    refine XS.iloadN X5.here hexec rfl (hb hbytes d35) rfl ?_
    exact Steps.refl _)
  obtain ⟨v8, T8, X8, E8, g8⟩ := X5.callS hexec (Cmp3.law l b A o len) hown (wks W (staticW "java/lang/String" 177 Cmp3.yN)) (wk W Cmp3.tab) (W := 0) (Nat.le_of_ble_eq_true rfl) (Nat.le_of_ble_eq_true rfl) (Nat.le_refl _) (by show 0 + len ≤ len; omega) (g := (mkF m 36 #[.val (.ref a), .val (.ref b), .val (.int (Int32.ofNat o)), .val (.int (Int32.ofNat len)), .val .null, .unset] [.int (Int32.ofNat len), .int (Int32.ofNat o), .ref b])) rfl (by rw [hml]; rfl) c7 (argsL := [.ref b, .int (Int32.ofNat o), .int (Int32.ofNat len)]) (rest := []) rfl rfl (by show 2 * 0 + 0 ≤ _; decide) (hb hbytes d36) (⟨rfl, hA.mv X5.warmed.alike hh5, l1, l2, hp⟩)
  obtain ⟨e8, z8⟩ := E8
  obtain ⟨rfl, N, n1, n2, n3, n4, n5, n6⟩ := NewArr.mv _ T5 s _ _ hh5.symm (Vm.Alike.refl _) rfl e8
  rw [hh5] at z8
  have hB1 := hB.keep X8.warmed.alike (n6 _ _ hB.1)
  have hne : s.heap.size ≠ a := (Nat.ne_of_lt (Array.getElem?_eq_some_iff.mp hB.1).1).symm
  have c9 : Steps p.tables e below (s₁.setTop (entryFrame m #[.ref a, .ref b, .int (Int32.ofNat o), .int (Int32.ofNat len), .null] 6)) (T8.setTop (mkF m 39 #[.val (.ref a), .val (.ref b), .val (.int (Int32.ofNat o)), .val (.int (Int32.ofNat len)), .val .null, .unset] [.ref s.heap.size])) := g8
  have c10 : Steps p.tables e below (s₁.setTop (entryFrame m #[.ref a, .ref b, .int (Int32.ofNat o), .int (Int32.ofNat len), .null] 6)) (T8.setTop (mkF m 45 #[.val (.ref a), .val (.ref b), .val (.int (Int32.ofNat o)), .val (.int (Int32.ofNat len)), .val .null, .val (.ref s.heap.size)] [.int (Int32.ofNat N.slots.size), .ref s.heap.size, .ref a])) := by
    have hc : Steps p.tables e below (s₁.setTop (entryFrame m #[.ref a, .ref b, .int (Int32.ofNat o), .int (Int32.ofNat len), .null] 6)) (T8.setTop (mkF m 45 #[.val (.ref a), .val (.ref b), .val (.int (Int32.ofNat o)), .val (.int (Int32.ofNat len)), .val .null, .val (.ref s.heap.size)] [.int (Int32.ofNat len), .ref s.heap.size, .ref a])) := c9.trans (by
      refine XS.astore X8.here hexec rfl (hb hbytes d39) rfl rfl rfl ?_
      refine XS.aloadN X8.here hexec rfl (hb hbytes d41) rfl rfl ?_
      refine XS.aload X8.here hexec rfl (hb hbytes d42) rfl rfl ?_
      refine XS.iloadN X8.here hexec rfl (hb hbytes d44) rfl ?_
      exact Steps.refl _)
    rw [n4]; exact hc
  obtain ⟨v11, T11, X11, E11, g11⟩ := X8.callS hexec (CodL.law l s.heap.size N) hown (wks W (staticW "java/lang/String" 47 CodL.yN)) (wk W CodL.tab) (W := 1) (Nat.le_of_ble_eq_true rfl) (Nat.le_of_ble_eq_true rfl) (Nat.le_refl _) (by show 0 + len + 0 ≤ len; omega) (g := (mkF m 45 #[.val (.ref a), .val (.ref b), .val (.int (Int32.ofNat o)), .val (.int (Int32.ofNat len)), .val .null, .val (.ref s.heap.size)] [.int (Int32.ofNat N.slots.size), .ref s.heap.size, .ref a])) rfl (by rw [hml]; rfl) c10 (argsL := [.ref s.heap.size, .int (Int32.ofNat N.slots.size)]) (rest := [.ref a]) rfl rfl (by show 2 * 0 + (1 + 0) ≤ _; decide) (hb hbytes d45) (⟨rfl, n1⟩)
  obtain ⟨rfl, q11⟩ := E11
  have hB11 := hB1.mv (X8.warmed.alike.symm.trans X11.warmed.alike) q11
  have c12 : Steps p.tables e below (s₁.setTop (entryFrame m #[.ref a, .ref b, .int (Int32.ofNat o), .int (Int32.ofNat len), .null] 6)) (T11.setTop (mkF m 48 #[.val (.ref a), .val (.ref b), .val (.int (Int32.ofNat o)), .val (.int (Int32.ofNat len)), .val .null, .val (.ref s.heap.size)] [.int 0, .ref a])) := g11
  obtain ⟨T13, X13, p13, bl13, sl13, st13⟩ := X11.finit hexec hown (wk W (.fieldLink "java/lang/String" 15 "java/lang/String" "coder" "B")) (Or.inr ⟨_, (wk W (.laysFinal "java/lang/String" "java/lang/String" "coder" "B"))⟩) (Or.inl ⟨rfl, hnm⟩) f2 (Or.inl rfl) hB11 (t := .byte) (by decide +kernel) rfl (g := (mkF m 48 #[.val (.ref a), .val (.ref b), .val (.int (Int32.ofNat o)), .val (.int (Int32.ofNat len)), .val .null, .val (.ref s.heap.size)] [.int 0, .ref a])) rfl (rest := []) rfl (hb hbytes d48)
  have c14 : Steps p.tables e below (s₁.setTop (entryFrame m #[.ref a, .ref b, .int (Int32.ofNat o), .int (Int32.ofNat len), .null] 6)) (T13.setTop (mkF m 54 #[.val (.ref a), .val (.ref b), .val (.int (Int32.ofNat o)), .val (.int (Int32.ofNat len)), .val .null, .val (.ref s.heap.size)] [.ref s.heap.size, .ref a])) := (c12.trans (st13 _ (Steps.refl _))).trans (by
    refine XS.aloadN X13.here hexec rfl (hb hbytes d51) rfl rfl ?_
    refine XS.aload X13.here hexec rfl (hb hbytes d52) rfl rfl ?_
    exact Steps.refl _)
  obtain ⟨T15, X15, p15, bl15, sl15, st15⟩ := X13.finit hexec hown (wk W (.fieldLink "java/lang/String" 9 "java/lang/String" "value" "[B")) (Or.inr ⟨_, (wk W (.laysFinal "java/lang/String" "java/lang/String" "value" "[B"))⟩) (Or.inl ⟨rfl, hnm⟩) f1 (Or.inl rfl) bl13 (t := (.array .byte)) (by decide +kernel) rfl (g := (mkF m 54 #[.val (.ref a), .val (.ref b), .val (.int (Int32.ofNat o)), .val (.int (Int32.ofNat len)), .val .null, .val (.ref s.heap.size)] [.ref s.heap.size, .ref a])) rfl (rest := []) rfl (hb hbytes d54)
  have c16 : Steps p.tables e below (s₁.setTop (entryFrame m #[.ref a, .ref b, .int (Int32.ofNat o), .int (Int32.ofNat len), .null] 6)) (T15.setTop (mkF m 57 #[.val (.ref a), .val (.ref b), .val (.int (Int32.ofNat o)), .val (.int (Int32.ofNat len)), .val .null, .val (.ref s.heap.size)] [])) := c14.trans (st15 _ (Steps.refl _))
  have ap := apart (Or.inr ⟨_, (wk W (.laysFinal "java/lang/String" "java/lang/String" "value" "[B"))⟩) (Or.inr ⟨_, (wk W (.laysFinal "java/lang/String" "java/lang/String" "coder" "B"))⟩) f1 f2 (t₁ := .array .byte) (t₂ := .byte) (by decide +kernel) (by decide +kernel) (by decide)
  have al := X8.warmed.alike.symm.trans X15.warmed.alike
  have n7 : T11.heap[s.heap.size]? = some N := by rw [q11]; exact n1.1
  exact ⟨T15, none, _, _, _, X15, by simp, rfl, by omega, (fun _ => rfl), ⟨rfl, _, N, bl15, ((Same.refl D _).set _ (by simp)).set _ (by simp), sl15, (Cell.slots_setSlot_ne _ ap).trans sl13, n1.keep al (p15.other hne (p13.other hne n7)), n2, by rw [al.findClass]; exact n3, n4, n5, fun y c h1 h2 => p15.other h1 (p13.other h1 (by rw [q11]; exact n6 y c h2)), by rw [p15.2.2, p13.2.2, q11]; exact z8⟩, fun fs hl => c16.trans (X15.returnOut hexec hret (hb hbytes d57) hl)⟩
end New4
namespace New1
def yN : MethodName := ⟨"java/lang/String", "<init>", "([C)V"⟩
abbrev yB : ByteArray := jdk_42_method_3_code
theorem d0 : decode yB 0 = .ok (.aload_n 0, 1) := by decide +kernel
theorem d1 : decode yB 1 = .ok (.aload_n 1, 1) := by decide +kernel
theorem d2 : decode yB 2 = .ok (.iconst 0, 1) := by decide +kernel
theorem d3 : decode yB 3 = .ok (.aload_n 1, 1) := by decide +kernel
theorem d4 : decode yB 4 = .ok (.arraylength, 1) := by decide +kernel
theorem d5 : decode yB 5 = .ok (.aconst_null, 1) := by decide +kernel
theorem d6 : decode yB 6 = .ok (.invokespecial 27, 3) := by decide +kernel
theorem d9 : decode yB 9 = .ok (.return_, 1) := by decide +kernel
def site : List Cond := [New4.tab] ++ initW "java/lang/String" 27 New4.yN
def tab : Cond := tabOf yN yB 2 none site
def P (a : Addr) (D : Cell) (fV fC : Field) (b : Addr) (A : Cell) (z : Int32) (args : Array Value) (s : State) : Prop := args = #[.ref a, .ref b] ∧ Blank "java/lang/String" a D s ∧ Found "java/lang/String" "value" "[B" fV s ∧ Found "java/lang/String" "coder" "B" fC s ∧ Ch b A s ∧ StaticIs s "java/lang/String" "COMPACT_STRINGS" "Z" (.int z) ∧ ¬ z = 0 ∧ 0 < A.slots.size ∧ A.slots.size ≤ 536870912 ∧ ∀ i, i < A.slots.size → ¬ 255 < cv A i
def E (a : Addr) (D : Cell) (fV fC : Field) (A : Cell) (r : Option Value) (s u : State) : Prop := Got a D fV fC A 0 A.slots.size r s u
/-- new String(chars), not empty, no char above 255: a Latin-1 String of their low bytes -/
theorem law (l : Launch) (a : Addr) (D : Cell) (fV fC : Field) (b : Addr) (A : Cell) (z : Int32) : Law l yN 2 1 3 52 yB 2 none site (P a D fV fC b A z) (E a D fV fC A) [⟨a, fC.slot⟩, ⟨a, fV.slot⟩] 1 A.slots.size := by
  refine Law.of_walk (plainFor_of_name (by decide +kernel)) (by decide +kernel) (by decide +kernel) (by decide) (fun _ _ h => by rw [h.1]; rfl) (fun _ U U' hal hh h => ⟨h.1, h.2.1.mv hal hh, h.2.2.1.al hal, h.2.2.2.1.al hal, h.2.2.2.2.1.mv hal hh, h.2.2.2.2.2.1.there hal hh, h.2.2.2.2.2.2⟩) (fun r U U' V V' h1 hal h2 h => Got.mv r U U' V V' h1 hal h2 h) ?_
  intro p e s m args below meth c s₁ X0 hexec hbytes hml hret hlk hnm hown hh0 W hP
  obtain ⟨rfl, hB, f1, f2, hA, s1, hz, l0, l2, hp⟩ := hP
  have c1 : Steps p.tables e below (s₁.setTop (entryFrame m #[.ref a, .ref b] 2)) (s₁.setTop (mkF m 0 #[.val (.ref a), .val (.ref b)] [])) := entry rfl
  have c2 : Steps p.tables e below (s₁.setTop (entryFrame m #[.ref a, .ref b] 2)) (s₁.setTop (mkF m 6 #[.val (.ref a), .val (.ref b)] [.null, .int (Int32.ofNat A.slots.size), .int 0, .ref b, .ref a])) := c1.trans (by
    refine XS.aloadN X0.here hexec rfl (hb hbytes d0) rfl rfl ?_
    refine XS.aloadN X0.here hexec rfl (hb hbytes d1) rfl rfl ?_
    refine iconstV X0.here hexec rfl 0 (hb hbytes d2) (by decide) ?_
    refine XS.aloadN X0.here hexec rfl (hb hbytes d3) rfl rfl ?_
    refine X0.alen hexec (hA.1.mv X0.warmed.alike hh0) rfl rfl (hb hbytes d4) ?_
    refine XS.aconstNull X0.here hexec rfl (hb hbytes d5) ?_
    exact Steps.refl _)
  obtain ⟨v3, T3, X3, E3, g3⟩ := X0.callN hexec (New4.law l a D fV fC b A z 0 A.slots.size) rfl hown (wks W (initW "java/lang/String" 27 New4.yN)) (W New4.tab (by simp only [site, List.mem_cons, List.mem_append, true_or, or_true])) (W := 0) (Nat.le_of_ble_eq_true rfl) (Nat.le_of_ble_eq_true rfl) (Nat.le_refl _) (by show 0 + A.slots.size ≤ A.slots.size; omega) (g := (mkF m 6 #[.val (.ref a), .val (.ref b)] [.null, .int (Int32.ofNat A.slots.size), .int (Int32.ofNat 0), .ref b, .ref a])) rfl (by rw [hml]; rfl) c2 (argsL := [.ref b, .int (Int32.ofNat 0), .int (Int32.ofNat A.slots.size), .null]) (rest := []) rfl rfl (by show 2 * 0 + 0 ≤ _; decide) (hb hbytes d6) (⟨rfl, hB.mv X0.warmed.alike hh0, f1.al X0.warmed.alike, f2.al X0.warmed.alike, hA.mv X0.warmed.alike hh0, s1.there X0.warmed.alike hh0, hz, l0, by omega, l2, fun i hi => by rw [Nat.zero_add]; exact hp i hi⟩)
  have e0 := Got.mv _ s₁ s _ _ hh0.symm (Vm.Alike.refl _) rfl E3
  obtain rfl := e0.1
  have c4 : Steps p.tables e below (s₁.setTop (entryFrame m #[.ref a, .ref b] 2)) (T3.setTop (mkF m 9 #[.val (.ref a), .val (.ref b)] [])) := g3
  exact ⟨T3, none, _, _, _, X3, by simp, rfl, by omega, (fun _ => rfl), e0, fun fs hl => c4.trans (X3.returnOut hexec hret (hb hbytes d9) hl)⟩
theorem pays {l : Launch} {R : Room} {p : Program} {e : Env} {below : List Frame} {s : State} {sargs : Array Value} {len W : Nat} (a : Addr) (D : Cell) (fV fC : Field) (b : Addr) (A : Cell) (z : Int32) (htab : tab.before sargs s = true) (hfr : 4 ≤ R.frames) (hlo : W + 65 ≤ R.locals) :
    Back l R p e below s sargs yN len W (fun A₁ a₁ => A₁.cells + 1 ≤ R.cells ∧ A₁.slots + A.slots.size ≤ R.slots ∧ P a D fV fC b A z a₁ A₁.U) (fun A₁ _ v₁ B₁ => E a D fV fC A v₁ A₁.U B₁.U ∧ B₁.locs = A₁.locs ++ [⟨a, fC.slot⟩, ⟨a, fV.slot⟩] ∧ B₁.cells = A₁.cells + 1 ∧ B₁.slots = A₁.slots + A.slots.size) :=
  (law l a D fV fC b A z).pays htab hfr (by omega)
end New1
/-- the byte, read back as charAt reads it, is the char -/
theorem lo8_mask {x : Int32} (h0 : ¬ x < 0) (h1 : ¬ 255 < x) : lo8 x &&& 255 = x := by
  have t : ∀ k : Fin 256, lo8 (Int32.ofNat k.val) &&& 255 = Int32.ofNat k.val := by decide +kernel
  rw [Int32.lt_iff_toInt_lt] at h0 h1
  have e0 : (0 : Int32).toInt = 0 := rfl
  have e1 : (255 : Int32).toInt = 255 := rfl
  obtain ⟨k, hk⟩ : ∃ k : Nat, x.toInt = k := ⟨x.toInt.toNat, by omega⟩
  have hx : x = Int32.ofNat k := Int32.toInt_inj.mp (by rw [hk, Int32.toInt_ofNat_small (by omega)])
  rw [hx]
  exact t ⟨k, by omega⟩
end StrChars
namespace StrChars.Road
open Jvm Sem ClassFile Op Lib Jvm.Stand Jvm.Free Jvm.Free.XT
open Jvm.Lib.Cold (StaticIs)
abbrev ST : String := "java/lang/String"
/-- every table word that New1's law asks, flat -/
abbrev words : List Jvm.Cond := [.code New1.yN New1.yB 2 none, .initialized ST, .methodLink ST 27 New4.yN, .instanceMethod New4.yN,
  .code New4.yN New4.yB 6 none, .fieldLink ST 38 ST "COMPACT_STRINGS" "Z", .laysFinal ST ST "value" "[B", .fieldLink ST 9 ST "value" "[B", .laysFinal ST ST "coder" "B", .fieldLink ST 15 ST "coder" "B",
  .methodLink ST 1 Lib.objectInit, .instanceMethod Lib.objectInit, .code Lib.objectInit ⟨#[0xb1]⟩ 1 none, .methodLink ST 177 Cmp3.yN, .static Cmp3.yN, .methodLink ST 47 CodL.yN, .static CodL.yN,
  .code Cmp3.yN Cmp3.yB 6 (some (.array .byte)), .initialized U16, .arrayClass .byte, .methodLink U16 115 Cmp5.yN, .static Cmp5.yN, .code Cmp5.yN Cmp5.yB 7 (some .int), .code CodL.yN CodL.yB 2 (some .byte)]
theorem tab_of {a : Array Value} {s : State} (h : ∀ w ∈ words, w.before a s = true) : New1.tab.before a s = true := by
  have h5 : Cmp5.tab.before a s = true := unparts (wk h (.code Cmp5.yN Cmp5.yB 7 (some .int))) (wks h (.initialized Cmp5.yN.cls :: Cmp5.site))
  have hc : CodL.tab.before a s = true := unparts (wk h (.code CodL.yN CodL.yB 2 (some .byte))) (wks h (.initialized CodL.yN.cls :: CodL.site))
  have q5 : ∀ w ∈ Cmp5.tab :: words, w.before a s = true := fun w hw => (List.mem_cons.mp hw).elim (fun e => e ▸ h5) (h w)
  have h3 : Cmp3.tab.before a s = true := unparts (wk q5 (.code Cmp3.yN Cmp3.yB 6 (some (.array .byte)))) (wks q5 (.initialized Cmp3.yN.cls :: Cmp3.site))
  have q3 : ∀ w ∈ Cmp3.tab :: CodL.tab :: words, w.before a s = true := fun w hw => (List.mem_cons.mp hw).elim (fun e => e ▸ h3) fun hw => (List.mem_cons.mp hw).elim (fun e => e ▸ hc) (h w)
  have h4 : New4.tab.before a s = true := unparts (wk q3 (.code New4.yN New4.yB 6 none)) (wks q3 (.initialized New4.yN.cls :: New4.site))
  have q4 : ∀ w ∈ New4.tab :: words, w.before a s = true := fun w hw => (List.mem_cons.mp hw).elim (fun e => e ▸ h4) (h w)
  exact unparts (wk q4 (.code New1.yN New1.yB 2 none)) (wks q4 (.initialized New1.yN.cls :: New1.site))
/-- the words ride from the start Z to the walk's own state -/
theorem moved {Z s : State} {a0 args : Array Value} (hZ : Z.Warmed39 s.vm) (hw : ∀ d ∈ words, d.before a0 Z = true) : ∀ d ∈ words, d.before args s = true := fun d hd => by
  have q := hw d hd
  have t : ∀ d ∈ words, d = .arrayClass .byte ∨ (d.onTables && d.keepsFace) = true := by decide +kernel
  rcases t d hd with rfl | t
  · exact RoadKit.mvA hZ q
  · exact RoadKit.mv hZ q t
/-- WHAT COMES BACK, over the tables of the start Z: h the heap at the call, h' behind it -/
def Q (Z : State) (x : Addr) (A : Cell) (h : Heap) (v : Option Value) (h' : Heap) (L : List Loc) : Prop := v = none ∧ (∀ y ∈ L, y.base = x) ∧ RoadKit.Keep h h' [x] ∧ h'.size = h.size + 1 ∧ RoadKit.Exa Z h' x ST ∧ RoadKit.Fld Z h' x ST "value" "[B" (.ref h.size) ∧ RoadKit.Fld Z h' x ST "coder" "B" (.int 0) ∧
  (∃ V : Cell, RoadKit.Arr Z h' h.size V .byte ∧ V.vm = .none ∧ Z.vm.findClass "[B" = some V.cls ∧ V.slots.size = A.slots.size ∧ ∀ j, j < A.slots.size → V.slots[j]? = some (.int (lo8 (cv A j)))) ∧
  ∀ (O n d : String) (w : Value), RoadKit.Fld Z h x O n d w → RoadKit.slotOf Z O n d ≠ RoadKit.slotOf Z ST "value" "[B" → RoadKit.slotOf Z O n d ≠ RoadKit.slotOf Z ST "coder" "B" → RoadKit.Fld Z h' x O n d w
/-- **new String(chars) AT A CALL, IN THE ROAD'S FORM**: for specialBack behind newO: x the fresh String, b the char[] with the cell A -/
theorem back {p : Program} {l : Launch} {e : Env} {R : Room} {s : State} {args : Array Value} {below : List Frame} {len W : Nat} {Z : State} {a0 : Array Value} {h : Heap} (hZ : Z.Warmed39 s.vm) (hw : ∀ d ∈ words, d.before a0 Z = true) {kI : Nat} (wi : (Jvm.Cond.instantiable ST kI).before a0 Z = true)
    {x b : Addr} {A : Cell} {z : Int32} {v0 c0 : Value} (E : RoadKit.Exa Z h x ST) (V : RoadKit.Fld Z h x ST "value" "[B" v0) (C : RoadKit.Fld Z h x ST "coder" "B" c0) (K : RoadKit.Arr Z h b A .char) (hty : Typed .char A) (S : RoadKit.Sta Z h ST "COMPACT_STRINGS" "Z" (.int z)) (hz : ¬ z = 0)
    (l0 : 0 < A.slots.size) (l2 : A.slots.size ≤ 536870912) (hp : ∀ i, i < A.slots.size → ¬ 255 < cv A i) (hfr : 4 ≤ R.frames) (hlo : W + 65 ≤ R.locals) :
    Back l R p e below s args New1.yN len W (fun P a => a = #[.ref x, .ref b] ∧ P.U.heap = h ∧ P.cells + 1 ≤ R.cells ∧ P.slots + A.slots.size ≤ R.slots)
      (fun P _ v B => ∃ L, Q Z x A h v B.U.heap L ∧ B.locs = P.locs ++ L ∧ B.cells = P.cells + 1 ∧ B.slots = P.slots + A.slots.size) := by
  intro m meth c P g ig mk a X hg hsize hdg hW hn hp'
  obtain ⟨rfl, rfl, r1, r2⟩ := hp'
  have al : Z.vm.Alike P.U.vm := hZ.alike.trans X.warmed.alike
  obtain ⟨D, cfV, kV, iV, fV, hD, gV, stV, knV, obV, asV, slV⟩ := id V
  obtain ⟨D', cfC, kC, iC, fC, hD', gC, stC, -, -, asC, slC⟩ := id C
  cases hD.symm.trans hD'
  obtain ⟨D2, kD, e1, e2, e3, e4, e5⟩ := id E
  cases hD.symm.trans e1
  obtain ⟨c2, k2, i1, i2, i3, -⟩ := Cond.instantiable_spec wi
  cases e2.symm.trans i1
  cases e3.symm.trans i2
  obtain ⟨kU, u1, u2⟩ := al.2.2 _ _ e3
  have hB : Blank ST x D P.U := ⟨hD, ⟨knV, fun q hq => by rw [hq] at obV; cases obV⟩, by rw [al.findClass]; exact e2, kU, u1, by rw [u2]; exact i3, by rw [u2]; exact e5 i3⟩
  have F1 : Found ST "value" "[B" fV P.U := ⟨SBG.found_only al ⟨cfV, kV, iV, gV⟩, stV⟩
  have F2 : Found ST "coder" "B" fC P.U := ⟨SBG.found_only al ⟨cfC, kC, iC, gC⟩, stC⟩
  have hA : Ch b A P.U := ⟨⟨K.1, State.isArrayOf_alike al K.2.1, K.2.2, by omega⟩, hty⟩
  have hS : StaticIs P.U ST "COMPACT_STRINGS" "Z" (.int z) := by
    obtain ⟨cfS, iS, kS, fS, st, cS, t1, t2, t3, t4, t5, t6, t7⟩ := S
    exact StaticIs.there (s := { Z with heap := P.U.heap }) ⟨cfS, iS, kS, fS, st, cS, t1, t2, t3, t4, t5, (fun q => by rw [q] at t6; cases t6), t7⟩ al rfl
  obtain ⟨v, B, X', ⟨⟨hv, E', V', q1, q2, q3, q4, q5, q6, q7, q8, q9, q10, q11⟩, hl, hc, hs⟩, st⟩ := New1.pays x D fV fC b A z (tab_of (moved hZ hw)) hfr hlo m meth c P g ig mk _ X hg hsize hdg hW hn ⟨r1, r2, rfl, hB, F1, F2, hA, hS, hz, l0, l2, hp⟩
  have al' : Z.vm.Alike B.U.vm := hZ.alike.trans X'.warmed.alike
  have hsz : E'.slots.size = D.slots.size := by
    obtain ⟨-, -, -, kB, w1, w2, w3⟩ := q1
    obtain ⟨kB', y1, y2⟩ := al'.2.2 _ _ e3
    rw [q2.2.1] at w1
    cases w1.symm.trans y1
    rw [w3, e5 i3, y2]
  refine ⟨v, B, X', ⟨_, ⟨hv, ?_, ⟨by omega, fun y cy hy hn' => q10 y cy (by simpa using hn') hy, fun y cy hy => ?_⟩, q11, ⟨E', _, q1.1, by rw [q2.2.1]; exact e2, by rw [q2.2.1]; exact e3, by rw [q2.1]; exact obV, fun _ => by rw [hsz]; exact e5 i3⟩,
    ⟨E', cfV, kV, iV, fV, q1.1, gV, stV, by rw [q2.1]; exact knV, by rw [q2.1]; exact obV, by rw [q2.2.1]; exact asV, q3⟩, ⟨E', cfC, kC, iC, fC, q1.1, gC, stC, by rw [q2.1]; exact knV, by rw [q2.1]; exact obV, by rw [q2.2.1]; exact asC, q4⟩,
    ⟨V', ⟨q5.1, State.isArrayOf_alike al'.symm q5.2.1, q5.2.2.1⟩, q6, by rw [← al'.findClass]; exact q7, q8, fun j hj => by have := q9 j hj; rwa [Nat.zero_add] at this⟩, fun O n d w F n1 n2 => ?_⟩, hl, hc, hs⟩, st⟩
  · intro y hy
    simp only [List.mem_cons, List.not_mem_nil, or_false] at hy
    rcases hy with rfl | rfl <;> rfl
  · by_cases q : y = x
    · subst q
      cases hD.symm.trans hy
      exact ⟨E', q1.1, q2.2.1, q2.1, hsz⟩
    · exact ⟨cy, q10 y cy q hy, rfl, rfl, rfl⟩
  · obtain ⟨D3, cf, k, i, f, g1, g2, g3, g4, g5, g6, g7⟩ := F
    cases hD.symm.trans g1
    simp only [RoadKit.slotOf, g2, gV, gC, Option.map_some, Option.getD_some] at n1 n2
    exact ⟨E', cf, k, i, f, q1.1, g2, g3, by rw [q2.1]; exact g4, by rw [q2.1]; exact g5, by rw [q2.2.1]; exact g6, by rw [q2.2.2 f.slot (by simp [n1, n2])]; exact g7⟩
end StrChars.Road
namespace StrChars.Road
open Jvm Sem ClassFile Op Lib Jvm.Stand Jvm.Free Jvm.Free.XT
/-- WHAT COMES BACK, the byte[] as a list of values -/
def QA (Z : State) (x : Addr) (zn : Int32) (cs : List Int32) (h : Heap) (v : Option Value) (h' : Heap) (L : List Loc) : Prop := v = none ∧ (∀ y ∈ L, y.base = x) ∧ RoadKit.Keep h h' [x] ∧ h'.size = h.size + 1 ∧ RoadKit.Exa Z h' x ST ∧ RoadKit.Fld Z h' x ST "value" "[B" (.ref h.size) ∧ RoadKit.Fld Z h' x ST "coder" "B" (.int 0) ∧
  (∃ kb, Z.vm.findClass "[B" = some kb ∧ RoadKit.Arv Z h' h.size kb .byte zn (cs.map fun c => .int (lo8 c)) (.int 0)) ∧
  ∀ (O n d : String) (w : Value), RoadKit.Fld Z h x O n d w → RoadKit.slotOf Z O n d ≠ RoadKit.slotOf Z ST "value" "[B" → RoadKit.slotOf Z O n d ≠ RoadKit.slotOf Z ST "coder" "B" → RoadKit.Fld Z h' x O n d w
/-- **new String(chars) AT A CALL, THE ARRAYS AS LISTS**: the char[] at b holds cs, not empty, no char above 255 -/
theorem backArv {p : Program} {l : Launch} {e : Env} {R : Room} {s : State} {args : Array Value} {below : List Frame} {len W : Nat} {Z : State} {a0 : Array Value} {h : Heap} (hZ : Z.Warmed39 s.vm) (hw : ∀ d ∈ words, d.before a0 Z = true) {kI : Nat} (wi : (Jvm.Cond.instantiable ST kI).before a0 Z = true)
    {x b : Addr} {k : ClassId} {zn z : Int32} {cs : List Int32} {dv v0 c0 : Value} (E : RoadKit.Exa Z h x ST) (V : RoadKit.Fld Z h x ST "value" "[B" v0) (C : RoadKit.Fld Z h x ST "coder" "B" c0) (K : RoadKit.Arv Z h b k .char zn (cs.map Value.int) dv) (S : RoadKit.Sta Z h ST "COMPACT_STRINGS" "Z" (.int z)) (hz : ¬ z = 0)
    (hlen : zn.toNatClampNeg = cs.length) (h0 : 0 < cs.length) (hbig : cs.length ≤ 536870912) (hall : ∀ c ∈ cs, ¬ 255 < c) (hfr : 4 ≤ R.frames) (hlo : W + 65 ≤ R.locals) :
    Back l R p e below s args New1.yN len W (fun P a => a = #[.ref x, .ref b] ∧ P.U.heap = h ∧ P.cells + 1 ≤ R.cells ∧ P.slots + cs.length ≤ R.slots)
      (fun P _ v B => ∃ L, QA Z x zn cs h v B.U.heap L ∧ B.locs = P.locs ++ L ∧ B.cells = P.cells + 1 ∧ B.slots = P.slots + cs.length) := by
  obtain ⟨A, K1, K2, K3, K4, K5, K6⟩ := K
  have e : A.slots.size = cs.length := K3.trans hlen
  have hat : ∀ (i : Nat) (hi : i < cs.length), A.slots[i]? = some (.int cs[i]) := fun i hi => by rw [K5 i (by omega)]; simp [List.getD_eq_getElem?_getD, hi]
  have hcv : ∀ (i : Nat) (hi : i < cs.length), cv A i = cs[i] := fun i hi => by unfold cv; rw [hat i hi]
  have hty : Typed .char A := fun i v hv => by
    have hi : i < A.slots.size := (Array.getElem?_eq_some_iff.mp hv).1
    have q := K5 i hi
    rw [hv] at q
    rw [Option.some.inj q]
    exact K6 i hi
  refine Back.mono (back hZ hw wi E V C K1 hty S hz (by omega) (by omega) (fun i hi => by rw [hcv i (by omega)]; exact hall _ (List.getElem_mem _)) hfr hlo) (fun P a hp => ⟨hp.1, hp.2.1, hp.2.2.1, by rw [e]; exact hp.2.2.2⟩) (fun P a v B hp hq => ?_)
  obtain ⟨L, ⟨q1, q2, q3, q4, q5, q6, q7, ⟨V', v1, v2, v3, v4, v5⟩, q9⟩, hl, hc, hs⟩ := hq
  refine ⟨L, ⟨q1, q2, q3, q4, q5, q6, q7, ⟨V'.cls, v3, V', v1, rfl, by rw [v4, e, hlen], K4, fun i hi => ?_, fun i hi => ?_⟩, q9⟩, hl, hc, by rw [hs, e]⟩
  · have hi' : i < cs.length := by omega
    rw [v5 i (by omega), hcv i hi']; simp [List.getD_eq_getElem?_getD, hi']
  · have hi' : i < cs.length := by omega
    simp only [List.getD_eq_getElem?_getD, List.getElem?_map, List.getElem?_eq_getElem hi', Option.map_some, Option.getD_some]
    exact fits_lo8 _
end StrChars.Road
namespace StrChars.Road
open Jvm Sem ClassFile Op Lib Jvm.Stand Jvm.Free Jvm.Free.XT
/-- WHAT COMES BACK, in the writer's own shape -/
def QV (Z : State) (x : Addr) (N : Int32) (bs : List Int32) (h : Heap) (n0 : Nat) (v : Option Value) (h' : Heap) (L : List Loc) : Prop := v = none ∧ RoadKit.Fr n0 L ∧ RoadKit.Keep h h' [x] ∧ RoadKit.Exa Z h' x ST ∧ RoadKit.Fld Z h' x ST "coder" "B" (.int 0) ∧
  ∃ (t : Addr) (kb : ClassId), n0 ≤ t ∧ h.size ≤ t ∧ ¬ t = x ∧ RoadKit.Fld Z h' x ST "value" "[B" (.ref t) ∧ RoadKit.Arv Z h' t kb .byte N (bs.map Value.int) (.int 0)
/-- **new String(chars) AT A CALL, FOR THE WRITER**: a char[] of n known ints, each 0 to 255 -/
theorem backV {p : Program} {l : Launch} {e : Env} {R : Room} {s : State} {args : Array Value} {below : List Frame} {len W : Nat} {Z : State} {a0 : Array Value} {h : Heap} (hZ : Z.Warmed39 s.vm) (hw : ∀ d ∈ words, d.before a0 Z = true) {kI : Nat} (wi : (Jvm.Cond.instantiable ST kI).before a0 Z = true)
    {x b : Addr} {kC : ClassId} {cs bs : List Int32} {d v0 c0 : Value} {z N : Int32} {n n0 : Nat} (hx0 : n0 ≤ x) (hh0 : n0 ≤ h.size) (E : RoadKit.Exa Z h x ST) (V : RoadKit.Fld Z h x ST "value" "[B" v0) (C : RoadKit.Fld Z h x ST "coder" "B" c0) (K : RoadKit.Arv Z h b kC .char N (cs.map Value.int) d) (S : RoadKit.Sta Z h ST "COMPACT_STRINGS" "Z" (.int z)) (hz : ¬ z = 0)
    (hn : cs.length = n) (hN : N = Int32.ofNat n) (l0 : 0 < n) (l2 : n ≤ 4000) (hp : ∀ c ∈ cs, ¬ c < 0 ∧ ¬ (255 : Int32) < c) (hb : bs = cs.map (fun c => c.toInt8.toInt32)) (hfr : 4 ≤ R.frames) (hlo : W + 65 ≤ R.locals) :
    Back l R p e below s args (⟨"java/lang/String", "<init>", "([C)V"⟩ : MethodName) len W (fun P a => a = #[.ref x, .ref b] ∧ P.U.heap = h ∧ P.cells + 1 ≤ R.cells ∧ P.slots + n ≤ R.slots)
      (fun P _ v B => ∃ L, QV Z x N bs h n0 v B.U.heap L ∧ B.locs = P.locs ++ L ∧ B.cells = P.cells + 1 ∧ B.slots = P.slots + n) := by
  subst hn hN hb
  refine Back.mono (backArv hZ hw wi E V C K S hz (n32 (by omega)) l0 (by omega) (fun c hc => (hp c hc).2) hfr hlo) (fun P a hp => hp) (fun P a v B hp hq => ?_)
  obtain ⟨L, ⟨q1, q2, q3, q4, q5, q6, q7, ⟨kb, v1, v2⟩, q9⟩, hl, hc, hs⟩ := hq
  exact ⟨L, ⟨q1, fun y hy => by rw [q2 y hy]; exact hx0, q3, q5, q7, h.size, kb, hh0, Nat.le_refl _, Nat.ne_of_gt E.lt, q6, by rw [List.map_map]; exact v2⟩, hl, hc, hs⟩
end StrChars.Road
namespace StrChars
open Jvm Sem ClassFile Op Lib Jvm.Stand Jvm.Free.XT Jvm.Free.ALB Jvm.Free.JM Jvm.Free
open Jvm.Lib.Cold (StaticIs)
def hi8 (x : Int32) : Int32 := lo8 (x >>> ((8 : Int32) &&& 31))
/-- what StringUTF16.getChar makes of two bytes -/
def pairCh (u v : Int32) : Int32 := (((u &&& 255) <<< ((0 : Int32) &&& 31)) ||| ((v &&& 255) <<< ((8 : Int32) &&& 31))).toUInt32.toUInt16.toUInt32.toInt32
theorem lo8_and (x : Int32) : (lo8 x &&& 255).toBitVec.toNat = x.toBitVec.toNat % 256 := by
  have h : (lo8 x).toBitVec = (x.toBitVec.signExtend 8).signExtend 32 := by rw [lo8, Int8.toBitVec_toInt32, Int32.toBitVec_toInt8]
  rw [Int32.toBitVec_and, BitVec.toNat_and, h]
  have e : ((x.toBitVec.signExtend 8).signExtend 32).toNat % 256 = x.toBitVec.toNat % 256 := by
    rw [BitVec.toNat_signExtend]
    have hlt := x.toBitVec.isLt
    simp only [BitVec.toNat_setWidth, BitVec.toNat_signExtend]
    split <;> split <;> omega
  rw [← e]
  exact Nat.and_two_pow_sub_one_eq_mod _ 8
theorem pair_says {c : Int32} (h0 : ¬ c < 0) (h1 : ¬ 65535 < c) : pairCh (lo8 c) (hi8 c) = c := by
  rw [Int32.lt_iff_toInt_lt] at h0 h1
  have e0 : (0 : Int32).toInt = 0 := rfl
  have e1 : (65535 : Int32).toInt = 65535 := rfl
  have hc : c.toInt = c.toBitVec.toNat := by
    have := c.toBitVec.isLt
    have e : c.toInt = c.toBitVec.toInt := rfl
    rw [e] at h0 h1
    rw [e]
    rw [BitVec.toInt_eq_toNat_cond] at h0 h1 ⊢
    split at h0 <;> split <;> omega
  have hn : c.toBitVec.toNat < 65536 := by omega
  have a1 := lo8_and c
  have a2 : (hi8 c &&& 255).toBitVec.toNat = c.toBitVec.toNat / 256 := by
    rw [hi8, lo8_and]
    have e : ((8 : Int32) &&& 31) = 8 := by decide
    rw [e, Int32.toBitVec_shiftRight]
    have e2 : ((8 : Int32).toBitVec.smod 32) = 8#32 := by decide
    rw [e2, BitVec.sshiftRight_eq', BitVec.toNat_sshiftRight_of_msb_false (by rw [BitVec.msb_eq_false_iff_two_mul_lt]; omega)]
    show c.toBitVec.toNat >>> 8 % 256 = _
    rw [Nat.shiftRight_eq_div_pow]
    omega
  unfold pairCh
  apply Int32.toBitVec_inj.mp
  apply BitVec.eq_of_toNat_eq
  have f0 : ((0 : Int32) &&& 31) = 0 := by decide
  have f8 : ((8 : Int32) &&& 31) = 8 := by decide
  rw [f0, f8]
  have g : (((lo8 c &&& 255) <<< (0 : Int32)) ||| ((hi8 c &&& 255) <<< (8 : Int32))).toBitVec.toNat = c.toBitVec.toNat := by
    rw [Int32.toBitVec_or, Int32.toBitVec_shiftLeft, Int32.toBitVec_shiftLeft]
    have s0 : ((0 : Int32).toBitVec.smod 32) = 0#32 := by decide
    have s8 : ((8 : Int32).toBitVec.smod 32) = 8#32 := by decide
    rw [s0, s8, BitVec.toNat_or]
    simp only [BitVec.shiftLeft_eq', BitVec.toNat_shiftLeft, a1, a2]
    show (c.toBitVec.toNat % 256) <<< 0 % 2 ^ 32 ||| (c.toBitVec.toNat / 256) <<< 8 % 2 ^ 32 = _
    rw [Nat.shiftLeft_zero, Nat.mod_eq_of_lt (show c.toBitVec.toNat % 256 < 2 ^ 32 by omega), Nat.mod_eq_of_lt (show (c.toBitVec.toNat / 256) <<< 8 < 2 ^ 32 by rw [Nat.shiftLeft_eq]; omega), Nat.or_comm, ← Nat.shiftLeft_add_eq_or_of_lt (by omega), Nat.shiftLeft_eq]
    omega
  show BitVec.toNat (((((lo8 c &&& 255) <<< (0 : Int32)) ||| ((hi8 c &&& 255) <<< (8 : Int32))).toBitVec.setWidth 16).setWidth 32) = _
  rw [BitVec.toNat_setWidth, BitVec.toNat_setWidth, g]
  omega
end StrChars
namespace StrChars
open Jvm Sem ClassFile Op Lib Jvm.Stand Jvm.Free.XT Jvm.Free.ALB Jvm.Free.JM Jvm.Free
open Jvm.Lib.Cold (StaticIs)
/-- charAt's cast of a byte read back -/
def chr8 (u : Int32) : Int32 := (u &&& 255).toUInt32.toUInt16.toUInt32.toInt32
theorem chr8_lo8 {c : Int32} (h0 : ¬ c < 0) (h1 : ¬ 255 < c) : chr8 (lo8 c) = c := by
  have t : ∀ k : Fin 256, (Int32.ofNat k.val).toUInt32.toUInt16.toUInt32.toInt32 = Int32.ofNat k.val := by decide +kernel
  unfold chr8
  rw [lo8_mask h0 h1]
  rw [Int32.lt_iff_toInt_lt] at h0 h1
  have e0 : (0 : Int32).toInt = 0 := rfl
  have e1 : (255 : Int32).toInt = 255 := rfl
  obtain ⟨k, hk⟩ : ∃ k : Nat, c.toInt = k := ⟨c.toInt.toNat, by omega⟩
  have hx : c = Int32.ofNat k := Int32.toInt_inj.mp (by rw [hk, Int32.toInt_ofNat_small (by omega)])
  rw [hx]
  exact t ⟨k, by omega⟩
theorem narrow_ch {c : Int32} (h0 : ¬ c < 0) (h1 : ¬ 65535 < c) : narrow .char (.int c) = .int c := by
  have q : narrow .char (.int (pairCh (lo8 c) (hi8 c))) = .int (pairCh (lo8 c) (hi8 c)) := narrow_c _
  rwa [pair_says h0 h1] at q
/-- the array's cell V codes the n chars f 0 .. f (n - 1) by the coder cd, as the JDK does: coder 1 just where some char is above 255 -/
def Cod (cd : Int32) (n : Nat) (f : Nat → Int32) (V : Cell) : Prop := (cd = 0 ∧ V.slots.size = n ∧ ∀ j, j < n → V.slots[j]? = some (.int (lo8 (f j))) ∧ ¬ 255 < f j) ∨ (cd = 1 ∧ V.slots.size = 2 * n ∧ (∀ j, j < n → V.slots[2 * j]? = some (.int (lo8 (f j))) ∧ V.slots[2 * j + 1]? = some (.int (hi8 (f j)))) ∧ ∃ j, j < n ∧ 255 < f j)
theorem Cod.cd {cd : Int32} {n : Nat} {f : Nat → Int32} {V : Cell} (h : Cod cd n f V) : cd = 0 ∨ cd = 1 := h.imp (fun q => q.1) fun q => q.1
/-- **x is a String of the n chars f 0 .. f (n - 1)**, Latin-1 or UTF-16; its array at t has the cell V -/
def Txt (x t : Addr) (V : Cell) (cd : Int32) (n : Nat) (f : Nat → Int32) (U : State) : Prop := Exact "java/lang/String" x U ∧ Has x "java/lang/String" "value" "[B" (.ref t) U ∧ Has x "java/lang/String" "coder" "B" (.int cd) U ∧ XT.Arr .byte t V U ∧ Cod cd n f V ∧ ∀ j, j < n → ¬ f j < 0 ∧ ¬ 65535 < f j
theorem Txt.mv {x t : Addr} {V : Cell} {cd : Int32} {n : Nat} {f : Nat → Int32} {U U' : State} (h : Txt x t V cd n f U) (hal : U.vm.Alike U'.vm) (hh : U'.heap = U.heap) : Txt x t V cd n f U' := ⟨h.1.mv hal hh, h.2.1.mv hal hh, h.2.2.1.mv hal hh, h.2.2.2.1.mv hal hh, h.2.2.2.2⟩
namespace IsL
def yN : MethodName := ⟨"java/lang/String", "isLatin1", "()Z"⟩
abbrev yB : ByteArray := jdk_42_method_154_code
theorem d0 : decode yB 0 = .ok (.getstatic 38, 3) := by decide +kernel
theorem d3 : decode yB 3 = .ok (.ifCond (.eq) 14, 3) := by decide +kernel
theorem d6 : decode yB 6 = .ok (.aload_n 0, 1) := by decide +kernel
theorem d7 : decode yB 7 = .ok (.getfield 15, 3) := by decide +kernel
theorem d10 : decode yB 10 = .ok (.ifCond (.ne) 7, 3) := by decide +kernel
theorem d13 : decode yB 13 = .ok (.iconst 1, 1) := by decide +kernel
theorem d14 : decode yB 14 = .ok (.goto 4, 3) := by decide +kernel
theorem d17 : decode yB 17 = .ok (.iconst 0, 1) := by decide +kernel
theorem d18 : decode yB 18 = .ok (.ireturn, 1) := by decide +kernel
def site : List Cond := [.fieldLink "java/lang/String" 38 "java/lang/String" "COMPACT_STRINGS" "Z", .fieldLink "java/lang/String" 15 "java/lang/String" "coder" "B"]
def tab : Cond := tabOf yN yB 1 (some .boolean) site
def P (x : Addr) (cd z : Int32) (args : Array Value) (s : State) : Prop := args = #[.ref x] ∧ Has x "java/lang/String" "coder" "B" (.int cd) s ∧ (cd = 0 ∨ cd = 1) ∧ StaticIs s "java/lang/String" "COMPACT_STRINGS" "Z" (.int z) ∧ ¬ z = 0
def E (cd : Int32) (r : Option Value) (s u : State) : Prop := XT.PureE (some (.int (1 - cd))) r s u
theorem law (l : Launch) (x : Addr) (cd z : Int32) : Law l yN 1 0 0 0 yB 1 (some .boolean) site (P x cd z) (E cd) [] 0 0 := by
  refine Law.of_walk (plainFor_of_name (by decide +kernel)) (by decide +kernel) (by decide +kernel) (by decide) (fun _ _ h => by rw [h.1]; rfl) (fun _ U U' hal hh h => ⟨h.1, h.2.1.mv hal hh, h.2.2.1, h.2.2.2.1.there hal hh, h.2.2.2.2⟩) (fun r U U' V V' h1 hal h2 h => XT.PureE.mv r U U' V V' h1 hal h2 h) ?_
  intro p e s m args below meth c s₁ X0 hexec hbytes hml hret hlk hnm hown hh0 W hP
  obtain ⟨rfl, hx, hc, s1, hz⟩ := hP
  have c1 : Steps p.tables e below (s₁.setTop (entryFrame m #[.ref x] 1)) (s₁.setTop (mkF m 0 #[.val (.ref x)] [])) := entry rfl
  obtain ⟨T2, X2, q2, st2⟩ := X0.sget hexec hown (wk W (.fieldLink "java/lang/String" 38 "java/lang/String" "COMPACT_STRINGS" "Z")) s1 (fun _ _ h => by rw [hh0]; exact h) (g := (mkF m 0 #[.val (.ref x)] [])) rfl (hb hbytes d0)
  have hh2 := q2.trans hh0
  have c3 : Steps p.tables e below (s₁.setTop (entryFrame m #[.ref x] 1)) (T2.setTop (mkF m 7 #[.val (.ref x)] [.ref x])) := (c1.trans (st2 _ (Steps.refl _))).trans (by
    refine XS.ifNo X2.here hexec rfl (hb hbytes d3) rfl (i0_eq_f hz) ?_
    refine XS.aloadN X2.here hexec rfl (hb hbytes d6) rfl rfl ?_
    exact Steps.refl _)
  obtain ⟨T4, X4, q4, st4⟩ := X2.hget hexec hown (wk W (.fieldLink "java/lang/String" 15 "java/lang/String" "coder" "B")) (hx.mv X2.warmed.alike hh2) (g := (mkF m 7 #[.val (.ref x)] [.ref x])) rfl (rest := []) rfl (hb hbytes d7)
  have c5 : Steps p.tables e below (s₁.setTop (entryFrame m #[.ref x] 1)) (T4.setTop (mkF m 10 #[.val (.ref x)] [.int cd])) := c3.trans (st4 _ (Steps.refl _))
  have c6 : Steps p.tables e below (s₁.setTop (entryFrame m #[.ref x] 1)) (T4.setTop (mkF m 18 #[.val (.ref x)] [.int (1 - cd)])) := by
    rcases hc with rfl | rfl
    · exact c5.trans (by
        refine XS.ifNo X4.here hexec rfl (hb hbytes d10) rfl (i0_ne_f rfl) ?_
        refine iconstV X4.here hexec rfl 1 (hb hbytes d13) (by decide) ?_
        refine XS.goto X4.here hexec rfl (pc0 := 14) rfl (hb hbytes d14) (by decide) rfl ?_
        exact Steps.refl _)
    · exact c5.trans (by
        refine XS.ifYes X4.here hexec rfl (pc0 := 10) rfl (hb hbytes d10) rfl (i0_ne_t (by decide)) (by decide) rfl ?_
        refine iconstV X4.here hexec rfl 0 (hb hbytes d17) (by decide) ?_
        exact Steps.refl _)
  exact ⟨T4, some (.int (1 - cd)), _, _, _, X4, rfl, rfl, rfl, (fun h => by cases h), ⟨rfl, q4.trans hh2⟩, fun fs hl => c6.trans (X4.ireturnOut hexec hret (by rcases hc with rfl | rfl <;> rfl) (Or.inr (Or.inl rfl)) (hb hbytes d18) hl)⟩
end IsL
namespace LChA
def yN : MethodName := ⟨"java/lang/StringLatin1", "charAt", "([BI)C"⟩
abbrev yB : ByteArray := jdk_43_method_2_code
theorem d0 : decode yB 0 = .ok (.iload_n 1, 1) := by decide +kernel
theorem d1 : decode yB 1 = .ok (.aload_n 0, 1) := by decide +kernel
theorem d2 : decode yB 2 = .ok (.arraylength, 1) := by decide +kernel
theorem d3 : decode yB 3 = .ok (.invokestatic 9, 3) := by decide +kernel
theorem d6 : decode yB 6 = .ok (.aload_n 0, 1) := by decide +kernel
theorem d7 : decode yB 7 = .ok (.iload_n 1, 1) := by decide +kernel
theorem d8 : decode yB 8 = .ok (.baload, 1) := by decide +kernel
theorem d9 : decode yB 9 = .ok (.sipush 255, 3) := by decide +kernel
theorem d12 : decode yB 12 = .ok (.iand, 1) := by decide +kernel
theorem d13 : decode yB 13 = .ok (.i2c, 1) := by decide +kernel
theorem d14 : decode yB 14 = .ok (.ireturn, 1) := by decide +kernel
def site : List Cond := [JO.Str_checkIndex.tab] ++ staticW "java/lang/StringLatin1" 9 JO.Str_checkIndex.yN
def tab : Cond := tabOf yN yB 2 (some .char) site
def P (t : Addr) (V : Cell) (i : Nat) (u : Int32) (fm : Value) (args : Array Value) (s : State) : Prop := args = #[.ref t, .int (Int32.ofNat i)] ∧ XT.Arr .byte t V s ∧ V.slots[i]? = some (.int u) ∧ (StaticIs s "jdk/internal/util/Preconditions" "SIOOBE_FORMATTER" "Ljava/util/function/BiFunction;" fm ∧ fm.isRef = true)
def E (u : Int32) (r : Option Value) (s w : State) : Prop := XT.PureE (some (.int (chr8 u))) r s w
theorem law (l : Launch) (t : Addr) (V : Cell) (i : Nat) (u : Int32) (fm : Value) : Law l yN 2 2 2 27 yB 2 (some .char) site (P t V i u fm) (E u) [] 0 0 := by
  refine Law.of_walk (plainFor_of_name (by decide +kernel)) (by decide +kernel) (by decide +kernel) (by decide) (fun _ _ h => by rw [h.1]; rfl) (fun _ U U' hal hh h => ⟨h.1, h.2.1.mv hal hh, h.2.2.1, h.2.2.2.1.there hal hh, h.2.2.2.2⟩) (fun r U U' V V' h1 hal h2 h => XT.PureE.mv r U U' V V' h1 hal h2 h) ?_
  intro p e s m args below meth c s₁ X0 hexec hbytes hml hret hlk hnm hown hh0 W hP
  obtain ⟨rfl, hV, hu, s1, rf⟩ := hP
  have v31 := hV.2.2.2
  have hi : i < V.slots.size := (Array.getElem?_eq_some_iff.mp hu).1
  have c1 : Steps p.tables e below (s₁.setTop (entryFrame m #[.ref t, .int (Int32.ofNat i)] 2)) (s₁.setTop (mkF m 0 #[.val (.ref t), .val (.int (Int32.ofNat i))] [])) := entry rfl
  have c2 : Steps p.tables e below (s₁.setTop (entryFrame m #[.ref t, .int (Int32.ofNat i)] 2)) (s₁.setTop (mkF m 3 #[.val (.ref t), .val (.int (Int32.ofNat i))] [.int (Int32.ofNat V.slots.size), .int (Int32.ofNat i)])) := c1.trans (by
    refine XS.iloadN X0.here hexec rfl (hb hbytes d0) rfl ?_
    refine XS.aloadN X0.here hexec rfl (hb hbytes d1) rfl rfl ?_
    refine X0.alen hexec (hV.mv X0.warmed.alike hh0) rfl rfl (hb hbytes d2) ?_
    exact Steps.refl _)
  obtain ⟨v3, T3, X3, E3, g3⟩ := X0.callS hexec (JO.Str_checkIndex.law l (Int32.ofNat i) (Int32.ofNat V.slots.size) fm) hown (wks W (staticW "java/lang/StringLatin1" 9 JO.Str_checkIndex.yN)) (wk W JO.Str_checkIndex.tab) (W := 0) (Nat.le_of_ble_eq_true rfl) (Nat.le_of_ble_eq_true rfl) (Nat.le_refl _) (Nat.le_refl _) (g := (mkF m 3 #[.val (.ref t), .val (.int (Int32.ofNat i))] [.int (Int32.ofNat V.slots.size), .int (Int32.ofNat i)])) rfl (by rw [hml]; rfl) c2 (argsL := [.int (Int32.ofNat i), .int (Int32.ofNat V.slots.size)]) (rest := []) rfl rfl (by show 2 * 0 + 0 ≤ _; decide) (hb hbytes d3) (⟨rfl, rf, s1.there X0.warmed.alike hh0, Int32.ofNat_not_neg (by omega), lt32 v31 hi⟩)
  obtain ⟨rfl, q3⟩ := E3
  have hh3 := q3.trans hh0
  have c4 : Steps p.tables e below (s₁.setTop (entryFrame m #[.ref t, .int (Int32.ofNat i)] 2)) (T3.setTop (mkF m 14 #[.val (.ref t), .val (.int (Int32.ofNat i))] [.int (chr8 u)])) := Steps.trans g3 (by
    refine XS.aloadN X3.here hexec rfl (hb hbytes d6) rfl rfl ?_
    refine XS.iloadN X3.here hexec rfl (hb hbytes d7) rfl ?_
    refine X3.aget hexec (hV.mv X3.warmed.alike hh3) rfl hu rfl rfl (hb hbytes d8) ?_
    refine sipushV X3.here hexec rfl 255 (hb hbytes d9) (by decide) ?_
    refine XS.iand X3.here hexec rfl (hb hbytes d12) rfl ?_
    refine i2c X3.here hexec rfl (hb hbytes d13) rfl ?_
    exact Steps.refl _)
  exact ⟨T3, some (.int (chr8 u)), _, _, _, X3, rfl, rfl, rfl, (fun h => by cases h), ⟨rfl, hh3⟩, fun fs hl => c4.trans (X3.ireturnOut hexec hret (narrow_c _) (Or.inr (Or.inr (Or.inr (Or.inl rfl)))) (hb hbytes d14) hl)⟩
end LChA
end StrChars
namespace StrChars.Road
open Jvm Sem ClassFile Op Lib Jvm.Stand Jvm.Free Jvm.Free.XT
open Jvm.Lib.Cold (StaticIs)
theorem consq {a : Array Value} {s : State} {c : Jvm.Cond} {L : List Jvm.Cond} (h0 : c.before a s = true) (h : ∀ w ∈ L, w.before a s = true) : ∀ w ∈ c :: L, w.before a s = true := fun w hw => (List.mem_cons.mp hw).elim (fun e => e ▸ h0) (h w)
/-- the bytes of the chars cs, low before high -/
def wideBytes : List Int32 → List Value
  | [] => []
  | c :: cs => .int (lo8 c) :: .int (hi8 c) :: wideBytes cs
theorem wide_lo (d : Value) : ∀ (cs : List Int32) (j : Nat), j < cs.length → (wideBytes cs).getD (2 * j) d = .int (lo8 (cs.getD j 0))
  | [], j, h => absurd h (Nat.not_lt_zero j)
  | c :: cs, 0, _ => rfl
  | c :: cs, j + 1, h => by
    have q := wide_lo d cs j (by simpa using h)
    rw [show 2 * (j + 1) = 2 * j + 1 + 1 from by omega]
    simpa [wideBytes] using q
theorem wide_hi (d : Value) : ∀ (cs : List Int32) (j : Nat), j < cs.length → (wideBytes cs).getD (2 * j + 1) d = .int (hi8 (cs.getD j 0))
  | [], j, h => absurd h (Nat.not_lt_zero j)
  | c :: cs, 0, _ => rfl
  | c :: cs, j + 1, h => by
    have q := wide_hi d cs j (by simpa using h)
    rw [show 2 * (j + 1) + 1 = 2 * j + 1 + 1 + 1 from by omega]
    simpa [wideBytes] using q
theorem low_at (d : Value) (cs : List Int32) (j : Nat) (h : j < cs.length) : (cs.map fun c => Value.int (lo8 c)).getD j d = .int (lo8 (cs.getD j 0)) := by
  simp [List.getD_eq_getElem?_getD, h]
/-- an array of N2 bytes vs codes the chars cs by the coder cd -/
def CodA (cs : List Int32) (cd N2 : Int32) (vs : List Value) : Prop := (cd = 0 ∧ N2 = Int32.ofNat cs.length ∧ vs = (cs.map fun c => Value.int (lo8 c)) ∧ ∀ c ∈ cs, ¬ 255 < c) ∨ (cd = 1 ∧ N2 = Int32.ofNat (2 * cs.length) ∧ vs = wideBytes cs ∧ ∃ c ∈ cs, 255 < c)
theorem CodA.cod {cs : List Int32} {cd N2 : Int32} {vs : List Value} {V : Cell} (h : CodA cs cd N2 vs) (hn : 2 * cs.length < 2 ^ 31) (hs : V.slots.size = N2.toNatClampNeg) (hv : RoadKit.Has V vs (.int 0)) : Cod cd cs.length (fun j => cs.getD j 0) V := by
  rcases h with ⟨rfl, rfl, rfl, h⟩ | ⟨rfl, rfl, rfl, c, hc, hw⟩
  · rw [n32 (by omega)] at hs
    exact Or.inl ⟨rfl, hs, fun j hj => ⟨by rw [hv j (by omega), low_at _ _ _ hj], by
      have e : cs.getD j 0 = cs[j] := by simp [List.getD_eq_getElem?_getD, hj]
      show ¬ 255 < cs.getD j 0
      rw [e]; exact h _ (List.getElem_mem _)⟩⟩
  · rw [n32 (by omega)] at hs
    obtain ⟨j, hj, rfl⟩ := List.getElem_of_mem hc
    exact Or.inr ⟨rfl, hs, fun j hj => ⟨by rw [hv _ (by omega), wide_lo _ _ _ hj], by rw [hv _ (by omega), wide_hi _ _ _ hj]⟩, j, hj, by
      have e : cs.getD j 0 = cs[j] := by simp [List.getD_eq_getElem?_getD, hj]
      show 255 < cs.getD j 0
      rw [e]; exact hw⟩
/-- an object of exactly java/lang/String, its two fields found: as the laws ask it -/
theorem strObj {Z U : State} {a0 : Array Value} {kI : Nat} (wi : (Jvm.Cond.instantiable ST kI).before a0 Z = true) (al : Z.vm.Alike U.vm) {x : Addr} {v0 c0 : Value} (E : RoadKit.Exa Z U.heap x ST) (V : RoadKit.Fld Z U.heap x ST "value" "[B" v0) (C : RoadKit.Fld Z U.heap x ST "coder" "B" c0) :
    ∃ (D : Cell) (fV fC : Field), Blank ST x D U ∧ Found ST "value" "[B" fV U ∧ Found ST "coder" "B" fC U ∧ D.slots[fV.slot]? = some v0 ∧ D.slots[fC.slot]? = some c0 ∧ RoadKit.slotOf Z ST "value" "[B" = fV.slot ∧ RoadKit.slotOf Z ST "coder" "B" = fC.slot := by
  obtain ⟨D, cfV, kV, iV, fV, hD, gV, stV, knV, obV, asV, slV⟩ := V
  obtain ⟨D', cfC, kC, iC, fC, hD', gC, stC, -, -, asC, slC⟩ := C
  cases hD.symm.trans hD'
  obtain ⟨D2, kD, e1, e2, e3, e4, e5⟩ := E
  cases hD.symm.trans e1
  obtain ⟨c2, k2, i1, i2, i3, -⟩ := Cond.instantiable_spec wi
  cases e2.symm.trans i1
  cases e3.symm.trans i2
  obtain ⟨kU, u1, u2⟩ := al.2.2 _ _ e3
  exact ⟨D, fV, fC, ⟨hD, ⟨knV, fun q hq => by rw [hq] at obV; cases obV⟩, by rw [al.findClass]; exact e2, kU, u1, by rw [u2]; exact i3, by rw [u2]; exact e5 i3⟩, ⟨SBG.found_only al ⟨cfV, kV, iV, gV⟩, stV⟩, ⟨SBG.found_only al ⟨cfC, kC, iC, gC⟩, stC⟩, slV, slC, by simp [RoadKit.slotOf, gV], by simp [RoadKit.slotOf, gC]⟩
theorem sta_is {Z U : State} (al : Z.vm.Alike U.vm) {C n d : String} {v : Value} (S : RoadKit.Sta Z U.heap C n d v) : StaticIs U C n d v := by
  obtain ⟨cfS, iS, kS, fS, st, cS, t1, t2, t3, t4, t5, t6, t7⟩ := S
  exact StaticIs.there (s := { Z with heap := U.heap }) ⟨cfS, iS, kS, fS, st, cS, t1, t2, t3, t4, t5, (fun q => by rw [q] at t6; cases t6), t7⟩ al rfl
end StrChars.Road
namespace StrChars
open Jvm Sem ClassFile Op Lib Jvm.Stand Jvm.Free.XT Jvm.Free.ALB Jvm.Free.JM Jvm.Free
open Jvm.Lib.Cold (StaticIs)
/-- what place i of a byte[]'s cell holds -/
def yv (A : Cell) (i : Nat) : Int32 := match A.slots[i]? with | some (.int x) => x | _ => 0
theorem yv_get {a : Addr} {A : Cell} {U : State} (h : XT.Arr .byte a A U) (ht : Typed .byte A) {i : Nat} (hi : i < A.slots.size) : A.slots[i]? = some (.int (yv A i)) := by
  have e := Array.getElem?_eq_getElem hi
  have f := ht i _ e
  unfold yv; rw [e]
  generalize A.slots[i] = v at f
  cases v <;> simp [fits] at f ⊢
/-- the two arrays are equal, place for place -/
def EqC (A B : Cell) : Prop := A.slots.size = B.slots.size ∧ ∀ i, i < A.slots.size → yv A i = yv B i
/-- a boolean that says whether p -/
def Says01 (q : Prop) (r : Option Value) (s u : State) : Prop := ∃ v : Int32, r = some (.int v) ∧ u.heap = s.heap ∧ ((v = 1 ∧ q) ∨ (v = 0 ∧ ¬ q))
theorem Says01.mv {q : Prop} : ∀ r (U U' V V' : State), U'.heap = U.heap → V.vm.Alike V'.vm → V'.heap = V.heap → Says01 q r U V → Says01 q r U' V' :=
  fun r U U' V V' h1 _ h2 ⟨v, a, b, c⟩ => ⟨v, a, by rw [h1, h2]; exact b, c⟩
namespace LEq
def yN : MethodName := ⟨"java/lang/StringLatin1", "equals", "([B[B)Z"⟩
abbrev yB : ByteArray := jdk_43_method_13_code
theorem d0 : decode yB 0 = .ok (.aload_n 0, 1) := by decide +kernel
theorem d1 : decode yB 1 = .ok (.arraylength, 1) := by decide +kernel
theorem d2 : decode yB 2 = .ok (.aload_n 1, 1) := by decide +kernel
theorem d3 : decode yB 3 = .ok (.arraylength, 1) := by decide +kernel
theorem d4 : decode yB 4 = .ok (.if_icmp (.ne) 30, 3) := by decide +kernel
theorem d7 : decode yB 7 = .ok (.iconst 0, 1) := by decide +kernel
theorem d8 : decode yB 8 = .ok (.istore_n 2, 1) := by decide +kernel
theorem d9 : decode yB 9 = .ok (.iload_n 2, 1) := by decide +kernel
theorem d10 : decode yB 10 = .ok (.aload_n 0, 1) := by decide +kernel
theorem d11 : decode yB 11 = .ok (.arraylength, 1) := by decide +kernel
theorem d12 : decode yB 12 = .ok (.if_icmp (.ge) 20, 3) := by decide +kernel
theorem d15 : decode yB 15 = .ok (.aload_n 0, 1) := by decide +kernel
theorem d16 : decode yB 16 = .ok (.iload_n 2, 1) := by decide +kernel
theorem d17 : decode yB 17 = .ok (.baload, 1) := by decide +kernel
theorem d18 : decode yB 18 = .ok (.aload_n 1, 1) := by decide +kernel
theorem d19 : decode yB 19 = .ok (.iload_n 2, 1) := by decide +kernel
theorem d20 : decode yB 20 = .ok (.baload, 1) := by decide +kernel
theorem d21 : decode yB 21 = .ok (.if_icmp (.eq) 5, 3) := by decide +kernel
theorem d24 : decode yB 24 = .ok (.iconst 0, 1) := by decide +kernel
theorem d25 : decode yB 25 = .ok (.ireturn, 1) := by decide +kernel
theorem d26 : decode yB 26 = .ok (.iinc 2 1, 3) := by decide +kernel
theorem d29 : decode yB 29 = .ok (.goto (-20), 3) := by decide +kernel
theorem d32 : decode yB 32 = .ok (.iconst 1, 1) := by decide +kernel
theorem d33 : decode yB 33 = .ok (.ireturn, 1) := by decide +kernel
theorem d34 : decode yB 34 = .ok (.iconst 0, 1) := by decide +kernel
theorem d35 : decode yB 35 = .ok (.ireturn, 1) := by decide +kernel
def site : List Cond := []
def tab : Cond := tabOf yN yB 3 (some .boolean) site
def P (a : Addr) (A : Cell) (b : Addr) (B : Cell) (args : Array Value) (s : State) : Prop := args = #[.ref a, .ref b] ∧ XT.Arr .byte a A s ∧ Typed .byte A ∧ XT.Arr .byte b B s ∧ Typed .byte B
/-- whether two byte[] are equal, place for place -/
theorem law (l : Launch) (a : Addr) (A : Cell) (b : Addr) (B : Cell) : Law l yN 2 2 0 0 yB 3 (some .boolean) site (P a A b B) (Says01 (EqC A B)) [] 0 0 := by
  refine Law.of_walk (plainFor_of_name (by decide +kernel)) (by decide +kernel) (by decide +kernel) (by decide) (fun _ _ h => by rw [h.1]; rfl) (fun _ U U' hal hh h => ⟨h.1, h.2.1.mv hal hh, h.2.2.1, h.2.2.2.1.mv hal hh, h.2.2.2.2⟩) (fun r U U' V V' h1 hal h2 h => Says01.mv r U U' V V' h1 hal h2 h) ?_
  intro p e s m args below meth c s₁ X0 hexec hbytes hml hret hlk hnm hown hh0 W hP
  obtain ⟨rfl, hA, tA, hB, tB⟩ := hP
  have a31 := hA.2.2.2
  have b31 := hB.2.2.2
  have hA0 := hA.mv X0.warmed.alike hh0
  have hB0 := hB.mv X0.warmed.alike hh0
  have c1 : Steps p.tables e below (s₁.setTop (entryFrame m #[.ref a, .ref b] 3)) (s₁.setTop (mkF m 0 #[.val (.ref a), .val (.ref b), .unset] [])) := entry rfl
  have c2 : Steps p.tables e below (s₁.setTop (entryFrame m #[.ref a, .ref b] 3)) (s₁.setTop (mkF m 4 #[.val (.ref a), .val (.ref b), .unset] [.int (Int32.ofNat B.slots.size), .int (Int32.ofNat A.slots.size)])) := c1.trans (by
    refine XS.aloadN X0.here hexec rfl (hb hbytes d0) rfl rfl ?_
    refine X0.alen hexec hA0 rfl rfl (hb hbytes d1) ?_
    refine XS.aloadN X0.here hexec rfl (hb hbytes d2) rfl rfl ?_
    refine X0.alen hexec hB0 rfl rfl (hb hbytes d3) ?_
    exact Steps.refl _)
  by_cases hs : A.slots.size = B.slots.size
  · have c3 : Steps p.tables e below (s₁.setTop (entryFrame m #[.ref a, .ref b] 3)) (s₁.setTop (mkF m 9 #[.val (.ref a), .val (.ref b), .val (.int 0)] [])) := c2.trans (by
      refine XS.icmpNo X0.here hexec rfl (hb hbytes d4) rfl (ii_ne_f (by rw [hs])) ?_
      refine iconstV X0.here hexec rfl 0 (hb hbytes d7) (by decide) ?_
      refine XS.istoreN X0.here hexec rfl (hb hbytes d8) rfl rfl ?_
      exact Steps.refl _)
    have loop : ∀ (r i : Nat), i + r = A.slots.size → (∀ j, j < i → yv A j = yv B j) → Steps p.tables e below (s₁.setTop (entryFrame m #[.ref a, .ref b] 3)) (s₁.setTop (mkF m 9 #[.val (.ref a), .val (.ref b), .val (.int (Int32.ofNat i))] [])) → ∃ (pc : Nat) (Ls : Array Slot) (v : Int32), (pc = 25 ∨ pc = 33) ∧ ((v = 1 ∧ EqC A B) ∨ (v = 0 ∧ ¬ EqC A B)) ∧ Steps p.tables e below (s₁.setTop (entryFrame m #[.ref a, .ref b] 3)) (s₁.setTop (mkF m pc Ls [.int v])) := by
      intro r
      induction r with
      | zero =>
        intro i hi he cl
        exact ⟨33, _, 1, Or.inr rfl, Or.inl ⟨rfl, hs, fun j hj => he j (by omega)⟩, cl.trans (by
          refine XS.iloadN X0.here hexec rfl (hb hbytes d9) rfl ?_
          refine XS.aloadN X0.here hexec rfl (hb hbytes d10) rfl rfl ?_
          refine X0.alen hexec hA0 rfl rfl (hb hbytes d11) ?_
          refine XS.icmpYes X0.here hexec rfl (pc0 := 12) rfl (hb hbytes d12) rfl (ii_ge_t (nlt32 (by omega) (by omega))) (by decide) rfl ?_
          refine iconstV X0.here hexec rfl 1 (hb hbytes d32) (by decide) ?_
          exact Steps.refl _)⟩
      | succ r ih =>
        intro i hi he cl
        have c4 : Steps p.tables e below (s₁.setTop (entryFrame m #[.ref a, .ref b] 3)) (s₁.setTop (mkF m 21 #[.val (.ref a), .val (.ref b), .val (.int (Int32.ofNat i))] [.int (yv B i), .int (yv A i)])) := cl.trans (by
          refine XS.iloadN X0.here hexec rfl (hb hbytes d9) rfl ?_
          refine XS.aloadN X0.here hexec rfl (hb hbytes d10) rfl rfl ?_
          refine X0.alen hexec hA0 rfl rfl (hb hbytes d11) ?_
          refine XS.icmpNo X0.here hexec rfl (hb hbytes d12) rfl (ii_ge_f (lt32 (by omega) (by omega))) ?_
          refine XS.aloadN X0.here hexec rfl (hb hbytes d15) rfl rfl ?_
          refine XS.iloadN X0.here hexec rfl (hb hbytes d16) rfl ?_
          refine X0.aget hexec hA0 rfl (yv_get hA tA (i := i) (by omega)) rfl rfl (hb hbytes d17) ?_
          refine XS.aloadN X0.here hexec rfl (hb hbytes d18) rfl rfl ?_
          refine XS.iloadN X0.here hexec rfl (hb hbytes d19) rfl ?_
          refine X0.aget hexec hB0 rfl (yv_get hB tB (i := i) (by omega)) rfl rfl (hb hbytes d20) ?_
          exact Steps.refl _)
        by_cases hv : yv A i = yv B i
        · have c5 : Steps p.tables e below (s₁.setTop (entryFrame m #[.ref a, .ref b] 3)) (s₁.setTop (mkF m 9 #[.val (.ref a), .val (.ref b), .val (.int (Int32.ofNat i + 1))] [])) := c4.trans (by
            refine XS.icmpYes X0.here hexec rfl (pc0 := 21) rfl (hb hbytes d21) rfl (ii_eq_t hv) (by decide) rfl ?_
            refine iincV X0.here hexec rfl 1 (hb hbytes d26) (by decide) rfl rfl ?_
            refine XS.goto X0.here hexec rfl (pc0 := 29) rfl (hb hbytes d29) (by decide) rfl ?_
            exact Steps.refl _)
          rw [succ32] at c5
          exact ih (i + 1) (by omega) (fun j hj => by
            by_cases e : j = i
            · rw [e]; exact hv
            · exact he j (by omega)) c5
        · exact ⟨25, _, 0, Or.inl rfl, Or.inr ⟨rfl, fun q => hv (q.2 i (by omega))⟩, c4.trans (by
            refine XS.icmpNo X0.here hexec rfl (hb hbytes d21) rfl (ii_eq_f hv) ?_
            refine iconstV X0.here hexec rfl 0 (hb hbytes d24) (by decide) ?_
            exact Steps.refl _)⟩
    obtain ⟨pc, Ls, v, hpc, hv, cz⟩ := loop A.slots.size 0 (by omega) (fun j hj => absurd hj (Nat.not_lt_zero j)) c3
    have nv : narrow .boolean (.int v) = .int v := by rcases hv with ⟨rfl, -⟩ | ⟨rfl, -⟩ <;> rfl
    rcases hpc with rfl | rfl
    · exact ⟨s₁, some (.int v), _, _, _, X0, rfl, rfl, rfl, (fun h => by cases h), ⟨v, rfl, hh0, hv⟩, fun fs hl => cz.trans (X0.ireturnOut hexec hret nv (Or.inr (Or.inl rfl)) (hb hbytes d25) hl)⟩
    · exact ⟨s₁, some (.int v), _, _, _, X0, rfl, rfl, rfl, (fun h => by cases h), ⟨v, rfl, hh0, hv⟩, fun fs hl => cz.trans (X0.ireturnOut hexec hret nv (Or.inr (Or.inl rfl)) (hb hbytes d33) hl)⟩
  · have c3 : Steps p.tables e below (s₁.setTop (entryFrame m #[.ref a, .ref b] 3)) (s₁.setTop (mkF m 35 #[.val (.ref a), .val (.ref b), .unset] [.int 0])) := c2.trans (by
      refine XS.icmpYes X0.here hexec rfl (pc0 := 4) rfl (hb hbytes d4) rfl (ii_ne_t (ne32 a31 b31 hs)) (by decide) rfl ?_
      refine iconstV X0.here hexec rfl 0 (hb hbytes d34) (by decide) ?_
      exact Steps.refl _)
    exact ⟨s₁, some (.int 0), _, _, _, X0, rfl, rfl, rfl, (fun h => by cases h), ⟨0, rfl, hh0, Or.inr ⟨rfl, fun q => hs q.1⟩⟩, fun fs hl => c3.trans (X0.ireturnOut hexec hret rfl (Or.inr (Or.inl rfl)) (hb hbytes d35) hl)⟩
end LEq
theorem Cod.ty {cd : Int32} {n : Nat} {f : Nat → Int32} {V : Cell} (h : Cod cd n f V) : Typed .byte V := fun i v hv => by
  have hi : i < V.slots.size := (Array.getElem?_eq_some_iff.mp hv).1
  rcases h with ⟨-, k1, k2⟩ | ⟨-, k1, k2, -⟩
  · rw [(k2 i (by omega)).1] at hv; cases hv; exact fits_lo8 _
  · rcases Nat.mod_two_eq_zero_or_one i with e | e
    · obtain ⟨j, rfl⟩ : ∃ j, i = 2 * j := ⟨i / 2, by omega⟩
      rw [(k2 j (by omega)).1] at hv; cases hv; exact fits_lo8 _
    · obtain ⟨j, rfl⟩ : ∃ j, i = 2 * j + 1 := ⟨i / 2, by omega⟩
      rw [(k2 j (by omega)).2] at hv; cases hv; exact fits_lo8 _
/-- the same text -/
def SameT (n : Nat) (f : Nat → Int32) (k : Nat) (g : Nat → Int32) : Prop := n = k ∧ ∀ j, j < n → f j = g j
theorem lo8_inj {x y : Int32} (h0 : ¬ x < 0) (h1 : ¬ 255 < x) (k0 : ¬ y < 0) (k1 : ¬ 255 < y) (h : lo8 x = lo8 y) : x = y := by
  rw [← lo8_mask h0 h1, ← lo8_mask k0 k1, h]
/-- arrays coded by one coder are equal just where the texts are -/
theorem Cod.eqv {cd : Int32} {n k : Nat} {f g : Nat → Int32} {V V' : Cell} (h : Cod cd n f V) (h' : Cod cd k g V') (hf : ∀ j, j < n → ¬ f j < 0 ∧ ¬ 65535 < f j) (hg : ∀ j, j < k → ¬ g j < 0 ∧ ¬ 65535 < g j) : EqC V V' ↔ SameT n f k g := by
  have yvv : ∀ {W : Cell} {i : Nat} {x : Int32}, W.slots[i]? = some (.int x) → yv W i = x := fun q => by unfold yv; rw [q]
  rcases h with ⟨rfl, k1, k2⟩ | ⟨rfl, k1, k2, -⟩
  · rcases h' with ⟨-, m1, m2⟩ | ⟨e, -⟩
    · constructor
      · rintro ⟨e1, e2⟩
        refine ⟨by omega, fun j hj => ?_⟩
        have q := e2 j (by omega)
        rw [yvv (k2 j hj).1, yvv (m2 j (by omega)).1] at q
        exact lo8_inj (hf j hj).1 (k2 j hj).2 (hg j (by omega)).1 (m2 j (by omega)).2 q
      · rintro ⟨rfl, e2⟩
        refine ⟨by omega, fun j hj => ?_⟩
        rw [yvv (k2 j (by omega)).1, yvv (m2 j (by omega)).1, e2 j (by omega)]
    · exact absurd e (by decide)
  · rcases h' with ⟨e, -⟩ | ⟨-, m1, m2, -⟩
    · exact absurd e (by decide)
    · constructor
      · rintro ⟨e1, e2⟩
        refine ⟨by omega, fun j hj => ?_⟩
        have q1 := e2 (2 * j) (by omega)
        have q2 := e2 (2 * j + 1) (by omega)
        rw [yvv (k2 j hj).1, yvv (m2 j (by omega)).1] at q1
        rw [yvv (k2 j hj).2, yvv (m2 j (by omega)).2] at q2
        rw [← pair_says (hf j hj).1 (hf j hj).2, ← pair_says (hg j (by omega)).1 (hg j (by omega)).2, q1, q2]
      · rintro ⟨rfl, e2⟩
        refine ⟨by omega, fun i hi => ?_⟩
        rcases Nat.mod_two_eq_zero_or_one i with e | e
        · obtain ⟨j, rfl⟩ : ∃ j, i = 2 * j := ⟨i / 2, by omega⟩
          rw [yvv (k2 j (by omega)).1, yvv (m2 j (by omega)).1, e2 j (by omega)]
        · obtain ⟨j, rfl⟩ : ∃ j, i = 2 * j + 1 := ⟨i / 2, by omega⟩
          rw [yvv (k2 j (by omega)).2, yvv (m2 j (by omega)).2, e2 j (by omega)]
/-- two codings differ: so do the texts -/
theorem Cod.dif {cd cd' : Int32} {n k : Nat} {f g : Nat → Int32} {V V' : Cell} (h : Cod cd n f V) (h' : Cod cd' k g V') (hne : ¬ cd = cd') : ¬ SameT n f k g := by
  rintro ⟨rfl, e⟩
  rcases h with ⟨rfl, -, k2⟩ | ⟨rfl, -, -, j, hj, hw⟩
  · rcases h' with ⟨rfl, -⟩ | ⟨-, -, -, j, hj, hw⟩
    · exact hne rfl
    · exact (k2 j hj).2 (by rw [e j hj]; exact hw)
  · rcases h' with ⟨-, -, m2⟩ | ⟨rfl, -⟩
    · exact (m2 j hj).2 (by rw [← e j hj]; exact hw)
    · exact hne rfl
/-- an object of exactly C is an instance of C -/
theorem cinst {p : Program} {l : Launch} {e : Env} {R : Room} {s : State} {m : MethodId} {args : Array Value} {below : List Frame} {meth : Method} {c : Code} {T : State} {locs : List Loc} {cells slots : Nat} (X : Stand p l e R s m args below meth c T locs cells slots) (hexec : p.tables.exec = Jvm.exec) {own C : String} {index : Nat} (hown : s.vm.findClass own = some m.cls) (hlink : (Cond.classLink own index C).before args s = true) {a : Addr} (hE : Exact C a T)
    {g : JFrame} (hg : g.method = m) {rest : List Value} (hstack : g.stack = .ref a :: rest) (hdg : decode c.code g.pc = .ok (.instanceof index, 3)) :
    ∃ T', Stand p l e R s m args below meth c T' locs cells slots ∧ T'.heap = T.heap ∧ ∀ target, Steps p.tables e below (T'.setTop { g with pc := g.pc + 3, stack := .int 1 :: rest }) target → Steps p.tables e below (T.setTop g) target := by
  obtain ⟨cB, h1, D, h2, h3, h4⟩ := hE
  have h1' : s.vm.findClass C = some cB := by rw [← X.warmed.alike.findClass]; exact h1
  obtain ⟨vm', X', st⟩ := X.instanceofYes hexec hown hlink h2 h4 h1' (by rw [h3]; exact Jvm.Free.SB.assignable_self _ _) hg hstack hdg
  exact ⟨_, X', rfl, st⟩
theorem cself {p : Program} {l : Launch} {e : Env} {R : Room} {s : State} {m : MethodId} {args : Array Value} {below : List Frame} {meth : Method} {c : Code} {T : State} {locs : List Loc} {cells slots : Nat} (X : Stand p l e R s m args below meth c T locs cells slots) (hexec : p.tables.exec = Jvm.exec) {own C : String} {index : Nat} (hown : s.vm.findClass own = some m.cls) (hlink : (Cond.classLink own index C).before args s = true) {a : Addr} (hE : Exact C a T)
    {g : JFrame} (hg : g.method = m) {rest : List Value} (hstack : g.stack = .ref a :: rest) (hdg : decode c.code g.pc = .ok (.checkcast index, 3)) :
    ∃ T', Stand p l e R s m args below meth c T' locs cells slots ∧ T'.heap = T.heap ∧ ∀ target, Steps p.tables e below (T'.setTop { g with pc := g.pc + 3, stack := .ref a :: rest }) target → Steps p.tables e below (T.setTop g) target := by
  obtain ⟨cB, h1, D, h2, h3, h4⟩ := hE
  have h1' : s.vm.findClass C = some cB := by rw [← X.warmed.alike.findClass]; exact h1
  obtain ⟨vm', X', st⟩ := X.checkcastYes hexec hown hlink h2 h4 h1' (by rw [h3]; exact Jvm.Free.SB.assignable_self _ _) hg hstack hdg
  exact ⟨_, X', rfl, fun t h => st t (by rw [← hstack] at h; exact h)⟩
namespace SEq
def yN : MethodName := ⟨"java/lang/String", "equals", "(Ljava/lang/Object;)Z"⟩
abbrev yB : ByteArray := jdk_42_method_66_code
theorem d0 : decode yB 0 = .ok (.aload_n 0, 1) := by decide +kernel
theorem d1 : decode yB 1 = .ok (.aload_n 1, 1) := by decide +kernel
theorem d2 : decode yB 2 = .ok (.if_acmp (.ne) 5, 3) := by decide +kernel
theorem d5 : decode yB 5 = .ok (.iconst 1, 1) := by decide +kernel
theorem d6 : decode yB 6 = .ok (.ireturn, 1) := by decide +kernel
theorem d7 : decode yB 7 = .ok (.aload_n 1, 1) := by decide +kernel
theorem d8 : decode yB 8 = .ok (.instanceof 10, 3) := by decide +kernel
theorem d11 : decode yB 11 = .ok (.ifCond (.eq) 43, 3) := by decide +kernel
theorem d14 : decode yB 14 = .ok (.aload_n 1, 1) := by decide +kernel
theorem d15 : decode yB 15 = .ok (.checkcast 10, 3) := by decide +kernel
theorem d18 : decode yB 18 = .ok (.astore_n 2, 1) := by decide +kernel
theorem d19 : decode yB 19 = .ok (.getstatic 38, 3) := by decide +kernel
theorem d22 : decode yB 22 = .ok (.ifCond (.eq) 14, 3) := by decide +kernel
theorem d25 : decode yB 25 = .ok (.aload_n 0, 1) := by decide +kernel
theorem d26 : decode yB 26 = .ok (.getfield 15, 3) := by decide +kernel
theorem d29 : decode yB 29 = .ok (.aload_n 2, 1) := by decide +kernel
theorem d30 : decode yB 30 = .ok (.getfield 15, 3) := by decide +kernel
theorem d33 : decode yB 33 = .ok (.if_icmp (.ne) 21, 3) := by decide +kernel
theorem d36 : decode yB 36 = .ok (.aload_n 0, 1) := by decide +kernel
theorem d37 : decode yB 37 = .ok (.getfield 9, 3) := by decide +kernel
theorem d40 : decode yB 40 = .ok (.aload_n 2, 1) := by decide +kernel
theorem d41 : decode yB 41 = .ok (.getfield 9, 3) := by decide +kernel
theorem d44 : decode yB 44 = .ok (.invokestatic 541, 3) := by decide +kernel
theorem d47 : decode yB 47 = .ok (.ifCond (.eq) 7, 3) := by decide +kernel
theorem d50 : decode yB 50 = .ok (.iconst 1, 1) := by decide +kernel
theorem d51 : decode yB 51 = .ok (.goto 4, 3) := by decide +kernel
theorem d54 : decode yB 54 = .ok (.iconst 0, 1) := by decide +kernel
theorem d55 : decode yB 55 = .ok (.ireturn, 1) := by decide +kernel
def site : List Cond := [.classLink "java/lang/String" 10 "java/lang/String", .fieldLink "java/lang/String" 38 "java/lang/String" "COMPACT_STRINGS" "Z", .fieldLink "java/lang/String" 15 "java/lang/String" "coder" "B", .fieldLink "java/lang/String" 9 "java/lang/String" "value" "[B", LEq.tab] ++ staticW "java/lang/String" 541 LEq.yN
def tab : Cond := tabOf yN yB 3 (some .boolean) site
def P (x t : Addr) (V : Cell) (cd : Int32) (n : Nat) (f : Nat → Int32) (y t' : Addr) (V' : Cell) (cd' : Int32) (k : Nat) (g : Nat → Int32) (z : Int32) (args : Array Value) (s : State) : Prop := args = #[.ref x, .ref y] ∧ Txt x t V cd n f s ∧ Txt y t' V' cd' k g s ∧ StaticIs s "java/lang/String" "COMPACT_STRINGS" "Z" (.int z) ∧ ¬ z = 0
/-- equals(Object) of two Strings: whether the texts are the same -/
theorem law (l : Launch) (x t : Addr) (V : Cell) (cd : Int32) (n : Nat) (f : Nat → Int32) (y t' : Addr) (V' : Cell) (cd' : Int32) (k : Nat) (g : Nat → Int32) (z : Int32) : Law l yN 2 1 1 14 yB 3 (some .boolean) site (P x t V cd n f y t' V' cd' k g z) (Says01 (SameT n f k g)) [] 0 0 := by
  refine Law.of_walk (plainFor_of_name (by decide +kernel)) (by decide +kernel) (by decide +kernel) (by decide) (fun _ _ h => by rw [h.1]; rfl) (fun _ U U' hal hh h => ⟨h.1, h.2.1.mv hal hh, h.2.2.1.mv hal hh, h.2.2.2.1.there hal hh, h.2.2.2.2⟩) (fun r U U' V V' h1 hal h2 h => Says01.mv r U U' V V' h1 hal h2 h) ?_
  intro p e s m args below meth c s₁ X0 hexec hbytes hml hret hlk hnm hown hh0 W hP
  obtain ⟨rfl, hx, hy, s1, hz⟩ := hP
  have c1 : Steps p.tables e below (s₁.setTop (entryFrame m #[.ref x, .ref y] 3)) (s₁.setTop (mkF m 2 #[.val (.ref x), .val (.ref y), .unset] [.ref y, .ref x])) := Steps.trans (entry rfl) (by
    show Steps p.tables e below (s₁.setTop (mkF m 0 #[.val (.ref x), .val (.ref y), .unset] [])) _
    refine XS.aloadN X0.here hexec rfl (hb hbytes d0) rfl rfl ?_
    refine XS.aloadN X0.here hexec rfl (hb hbytes d1) rfl rfl ?_
    exact Steps.refl _)
  by_cases hxy : x = y
  · have c2 : Steps p.tables e below (s₁.setTop (entryFrame m #[.ref x, .ref y] 3)) (s₁.setTop (mkF m 6 #[.val (.ref x), .val (.ref y), .unset] [.int 1])) := c1.trans (by
      refine acmpNo X0.here hexec rfl (hb hbytes d2) rfl rfl rfl (by simp [acmp, hxy]) ?_
      refine iconstV X0.here hexec rfl 1 (hb hbytes d5) (by decide) ?_
      exact Steps.refl _)
    subst hxy
    have ec : cd = cd' := by
      obtain ⟨D, fd, a1, a2, a3⟩ := hx.2.2.1
      obtain ⟨D', fd', b1, b2, b3⟩ := hy.2.2.1
      cases a1.symm.trans b1
      obtain ⟨q1, q2, q3, q4⟩ := a2.1
      obtain ⟨r1, r2, r3, r4⟩ := b2.1
      cases q4.symm.trans r4
      cases a3.symm.trans b3; rfl
    have et : t = t' := by
      obtain ⟨D, fd, a1, a2, a3⟩ := hx.2.1
      obtain ⟨D', fd', b1, b2, b3⟩ := hy.2.1
      cases a1.symm.trans b1
      obtain ⟨q1, q2, q3, q4⟩ := a2.1
      obtain ⟨r1, r2, r3, r4⟩ := b2.1
      cases q4.symm.trans r4
      cases a3.symm.trans b3; rfl
    subst ec et
    have ev : V = V' := by cases hx.2.2.2.1.1.symm.trans hy.2.2.2.1.1; rfl
    subst ev
    have hs : SameT n f k g := (Cod.eqv hx.2.2.2.2.1 hy.2.2.2.2.1 hx.2.2.2.2.2 hy.2.2.2.2.2).mp ⟨rfl, fun _ _ => rfl⟩
    exact ⟨s₁, some (.int 1), _, _, _, X0, rfl, rfl, rfl, (fun h => by cases h), ⟨1, rfl, hh0, Or.inl ⟨rfl, hs⟩⟩, fun fs hl => c2.trans (X0.ireturnOut hexec hret rfl (Or.inr (Or.inl rfl)) (hb hbytes d6) hl)⟩
  · have c2 : Steps p.tables e below (s₁.setTop (entryFrame m #[.ref x, .ref y] 3)) (s₁.setTop (mkF m 8 #[.val (.ref x), .val (.ref y), .unset] [.ref y])) := c1.trans (by
      refine acmpYes X0.here hexec rfl (pc0 := 2) rfl (hb hbytes d2) rfl rfl rfl (by simp [acmp, hxy]) (by decide) rfl ?_
      refine XS.aloadN X0.here hexec rfl (hb hbytes d7) rfl rfl ?_
      exact Steps.refl _)
    obtain ⟨T3, X3, q3, st3⟩ := cinst X0 hexec hown (wk W (.classLink "java/lang/String" 10 "java/lang/String")) (hy.mv X0.warmed.alike hh0).1 (g := (mkF m 8 #[.val (.ref x), .val (.ref y), .unset] [.ref y])) rfl (rest := []) rfl (hb hbytes d8)
    have hh3 := q3.trans hh0
    have c4 : Steps p.tables e below (s₁.setTop (entryFrame m #[.ref x, .ref y] 3)) (T3.setTop (mkF m 15 #[.val (.ref x), .val (.ref y), .unset] [.ref y])) := (c2.trans (st3 _ (Steps.refl _))).trans (by
      refine XS.ifNo X3.here hexec rfl (hb hbytes d11) rfl (i0_eq_f (by decide)) ?_
      refine XS.aloadN X3.here hexec rfl (hb hbytes d14) rfl rfl ?_
      exact Steps.refl _)
    obtain ⟨T5, X5, q5, st5⟩ := cself X3 hexec hown (wk W (.classLink "java/lang/String" 10 "java/lang/String")) (hy.mv X3.warmed.alike hh3).1 (g := (mkF m 15 #[.val (.ref x), .val (.ref y), .unset] [.ref y])) rfl (rest := []) rfl (hb hbytes d15)
    have hh5 := q5.trans hh3
    have c6 : Steps p.tables e below (s₁.setTop (entryFrame m #[.ref x, .ref y] 3)) (T5.setTop (mkF m 19 #[.val (.ref x), .val (.ref y), .val (.ref y)] [])) := (c4.trans (st5 _ (Steps.refl _))).trans (by
      refine XS.astoreN X5.here hexec rfl (hb hbytes d18) rfl rfl rfl ?_
      exact Steps.refl _)
    obtain ⟨T7, X7, q7, st7⟩ := X5.sget hexec hown (wk W (.fieldLink "java/lang/String" 38 "java/lang/String" "COMPACT_STRINGS" "Z")) s1 (fun _ _ h => by rw [hh5]; exact h) (g := (mkF m 19 #[.val (.ref x), .val (.ref y), .val (.ref y)] [])) rfl (hb hbytes d19)
    have hh7 := q7.trans hh5
    have c8 : Steps p.tables e below (s₁.setTop (entryFrame m #[.ref x, .ref y] 3)) (T7.setTop (mkF m 26 #[.val (.ref x), .val (.ref y), .val (.ref y)] [.ref x])) := (c6.trans (st7 _ (Steps.refl _))).trans (by
      refine XS.ifNo X7.here hexec rfl (hb hbytes d22) rfl (i0_eq_f hz) ?_
      refine XS.aloadN X7.here hexec rfl (hb hbytes d25) rfl rfl ?_
      exact Steps.refl _)
    obtain ⟨T9, X9, q9, st9⟩ := X7.hget hexec hown (wk W (.fieldLink "java/lang/String" 15 "java/lang/String" "coder" "B")) (hx.mv X7.warmed.alike hh7).2.2.1 (g := (mkF m 26 #[.val (.ref x), .val (.ref y), .val (.ref y)] [.ref x])) rfl (rest := []) rfl (hb hbytes d26)
    have hh9 := q9.trans hh7
    have c10 : Steps p.tables e below (s₁.setTop (entryFrame m #[.ref x, .ref y] 3)) (T9.setTop (mkF m 30 #[.val (.ref x), .val (.ref y), .val (.ref y)] [.ref y, .int cd])) := (c8.trans (st9 _ (Steps.refl _))).trans (by
      refine XS.aloadN X9.here hexec rfl (hb hbytes d29) rfl rfl ?_
      exact Steps.refl _)
    obtain ⟨T11, X11, q11, st11⟩ := X9.hget hexec hown (wk W (.fieldLink "java/lang/String" 15 "java/lang/String" "coder" "B")) (hy.mv X9.warmed.alike hh9).2.2.1 (g := (mkF m 30 #[.val (.ref x), .val (.ref y), .val (.ref y)] [.ref y, .int cd])) rfl (rest := [.int cd]) rfl (hb hbytes d30)
    have hh11 := q11.trans hh9
    have c12 : Steps p.tables e below (s₁.setTop (entryFrame m #[.ref x, .ref y] 3)) (T11.setTop (mkF m 33 #[.val (.ref x), .val (.ref y), .val (.ref y)] [.int cd', .int cd])) := c10.trans (st11 _ (Steps.refl _))
    by_cases hcd : cd = cd'
    · subst hcd
      have c13 : Steps p.tables e below (s₁.setTop (entryFrame m #[.ref x, .ref y] 3)) (T11.setTop (mkF m 37 #[.val (.ref x), .val (.ref y), .val (.ref y)] [.ref x])) := c12.trans (by
        refine XS.icmpNo X11.here hexec rfl (hb hbytes d33) rfl (ii_ne_f rfl) ?_
        refine XS.aloadN X11.here hexec rfl (hb hbytes d36) rfl rfl ?_
        exact Steps.refl _)
      obtain ⟨T14, X14, q14, st14⟩ := X11.hget hexec hown (wk W (.fieldLink "java/lang/String" 9 "java/lang/String" "value" "[B")) (hx.mv X11.warmed.alike hh11).2.1 (g := (mkF m 37 #[.val (.ref x), .val (.ref y), .val (.ref y)] [.ref x])) rfl (rest := []) rfl (hb hbytes d37)
      have hh14 := q14.trans hh11
      have c15 : Steps p.tables e below (s₁.setTop (entryFrame m #[.ref x, .ref y] 3)) (T14.setTop (mkF m 41 #[.val (.ref x), .val (.ref y), .val (.ref y)] [.ref y, .ref t])) := (c13.trans (st14 _ (Steps.refl _))).trans (by
        refine XS.aloadN X14.here hexec rfl (hb hbytes d40) rfl rfl ?_
        exact Steps.refl _)
      obtain ⟨T16, X16, q16, st16⟩ := X14.hget hexec hown (wk W (.fieldLink "java/lang/String" 9 "java/lang/String" "value" "[B")) (hy.mv X14.warmed.alike hh14).2.1 (g := (mkF m 41 #[.val (.ref x), .val (.ref y), .val (.ref y)] [.ref y, .ref t])) rfl (rest := [.ref t]) rfl (hb hbytes d41)
      have hh16 := q16.trans hh14
      have c17 : Steps p.tables e below (s₁.setTop (entryFrame m #[.ref x, .ref y] 3)) (T16.setTop (mkF m 44 #[.val (.ref x), .val (.ref y), .val (.ref y)] [.ref t', .ref t])) := c15.trans (st16 _ (Steps.refl _))
      obtain ⟨v18, T18, X18, E18, g18⟩ := X16.callS hexec (LEq.law l t V t' V') hown (wks W (staticW "java/lang/String" 541 LEq.yN)) (wk W LEq.tab) (W := 0) (Nat.le_of_ble_eq_true rfl) (Nat.le_of_ble_eq_true rfl) (Nat.le_refl _) (Nat.le_refl _) (g := (mkF m 44 #[.val (.ref x), .val (.ref y), .val (.ref y)] [.ref t', .ref t])) rfl (by rw [hml]; rfl) c17 (argsL := [.ref t, .ref t']) (rest := []) rfl rfl (by show 2 * 0 + 0 ≤ _; decide) (hb hbytes d44) (⟨rfl, hx.2.2.2.1.mv X16.warmed.alike hh16, hx.2.2.2.2.1.ty, hy.2.2.2.1.mv X16.warmed.alike hh16, hy.2.2.2.2.1.ty⟩)
      obtain ⟨v, rfl, q18, hv⟩ := E18
      have iff := Cod.eqv hx.2.2.2.2.1 hy.2.2.2.2.1 hx.2.2.2.2.2 hy.2.2.2.2.2
      rcases hv with ⟨rfl, he⟩ | ⟨rfl, he⟩
      · have c19 : Steps p.tables e below (s₁.setTop (entryFrame m #[.ref x, .ref y] 3)) (T18.setTop (mkF m 55 #[.val (.ref x), .val (.ref y), .val (.ref y)] [.int 1])) := Steps.trans g18 (by
          refine XS.ifNo X18.here hexec rfl (hb hbytes d47) rfl (i0_eq_f (by decide)) ?_
          refine iconstV X18.here hexec rfl 1 (hb hbytes d50) (by decide) ?_
          refine XS.goto X18.here hexec rfl (pc0 := 51) rfl (hb hbytes d51) (by decide) rfl ?_
          exact Steps.refl _)
        exact ⟨T18, some (.int 1), _, _, _, X18, rfl, rfl, rfl, (fun h => by cases h), ⟨1, rfl, q18.trans hh16, Or.inl ⟨rfl, iff.mp he⟩⟩, fun fs hl => c19.trans (X18.ireturnOut hexec hret rfl (Or.inr (Or.inl rfl)) (hb hbytes d55) hl)⟩
      · have c19 : Steps p.tables e below (s₁.setTop (entryFrame m #[.ref x, .ref y] 3)) (T18.setTop (mkF m 55 #[.val (.ref x), .val (.ref y), .val (.ref y)] [.int 0])) := Steps.trans g18 (by
          refine XS.ifYes X18.here hexec rfl (pc0 := 47) rfl (hb hbytes d47) rfl (i0_eq_t rfl) (by decide) rfl ?_
          refine iconstV X18.here hexec rfl 0 (hb hbytes d54) (by decide) ?_
          exact Steps.refl _)
        exact ⟨T18, some (.int 0), _, _, _, X18, rfl, rfl, rfl, (fun h => by cases h), ⟨0, rfl, q18.trans hh16, Or.inr ⟨rfl, fun q => he (iff.mpr q)⟩⟩, fun fs hl => c19.trans (X18.ireturnOut hexec hret rfl (Or.inr (Or.inl rfl)) (hb hbytes d55) hl)⟩
    · have c13 : Steps p.tables e below (s₁.setTop (entryFrame m #[.ref x, .ref y] 3)) (T11.setTop (mkF m 55 #[.val (.ref x), .val (.ref y), .val (.ref y)] [.int 0])) := c12.trans (by
        refine XS.icmpYes X11.here hexec rfl (pc0 := 33) rfl (hb hbytes d33) rfl (ii_ne_t hcd) (by decide) rfl ?_
        refine iconstV X11.here hexec rfl 0 (hb hbytes d54) (by decide) ?_
        exact Steps.refl _)
      exact ⟨T11, some (.int 0), _, _, _, X11, rfl, rfl, rfl, (fun h => by cases h), ⟨0, rfl, hh11, Or.inr ⟨rfl, Cod.dif hx.2.2.2.2.1 hy.2.2.2.2.1 hcd⟩⟩, fun fs hl => c13.trans (X11.ireturnOut hexec hret rfl (Or.inr (Or.inl rfl)) (hb hbytes d55) hl)⟩
theorem pays {l : Launch} {R : Room} {p : Program} {e : Env} {below : List Frame} {s : State} {sargs : Array Value} {len W : Nat} (x t : Addr) (V : Cell) (cd : Int32) (n : Nat) (f : Nat → Int32) (y t' : Addr) (V' : Cell) (cd' : Int32) (k : Nat) (g : Nat → Int32) (z : Int32) (htab : tab.before sargs s = true) (hfr : 2 ≤ R.frames) (hlo : W + 28 ≤ R.locals) :
    Back l R p e below s sargs yN len W (fun A₁ a₁ => A₁.cells + 0 ≤ R.cells ∧ A₁.slots + 0 ≤ R.slots ∧ P x t V cd n f y t' V' cd' k g z a₁ A₁.U) (fun A₁ _ v₁ B₁ => Says01 (SameT n f k g) v₁ A₁.U B₁.U ∧ B₁.locs = A₁.locs ++ [] ∧ B₁.cells = A₁.cells + 0 ∧ B₁.slots = A₁.slots + 0) :=
  (law l x t V cd n f y t' V' cd' k g z).pays htab hfr (by omega)
end SEq
end StrChars
namespace StrChars.Road
open Jvm Sem ClassFile Op Lib Jvm.Stand Jvm.Free Jvm.Free.XT
open Jvm.Lib.Cold (StaticIs)
/-- the words of String.equals(Object) -/
abbrev wordsEq : List Jvm.Cond := [.code SEq.yN SEq.yB 3 (some .boolean), .initialized ST, .classLink ST 10 ST, .fieldLink ST 38 ST "COMPACT_STRINGS" "Z", .fieldLink ST 15 ST "coder" "B", .fieldLink ST 9 ST "value" "[B", .methodLink ST 541 LEq.yN, .static LEq.yN, .code LEq.yN LEq.yB 3 (some .boolean), .initialized "java/lang/StringLatin1"]
theorem tabEq_of {a : Array Value} {s : State} (h : ∀ w ∈ wordsEq, w.before a s = true) : SEq.tab.before a s = true := by
  have hl : LEq.tab.before a s = true := unparts (wk h (.code LEq.yN LEq.yB 3 (some .boolean))) (wks h (.initialized LEq.yN.cls :: LEq.site))
  have q := consq hl h
  exact unparts (wk q (.code SEq.yN SEq.yB 3 (some .boolean))) (wks q (.initialized SEq.yN.cls :: SEq.site))
theorem movedEq {Z s : State} {a0 args : Array Value} (hZ : Z.Warmed39 s.vm) (hw : ∀ d ∈ wordsEq, d.before a0 Z = true) : ∀ d ∈ wordsEq, d.before args s = true := fun d hd => by
  have t : ∀ d ∈ wordsEq, (d.onTables && d.keepsFace) = true := by decide +kernel
  exact RoadKit.mv hZ (hw d hd) (t d hd)
/-- the road's facts of a String, as the laws ask it -/
theorem txt_of {Z U : State} {a0 : Array Value} {kI : Nat} (wi : (Jvm.Cond.instantiable ST kI).before a0 Z = true) (al : Z.vm.Alike U.vm) {x t : Addr} {kb : ClassId} {cs : List Int32} {cd N2 : Int32} {vs : List Value} (E : RoadKit.Exa Z U.heap x ST) (V : RoadKit.Fld Z U.heap x ST "value" "[B" (.ref t)) (C : RoadKit.Fld Z U.heap x ST "coder" "B" (.int cd)) (K : RoadKit.Arv Z U.heap t kb .byte N2 vs (.int 0)) (hc : CodA cs cd N2 vs) (hb : ∀ c ∈ cs, ¬ c < 0 ∧ ¬ (65535 : Int32) < c) (l2 : cs.length ≤ 4000) :
    ∃ A, Txt x t A cd cs.length (fun j => cs.getD j 0) U := by
  obtain ⟨A, K1, K2, K3, K4, K5, K6⟩ := K
  have hcod := hc.cod (by omega) K3 K5
  obtain ⟨D, fV, fC, hB, F1, F2, g1, g2, -, -⟩ := strObj wi al E V C
  exact ⟨A, ⟨_, hB.2.2.1, D, hB.1, rfl, by cases q : D.vm <;> first | rfl | exact absurd q (hB.2.1.2 _)⟩, Has.of hB F1 g1, Has.of hB F2 g2, ⟨K1.1, State.isArrayOf_alike al K1.2.1, K1.2.2, by rcases hcod with ⟨-, q, -⟩ | ⟨-, q, -⟩ <;> omega⟩, hcod, fun j hj => by
    have e : cs.getD j 0 = cs[j] := by simp [List.getD_eq_getElem?_getD, hj]
    show ¬ cs.getD j 0 < 0 ∧ ¬ 65535 < cs.getD j 0
    rw [e]; exact hb _ (List.getElem_mem _)⟩
theorem same_list (cs ds : List Int32) : SameT cs.length (fun j => cs.getD j 0) ds.length (fun j => ds.getD j 0) ↔ cs = ds := by
  constructor
  · rintro ⟨e, q⟩
    refine List.ext_getElem e fun j h1 h2 => ?_
    have := q j h1
    simpa [List.getD_eq_getElem?_getD, h1, h2] using this
  · rintro rfl
    exact ⟨rfl, fun _ _ => rfl⟩
/-- **equals(Object) OF TWO SUCH STRINGS**: 1 just where the chars are the same -/
theorem eqW {p : Program} {l : Launch} {e : Env} {R : Room} {s : State} {args : Array Value} {below : List Frame} {len W : Nat} {Z : State} {a0 : Array Value} {h : Heap} (hZ : Z.Warmed39 s.vm) (hw : ∀ d ∈ wordsEq, d.before a0 Z = true) {kI : Nat} (wi : (Jvm.Cond.instantiable ST kI).before a0 Z = true)
    {x t : Addr} {kb : ClassId} {cs : List Int32} {cd N2 : Int32} {vs : List Value} (E : RoadKit.Exa Z h x ST) (V : RoadKit.Fld Z h x ST "value" "[B" (.ref t)) (C : RoadKit.Fld Z h x ST "coder" "B" (.int cd)) (K : RoadKit.Arv Z h t kb .byte N2 vs (.int 0)) (hc : CodA cs cd N2 vs) (hb : ∀ c ∈ cs, ¬ c < 0 ∧ ¬ (65535 : Int32) < c) (l2 : cs.length ≤ 4000)
    {y t' : Addr} {kb' : ClassId} {ds : List Int32} {cd' N2' : Int32} {vs' : List Value} (E' : RoadKit.Exa Z h y ST) (V' : RoadKit.Fld Z h y ST "value" "[B" (.ref t')) (C' : RoadKit.Fld Z h y ST "coder" "B" (.int cd')) (K' : RoadKit.Arv Z h t' kb' .byte N2' vs' (.int 0)) (hc' : CodA ds cd' N2' vs') (hb' : ∀ c ∈ ds, ¬ c < 0 ∧ ¬ (65535 : Int32) < c) (l2' : ds.length ≤ 4000)
    {z : Int32} (S : RoadKit.Sta Z h ST "COMPACT_STRINGS" "Z" (.int z)) (hz : ¬ z = 0) (hfr : 2 ≤ R.frames) (hlo : W + 28 ≤ R.locals) :
    Back l R p e below s args (⟨"java/lang/String", "equals", "(Ljava/lang/Object;)Z"⟩ : MethodName) len W (fun P a => a = #[.ref x, .ref y] ∧ P.U.heap = h ∧ P.cells + 0 ≤ R.cells ∧ P.slots + 0 ≤ R.slots)
      (fun P _ v B => ∃ L, (((v = some (.int 1) ∧ cs = ds) ∨ (v = some (.int 0) ∧ ¬ cs = ds)) ∧ L = [] ∧ B.U.heap = h) ∧ B.locs = P.locs ++ L ∧ B.cells = P.cells + 0 ∧ B.slots = P.slots + 0) := by
  intro m meth c P g ig mk a X hg hsize hdg hW hn hp'
  obtain ⟨rfl, rfl, r1, r2⟩ := hp'
  have al : Z.vm.Alike P.U.vm := hZ.alike.trans X.warmed.alike
  obtain ⟨A, hx⟩ := txt_of wi al E V C K hc hb l2
  obtain ⟨A', hy⟩ := txt_of wi al E' V' C' K' hc' hb' l2'
  obtain ⟨v, B, X', ⟨⟨w, hv, hh, hq⟩, hl, hk, hs⟩, st⟩ := SEq.pays x t A cd cs.length (fun j => cs.getD j 0) y t' A' cd' ds.length (fun j => ds.getD j 0) z (tabEq_of (movedEq hZ hw)) hfr hlo m meth c P g ig mk _ X hg hsize hdg hW hn ⟨r1, r2, rfl, hx, hy, sta_is al S, hz⟩
  refine ⟨v, B, X', ⟨[], ⟨?_, rfl, hh⟩, hl, hk, hs⟩, st⟩
  rcases hq with ⟨rfl, q⟩ | ⟨rfl, q⟩
  · exact Or.inl ⟨hv, (same_list cs ds).mp q⟩
  · exact Or.inr ⟨hv, fun e => q ((same_list cs ds).mpr e)⟩
end StrChars.Road
namespace StrChars
open Jvm Sem ClassFile Op Lib Jvm.Stand Jvm.Free.XT Jvm.Free.ALB Jvm.Free.JM Jvm.Free
open Jvm.Lib.Cold (StaticIs)
namespace ChN
def yN : MethodName := ⟨"java/lang/String", "charAt", "(I)C"⟩
abbrev yB : ByteArray := jdk_42_method_56_code
theorem d0 : decode yB 0 = .ok (.aload_n 0, 1) := by decide +kernel
theorem d1 : decode yB 1 = .ok (.invokevirtual 492, 3) := by decide +kernel
theorem d4 : decode yB 4 = .ok (.ifCond (.eq) 12, 3) := by decide +kernel
theorem d7 : decode yB 7 = .ok (.aload_n 0, 1) := by decide +kernel
theorem d8 : decode yB 8 = .ok (.getfield 9, 3) := by decide +kernel
theorem d11 : decode yB 11 = .ok (.iload_n 1, 1) := by decide +kernel
theorem d12 : decode yB 12 = .ok (.invokestatic 495, 3) := by decide +kernel
theorem d15 : decode yB 15 = .ok (.ireturn, 1) := by decide +kernel
def site : List Cond := [.fieldLink "java/lang/String" 9 "java/lang/String" "value" "[B", IsL.tab, LChA.tab] ++ virtW "java/lang/String" 492 "java/lang/String" IsL.yN IsL.yN ++ staticW "java/lang/String" 495 LChA.yN
def tab : Cond := tabOf yN yB 2 (some .char) site
def P (x t : Addr) (V : Cell) (n : Nat) (f : Nat → Int32) (z : Int32) (fm : Value) (i : Nat) (args : Array Value) (s : State) : Prop := args = #[.ref x, .int (Int32.ofNat i)] ∧ Txt x t V 0 n f s ∧ i < n ∧ StaticIs s "java/lang/String" "COMPACT_STRINGS" "Z" (.int z) ∧ ¬ z = 0 ∧ StaticIs s "jdk/internal/util/Preconditions" "SIOOBE_FORMATTER" "Ljava/util/function/BiFunction;" fm ∧ fm.isRef = true
def E (f : Nat → Int32) (i : Nat) (r : Option Value) (s u : State) : Prop := XT.PureE (some (.int (f i))) r s u
/-- charAt(i) of a Latin-1 String of n chars, i < n: f i -/
theorem law (l : Launch) (x t : Addr) (V : Cell) (n : Nat) (f : Nat → Int32) (z : Int32) (fm : Value) (i : Nat) : Law l yN 2 1 3 40 yB 2 (some .char) site (P x t V n f z fm i) (E f i) [] 0 0 := by
  refine Law.of_walk (plainFor_of_name (by decide +kernel)) (by decide +kernel) (by decide +kernel) (by decide) (fun _ _ h => by rw [h.1]; rfl) (fun _ U U' hal hh h => ⟨h.1, h.2.1.mv hal hh, h.2.2.1, h.2.2.2.1.there hal hh, h.2.2.2.2.1, h.2.2.2.2.2.1.there hal hh, h.2.2.2.2.2.2⟩) (fun r U U' V V' h1 hal h2 h => XT.PureE.mv r U U' V V' h1 hal h2 h) ?_
  intro p e s m args below meth c s₁ X0 hexec hbytes hml hret hlk hnm hown hh0 W hP
  obtain ⟨rfl, hx, hi, s1, hz, s3, rf⟩ := hP
  have v31 := hx.2.2.2.1.2.2.2
  have hr := hx.2.2.2.2.2 i hi
  have hx0 := hx.mv X0.warmed.alike hh0
  have c1 : Steps p.tables e below (s₁.setTop (entryFrame m #[.ref x, .int (Int32.ofNat i)] 2)) (s₁.setTop (mkF m 1 #[.val (.ref x), .val (.int (Int32.ofNat i))] [.ref x])) := Steps.trans (entry rfl) (by
    show Steps p.tables e below (s₁.setTop (mkF m 0 #[.val (.ref x), .val (.int (Int32.ofNat i))] [])) _
    refine XS.aloadN X0.here hexec rfl (hb hbytes d0) rfl rfl ?_
    exact Steps.refl _)
  obtain ⟨v2, T2, X2, E2, g2⟩ := X0.callV hexec (IsL.law l x 0 z) hown (wks W (virtW "java/lang/String" 492 "java/lang/String" IsL.yN IsL.yN)) rfl (by decide) (wk W IsL.tab) (W := 0) (Nat.le_of_ble_eq_true rfl) (Nat.le_of_ble_eq_true rfl) (Nat.le_refl _) (Nat.le_refl _) (hx0.1.fc X0.warmed.alike) hx0.1.is (g := (mkF m 1 #[.val (.ref x), .val (.int (Int32.ofNat i))] [.ref x])) rfl (by rw [hml]; rfl) c1 (argsL := []) (rest := []) rfl rfl (by show 2 * 0 + 0 ≤ _; decide) (hb hbytes d1) (⟨rfl, hx0.2.2.1, hx.2.2.2.2.1.cd, s1.there X0.warmed.alike hh0, hz⟩)
  obtain ⟨rfl, q2⟩ := E2
  have hh2 := q2.trans hh0
  have hx2 := hx.mv X2.warmed.alike hh2
  obtain ⟨-, k1, k2⟩ | ⟨k0, -⟩ := hx.2.2.2.2.1
  · have c3 : Steps p.tables e below (s₁.setTop (entryFrame m #[.ref x, .int (Int32.ofNat i)] 2)) (T2.setTop (mkF m 8 #[.val (.ref x), .val (.int (Int32.ofNat i))] [.ref x])) := Steps.trans g2 (by
      refine XS.ifNo X2.here hexec rfl (hb hbytes d4) rfl (i0_eq_f (by decide)) ?_
      refine XS.aloadN X2.here hexec rfl (hb hbytes d7) rfl rfl ?_
      exact Steps.refl _)
    obtain ⟨T4, X4, q4, st4⟩ := X2.hget hexec hown (wk W (.fieldLink "java/lang/String" 9 "java/lang/String" "value" "[B")) hx2.2.1 (g := (mkF m 8 #[.val (.ref x), .val (.int (Int32.ofNat i))] [.ref x])) rfl (rest := []) rfl (hb hbytes d8)
    have hh4 := q4.trans hh2
    have c5 : Steps p.tables e below (s₁.setTop (entryFrame m #[.ref x, .int (Int32.ofNat i)] 2)) (T4.setTop (mkF m 12 #[.val (.ref x), .val (.int (Int32.ofNat i))] [.int (Int32.ofNat i), .ref t])) := (c3.trans (st4 _ (Steps.refl _))).trans (by
      refine XS.iloadN X4.here hexec rfl (hb hbytes d11) rfl ?_
      exact Steps.refl _)
    obtain ⟨v6, T6, X6, E6, g6⟩ := X4.callS hexec (LChA.law l t V i (lo8 (f i)) fm) hown (wks W (staticW "java/lang/String" 495 LChA.yN)) (wk W LChA.tab) (W := 0) (Nat.le_of_ble_eq_true rfl) (Nat.le_of_ble_eq_true rfl) (Nat.le_refl _) (Nat.le_refl _) (g := (mkF m 12 #[.val (.ref x), .val (.int (Int32.ofNat i))] [.int (Int32.ofNat i), .ref t])) rfl (by rw [hml]; rfl) c5 (argsL := [.ref t, .int (Int32.ofNat i)]) (rest := []) rfl rfl (by show 2 * 0 + 0 ≤ _; decide) (hb hbytes d12) (⟨rfl, hx.2.2.2.1.mv X4.warmed.alike hh4, (k2 i hi).1, s3.there X4.warmed.alike hh4, rf⟩)
    obtain ⟨rfl, q6⟩ := E6
    rw [chr8_lo8 hr.1 (k2 i hi).2] at g6
    exact ⟨T6, some (.int (f i)), _, _, _, X6, rfl, rfl, rfl, (fun h => by cases h), ⟨rfl, q6.trans hh4⟩, fun fs hl => Steps.trans g6 (X6.ireturnOut hexec hret (narrow_ch hr.1 hr.2) (Or.inr (Or.inr (Or.inr (Or.inl rfl)))) (hb hbytes d15) hl)⟩
  · exact absurd k0 (by decide)
theorem pays {l : Launch} {R : Room} {p : Program} {e : Env} {below : List Frame} {s : State} {sargs : Array Value} {len W : Nat} (x t : Addr) (V : Cell) (n : Nat) (f : Nat → Int32) (z : Int32) (fm : Value) (i : Nat) (htab : tab.before sargs s = true) (hfr : 4 ≤ R.frames) (hlo : W + 53 ≤ R.locals) :
    Back l R p e below s sargs yN len W (fun A₁ a₁ => A₁.cells + 0 ≤ R.cells ∧ A₁.slots + 0 ≤ R.slots ∧ P x t V n f z fm i a₁ A₁.U) (fun A₁ _ v₁ B₁ => E f i v₁ A₁.U B₁.U ∧ B₁.locs = A₁.locs ++ [] ∧ B₁.cells = A₁.cells + 0 ∧ B₁.slots = A₁.slots + 0) :=
  (law l x t V n f z fm i).pays htab hfr (by omega)
end ChN
end StrChars
namespace StrChars.Road
open Jvm Sem ClassFile Op Lib Jvm.Stand Jvm.Free Jvm.Free.XT
open Jvm.Lib.Cold (StaticIs)
/-- the words of String.charAt(int), the Latin-1 road alone -/
abbrev wordsChN : List Jvm.Cond := [.code ChN.yN ChN.yB 2 (some .char), .initialized ST, .fieldLink ST 9 ST "value" "[B", .fieldLink ST 38 ST "COMPACT_STRINGS" "Z", .fieldLink ST 15 ST "coder" "B", .code IsL.yN IsL.yB 1 (some .boolean), .methodLink ST 492 IsL.yN, .declares IsL.yN, .selects ST IsL.yN IsL.yN, .instanceMethod IsL.yN,
  .methodLink ST 495 LChA.yN, .static LChA.yN, .code LChA.yN LChA.yB 2 (some .char), .initialized "java/lang/StringLatin1", .methodLink "java/lang/StringLatin1" 9 JO.Str_checkIndex.yN, .static JO.Str_checkIndex.yN, .code JO.Str_checkIndex.yN JO.Str_checkIndex.yB 2 none,
  .fieldLink ST 1053 "jdk/internal/util/Preconditions" "SIOOBE_FORMATTER" "Ljava/util/function/BiFunction;", .methodLink ST 1059 JC.PreCheck.yN, .static JC.PreCheck.yN, .code JC.PreCheck.yN JC.PreCheck.yB 3 (some .int), .initialized "jdk/internal/util/Preconditions"]
theorem tabChN_of {a : Array Value} {s : State} (h : ∀ w ∈ wordsChN, w.before a s = true) : ChN.tab.before a s = true := by
  have hp : JC.PreCheck.tab.before a s = true := unparts (wk h (.code JC.PreCheck.yN JC.PreCheck.yB 3 (some .int))) (wks h (.initialized JC.PreCheck.yN.cls :: JC.PreCheck.site))
  have qk := consq hp h
  have hk : JO.Str_checkIndex.tab.before a s = true := unparts (wk qk (.code JO.Str_checkIndex.yN JO.Str_checkIndex.yB 2 none)) (wks qk (.initialized JO.Str_checkIndex.yN.cls :: JO.Str_checkIndex.site))
  have ql := consq hk h
  have hl : LChA.tab.before a s = true := unparts (wk ql (.code LChA.yN LChA.yB 2 (some .char))) (wks ql (.initialized LChA.yN.cls :: LChA.site))
  have hi : IsL.tab.before a s = true := unparts (wk h (.code IsL.yN IsL.yB 1 (some .boolean))) (wks h (.initialized IsL.yN.cls :: IsL.site))
  have q := consq hi (consq hl h)
  exact unparts (wk q (.code ChN.yN ChN.yB 2 (some .char))) (wks q (.initialized ChN.yN.cls :: ChN.site))
theorem movedChN {Z s : State} {a0 args : Array Value} (hZ : Z.Warmed39 s.vm) (hw : ∀ d ∈ wordsChN, d.before a0 Z = true) : ∀ d ∈ wordsChN, d.before args s = true := fun d hd => by
  have t : ∀ d ∈ wordsChN, (d.onTables && d.keepsFace) = true := by decide +kernel
  exact RoadKit.mv hZ (hw d hd) (t d hd)
/-- **charAt(i) OF A LATIN-1 STRING**, i < n: the char -/
theorem chN {p : Program} {l : Launch} {e : Env} {R : Room} {s : State} {args : Array Value} {below : List Frame} {len W : Nat} {Z : State} {a0 : Array Value} {h : Heap} (hZ : Z.Warmed39 s.vm) (hw : ∀ d ∈ wordsChN, d.before a0 Z = true) {kI : Nat} (wi : (Jvm.Cond.instantiable ST kI).before a0 Z = true)
    {x t : Addr} {kb : ClassId} {cs : List Int32} {N2 z : Int32} {vs : List Value} {fm : Value} {i : Nat} {j : Int32} (E : RoadKit.Exa Z h x ST) (V : RoadKit.Fld Z h x ST "value" "[B" (.ref t)) (C : RoadKit.Fld Z h x ST "coder" "B" (.int 0)) (K : RoadKit.Arv Z h t kb .byte N2 vs (.int 0)) (hc : CodA cs 0 N2 vs) (hb : ∀ c ∈ cs, ¬ c < 0 ∧ ¬ (65535 : Int32) < c)
    (S : RoadKit.Sta Z h ST "COMPACT_STRINGS" "Z" (.int z)) (hz : ¬ z = 0) (F : RoadKit.Sta Z h "jdk/internal/util/Preconditions" "SIOOBE_FORMATTER" "Ljava/util/function/BiFunction;" fm) (rf : fm.isRef = true) (l2 : cs.length ≤ 4000) (hi : i < cs.length) (hj : j = Int32.ofNat i) (hfr : 4 ≤ R.frames) (hlo : W + 53 ≤ R.locals) :
    Back l R p e below s args (⟨"java/lang/String", "charAt", "(I)C"⟩ : MethodName) len W (fun P a => a = #[.ref x, .int j] ∧ P.U.heap = h ∧ P.cells + 0 ≤ R.cells ∧ P.slots + 0 ≤ R.slots)
      (fun P _ v B => ∃ L, (v = some (.int (cs.getD i 0)) ∧ L = [] ∧ B.U.heap = h) ∧ B.locs = P.locs ++ L ∧ B.cells = P.cells + 0 ∧ B.slots = P.slots + 0) := by
  subst hj
  intro m meth c P g ig mk a X hg hsize hdg hW hn hp'
  obtain ⟨rfl, rfl, r1, r2⟩ := hp'
  have al : Z.vm.Alike P.U.vm := hZ.alike.trans X.warmed.alike
  obtain ⟨A, hx⟩ := txt_of wi al E V C K hc hb l2
  obtain ⟨v, B, X', ⟨⟨hv, hh⟩, hl, hk, hs⟩, st⟩ := ChN.pays x t A cs.length (fun j => cs.getD j 0) z fm i (tabChN_of (movedChN hZ hw)) hfr hlo m meth c P g ig mk _ X hg hsize hdg hW hn ⟨r1, r2, rfl, hx, hi, sta_is al S, hz, sta_is al F, rf⟩
  exact ⟨v, B, X', ⟨[], ⟨hv, rfl, hh⟩, hl, hk, hs⟩, st⟩
/-- what backV says of its String, as the contracts of this text ask it: cs's low bytes, coder 0 -/
theorem codOf {cs : List Int32} {n : Nat} (hn : cs.length = n) (hb : ∀ c ∈ cs, ¬ 255 < c) : CodA cs 0 (Int32.ofNat n) ((cs.map lo8).map Value.int) := Or.inl ⟨rfl, by rw [hn], by simp [List.map_map, Function.comp_def], hb⟩
end StrChars.Road
end Jvm.Pilot.@@N@@

namespace Jvm.Pilot.@@N@@
open Jvm Jvm.ClassFile Sem Op Lib Jvm.Free Jvm.Stand Jvm.LawKit Jvm.RoadKit Bundle Jvm.Pilot.@@N@@.Jvm.D
def own_EL : List (String × Nat) := consts_1
theorem own_wS {a0 : Array Value} {Z : State} (hw : ∀ d ∈ tables_1, d.before a0 Z = true) : ∀ a ∈ Bundle.stringAtoms, a.before a0 Z = true := by
  intro a ha
  simp only [Bundle.stringAtoms, List.mem_cons, List.not_mem_nil, or_false] at ha
  rcases ha with rfl | rfl | rfl | rfl | rfl | rfl | rfl
  · exact hw _ (List.mem_of_getElem? (i := 1) rfl)
  · exact hw _ (List.mem_of_getElem? (i := 2) rfl)
  · exact hw _ (List.mem_of_getElem? (i := 3) rfl)
  · exact hw _ (List.mem_of_getElem? (i := 4) rfl)
  · exact hw _ (List.mem_of_getElem? (i := 5) rfl)
  · exact hw _ (List.mem_of_getElem? (i := 6) rfl)
  · exact hw _ (List.mem_of_getElem? (i := 7) rfl)
def own_AS : List Int32 := ([(65 : Int32), (70 : Int32), (84 : Int32), (69 : Int32), (82 : Int32), (95 : Int32), (83 : Int32), (89 : Int32), (78 : Int32), (67 : Int32)] : List Int32)
theorem own_ASc : StrChars.Road.CodA own_AS 0 (10 : Int32) (([(65 : Int32), (70 : Int32), (84 : Int32), (69 : Int32), (82 : Int32), (95 : Int32), (83 : Int32), (89 : Int32), (78 : Int32), (67 : Int32)] : List Int32).map Value.int) := Or.inl ⟨rfl, rfl, rfl, by decide⟩
theorem own_ASb : ∀ c ∈ own_AS, ¬ c < 0 ∧ ¬ (65535 : Int32) < c := by decide
theorem own_m4 (f : Int32) : (own_ushr f (2 : Int32)) &&& (3 : Int32) = 0 ∨ (own_ushr f (2 : Int32)) &&& (3 : Int32) = 1 ∨ (own_ushr f (2 : Int32)) &&& (3 : Int32) = 2 ∨ (own_ushr f (2 : Int32)) &&& (3 : Int32) = 3 := by
  have e := c_mask (own_ushr f (2 : Int32)) 3 2 (by decide) (by decide)
  have a0 : (0 : Int32).toInt = 0 := rfl
  have a1 : (1 : Int32).toInt = 1 := rfl
  have a2 : (2 : Int32).toInt = 2 := rfl
  have a3 : (3 : Int32).toInt = 3 := rfl
  simp only [← Int32.toInt_inj, a0, a1, a2, a3]
  omega
def own_ch (x : Int32) : Int32 := (x &&& (255 : Int32)).toUInt32.toUInt16.toUInt32.toInt32
theorem own_chT (x : Int32) : (own_ch x).toInt = x.toInt % 256 := by
  have a := c_mask x 255 8 (by decide) (by decide)
  have b := c_i2c (x &&& (255 : Int32))
  unfold own_ch; omega
theorem own_chN (x : Int32) : nar .char (own_ch x) = own_ch x := by
  show (own_ch x).toUInt32.toUInt16.toUInt32.toInt32 = own_ch x
  apply Int32.toInt_inj.mp
  have a := own_chT x; have b := c_i2c (own_ch x)
  omega
theorem own_ch255 (x : Int32) : ¬ (nar .char (own_ch x)) < 0 ∧ ¬ (255 : Int32) < nar .char (own_ch x) := by
  rw [own_chN, Int32.lt_iff_toInt_lt, Int32.lt_iff_toInt_lt, own_chT, show (0 : Int32).toInt = 0 from rfl, show (255 : Int32).toInt = 255 from rfl]
  omega
theorem own_ix (p : Int32) : ¬ ((p &&& (2147483647 : Int32)) % (10 : Int32)) < 0 ∧ ((p &&& (2147483647 : Int32)) % (10 : Int32)).toNatClampNeg < 10 := by
  have e1 := c_mask p 2147483647 31 (by decide) (by decide)
  have e2 := (c_irem (p &&& (2147483647 : Int32)) 10 10 rfl).1 (by omega)
  rw [Int32.lt_iff_toInt_lt, Int32.toNatClampNeg, show (0 : Int32).toInt = 0 from rfl]
  omega
theorem own_setall {P : Int32 → Prop} {L : List Int32} {i : Nat} {v : Int32} (h : ∀ x ∈ L, P x) (hv : P v) : ∀ x ∈ L.set i v, P x := fun x hx => (List.mem_or_eq_of_mem_set hx).elim (h x) (fun e => e ▸ hv)
theorem own_set1 (L : List Int32) (i : Nat) (c : Int32) (hi : i < L.length) : (L = L.set i c) ↔ (c = L.getD i 0) := by
  constructor
  · intro h
    have q := congrArg (fun z : List Int32 => z.getD i 0) h
    simp only [List.getD_eq_getElem?_getD] at q ⊢
    rw [q]; simp [hi]
  · intro h
    have e : L.getD i 0 = L[i] := by simp [List.getD_eq_getElem?_getD, hi]
    rw [h, e, List.set_getElem_self]
theorem own_full : own_AS = [(nar .char (65 : Int32)), (nar .char (70 : Int32)), (nar .char (84 : Int32)), (nar .char (69 : Int32)), (nar .char (82 : Int32)), (nar .char (95 : Int32)), (nar .char (83 : Int32)), (nar .char (89 : Int32)), (nar .char (78 : Int32)), (nar .char (67 : Int32))] := by decide
theorem own_pset (p2 p3 : Int32) : (own_AS = ([(nar .char (65 : Int32)), (nar .char (70 : Int32)), (nar .char (84 : Int32)), (nar .char (69 : Int32)), (nar .char (82 : Int32)), (nar .char (95 : Int32)), (nar .char (83 : Int32)), (nar .char (89 : Int32)), (nar .char (78 : Int32)), (nar .char (67 : Int32))].set ((p2 &&& (2147483647 : Int32)) % (10 : Int32)).toNatClampNeg (nar .char (own_ch p3)))) ↔ (own_ch p3 = own_AS.getD ((p2 &&& (2147483647 : Int32)) % (10 : Int32)).toNatClampNeg 0) := by
  rw [← own_full, own_chN]; exact own_set1 own_AS _ _ (own_ix p2).2
theorem own_11 (p3 : Int32) : ¬ own_AS = [(nar .char (65 : Int32)), (nar .char (70 : Int32)), (nar .char (84 : Int32)), (nar .char (69 : Int32)), (nar .char (82 : Int32)), (nar .char (95 : Int32)), (nar .char (83 : Int32)), (nar .char (89 : Int32)), (nar .char (78 : Int32)), (nar .char (67 : Int32)), (nar .char (own_ch p3))] := fun h => absurd (show (10 : Nat) = 11 from congrArg List.length h) (by decide)
theorem own_9 : ¬ own_AS = [(nar .char (65 : Int32)), (nar .char (70 : Int32)), (nar .char (84 : Int32)), (nar .char (69 : Int32)), (nar .char (82 : Int32)), (nar .char (95 : Int32)), (nar .char (83 : Int32)), (nar .char (89 : Int32)), (nar .char (78 : Int32))] := by decide
theorem own_le255 {c : Int32} (h : ¬ (255 : Int32) < c) : ¬ (65535 : Int32) < c := by
  rw [Int32.lt_iff_toInt_lt] at *
  have a : (255 : Int32).toInt = 255 := rfl
  have b : (65535 : Int32).toInt = 65535 := rfl
  omega
theorem own_pi01 (P : Prop) [Decidable P] : own_pi P = 0 ∨ own_pi P = 1 := by unfold own_pi; split <;> simp
theorem own_fin0 {A B D : Prop} [Decidable A] [Decidable B] : (¬ (own_pi A = (0 : Int32)) ∧ False ∧ ¬ (own_pi B = (0 : Int32)) ∧ D) ↔ (A ∧ B ∧ False ∧ D) := by simp
theorem own_finF {A B D E : Prop} [Decidable A] [Decidable B] (h : ¬ E) : (¬ (own_pi A = (0 : Int32)) ∧ E ∧ ¬ (own_pi B = (0 : Int32)) ∧ D) ↔ (A ∧ B ∧ False ∧ D) := by simp [h]
theorem own_finT {A B D E : Prop} [Decidable A] [Decidable B] (h : E) : (¬ (own_pi A = (0 : Int32)) ∧ E ∧ ¬ (own_pi B = (0 : Int32)) ∧ D) ↔ (A ∧ B ∧ True ∧ D) := by rw [own_piN, own_piN]; simp [h]
theorem own_finP {A B D E F : Prop} [Decidable A] [Decidable B] (h : E ↔ F) : (¬ (own_pi A = (0 : Int32)) ∧ E ∧ ¬ (own_pi B = (0 : Int32)) ∧ D) ↔ (A ∧ B ∧ F ∧ D) := by rw [own_piN, own_piN, h]; exact ⟨fun ⟨a, b, c, d⟩ => ⟨a, c, b, d⟩, fun ⟨a, b, c, d⟩ => ⟨a, c, b, d⟩⟩
theorem pd_0 : parseMethodDescriptor "()V" = some ⟨[], none⟩ := by decide +kernel
theorem pd_1 : parseMethodDescriptor "(Ljava/lang/Object;)Z" = some ⟨[(.object "java/lang/Object")], some .boolean⟩ := by decide +kernel
theorem pd_2 : parseMethodDescriptor "([C)V" = some ⟨[(.array .char)], none⟩ := by decide +kernel
theorem pd_3 : parseMethodDescriptor "(I)C" = some ⟨[.int], some .char⟩ := by decide +kernel
theorem pd_4 : parseMethodDescriptor "(ZLjava/lang/String;ZJ)V" = some ⟨[.boolean, (.object "java/lang/String"), .boolean, .long], none⟩ := by decide +kernel
theorem pd_5 : parseMethodDescriptor "()Z" = some ⟨[], some .boolean⟩ := by decide +kernel
theorem d13_0 : decode jdk_30_method_1_code 0 = .ok (.aload_n 0, 1) := by decide +kernel
theorem d13_1 : decode jdk_30_method_1_code 1 = .ok (.invokespecial 1, 3) := by decide +kernel
theorem d13_4 : decode jdk_30_method_1_code 4 = .ok (.return_, 1) := by decide +kernel
theorem pn_13 : plainName "java/lang/Record" = true := by first | (simp [plainName, overriddenIn]; done) | decide +kernel
theorem ef_13 (m : MethodId) (a1 : Addr) : entryFrame m #[(.ref a1)] 1 = mkF m 0 #[.val (.ref a1)] [] := by first | (simp [entryFrame, mkF, argsToLocals, Value.category]; done) | rfl
def Q13 (Z : State) (a1 : Addr) (h0 : Heap) (n0 : Nat) (v : Option Value) (h : Heap) (L : List Loc) : Prop := v = none ∧ Fr n0 L ∧ h = h0
set_option maxRecDepth 65536 in
set_option maxHeartbeats 40000000 in
theorem rm13 (l : Launch) (Z : State) (a0 : Array Value) (hw : ∀ d ∈ tables_1, d.before a0 Z = true) (ws : List Jvm.Cond) (a1 : Addr) (h0 : Heap) (n0 : Nat) (Z0 : n0 ≤ h0.size)  :
    MetFree l (⟨"java/lang/Record", "<init>", "()V"⟩ : MethodName) (head1 (Jvm.Cond.code (⟨"java/lang/Record", "<init>", "()V"⟩ : MethodName) jdk_30_method_1_code 1 none :: ws) ({ frames := 1, cells := 0, slots := 0, locals := 12 } : Room)) (fun a U => a = #[(.ref a1)] ∧ Z.Warmed39 U.vm ∧ U.heap = h0) (fun _ _ _ _ _ => True) (fun _ U o U' => ∃ v L, o = .returned v ∧ Q13 Z a1 h0 n0 v U'.heap L ∧ FrameEnd U o U' L ({ frames := 1, cells := 0, slots := 0, locals := 12 } : Room).cells ({ frames := 1, cells := 0, slots := 0, locals := 12 } : Room).slots) := by
  refine MetFree.of_bodySF (plainFor_of_name pn_13) hisR ?_
  intro p e s m args below meth c s₁ Bd hml0 hP hK
  obtain ⟨rfl, hZ, hh⟩ := hP
  have hx := Bd.exec
  have hby := Bd.bytes
  have hlk : meth.locks = false := BodyLoose.notSynchronized Bd
  have hml : c.maxLocals = 1 := hml0
  have hown : s.vm.findClass "java/lang/Record" = some m.cls := findClass_of_methodNamed Bd.named
  have hnm := (name_of_methodNamed Bd.named Bd.method).1
  have X0 : Stand p l e ({ frames := 1, cells := 0, slots := 0, locals := 12 } : Room) s m #[(.ref a1)] below meth c s₁ [] 0 0 := Stand.of_body Bd
  have e0 : s₁.heap = h0 := by rw [← hh, Bd.state]; rfl
  have N0 := Fr.nil n0
  show Gl p.tables e below (fun (o : Outcome) (U' : State) => ∃ v L, o = .returned v ∧ Q13 Z a1 h0 n0 v U'.heap L ∧ FrameEnd s o U' L ({ frames := 1, cells := 0, slots := 0, locals := 12 } : Room).cells ({ frames := 1, cells := 0, slots := 0, locals := 12 } : Room).slots) _
  refine Gl.pre (fun t k => castTop (ef_13 m a1) k) ?_
  obtain ⟨PP, hPP⟩ : ∃ P : Outcome → State → Prop, P = (fun (o : Outcome) (U' : State) => ∃ v L, o = .returned v ∧ Q13 Z a1 h0 n0 v U'.heap L ∧ FrameEnd s o U' L ({ frames := 1, cells := 0, slots := 0, locals := 12 } : Room).cells ({ frames := 1, cells := 0, slots := 0, locals := 12 } : Room).slots) := ⟨_, rfl⟩
  rw [← hPP]
  show Gl p.tables e below PP (s₁.setTop (mkF m 0 #[.val (.ref a1)] []))
  refine Gl.pre (fun _ k => XS.aloadN X0.here hx rfl (hb hby d13_0) rfl rfl k) ?_
  obtain ⟨T1, X1, e1, st1⟩ := initO X0 hx hZ hown (hw _ (List.mem_of_getElem? (i := 67) rfl)) (hw _ (List.mem_of_getElem? (i := 19) rfl)) (hw _ (List.mem_of_getElem? (i := 20) rfl)) e0 (g := (mkF m 1 #[.val (.ref a1)] [(.ref a1)])) rfl (by rw [hml]; rfl) rfl (hb hby d13_1) (by decide) (W := 0) (by show 2 * 0 + _ ≤ _; exact Nat.le_of_eq rfl) (by decide)
  refine Gl.pre (fun _ k => st1 _ k) ?_
  rw [hPP]
  refine own_finV (Q := (Q13 Z a1 h0 n0)) X1 hx hlk Bd.returns (hb hby d13_4) ?_ (by decide) (by decide)
  show Q13 Z a1 h0 n0 _ T1.heap _
  rw [e1]
  exact ⟨rfl, N0, rfl⟩
theorem d12_0 : decode prog_51_method_1_code 0 = .ok (.aload_n 0, 1) := by decide +kernel
theorem d12_1 : decode prog_51_method_1_code 1 = .ok (.invokespecial 1, 3) := by decide +kernel
theorem d12_4 : decode prog_51_method_1_code 4 = .ok (.aload_n 0, 1) := by decide +kernel
theorem d12_5 : decode prog_51_method_1_code 5 = .ok (.iload_n 1, 1) := by decide +kernel
theorem d12_6 : decode prog_51_method_1_code 6 = .ok (.putfield 7, 3) := by decide +kernel
theorem d12_9 : decode prog_51_method_1_code 9 = .ok (.aload_n 0, 1) := by decide +kernel
theorem d12_10 : decode prog_51_method_1_code 10 = .ok (.aload_n 2, 1) := by decide +kernel
theorem d12_11 : decode prog_51_method_1_code 11 = .ok (.putfield 13, 3) := by decide +kernel
theorem d12_14 : decode prog_51_method_1_code 14 = .ok (.aload_n 0, 1) := by decide +kernel
theorem d12_15 : decode prog_51_method_1_code 15 = .ok (.iload_n 3, 1) := by decide +kernel
theorem d12_16 : decode prog_51_method_1_code 16 = .ok (.putfield 17, 3) := by decide +kernel
theorem d12_19 : decode prog_51_method_1_code 19 = .ok (.aload_n 0, 1) := by decide +kernel
theorem d12_20 : decode prog_51_method_1_code 20 = .ok (.lload 4, 2) := by decide +kernel
theorem d12_22 : decode prog_51_method_1_code 22 = .ok (.putfield 20, 3) := by decide +kernel
theorem d12_25 : decode prog_51_method_1_code 25 = .ok (.return_, 1) := by decide +kernel
theorem pn_12 : plainName "com/example/anchorwatch/anchorwatch/model/SemiSync" = true := by first | (simp [plainName, overriddenIn]; done) | decide +kernel
theorem ef_ssN (m : MethodId) (a1 : Addr) (en : Int32) (ac : Int32) (q : Int64) : entryFrame m #[(.ref a1), (.int en), .null, (.int ac), (.long q)] 6 = mkF m 0 #[.val (.ref a1), .val (.int en), .val .null, .val (.int ac), .val (.long q), .second] [] := by first | (simp [entryFrame, mkF, argsToLocals, Value.category]; done) | rfl
def QssN (Z : State) (a1 : Addr) (en : Int32) (ac : Int32) (q : Int64) (h0 : Heap) (n0 : Nat) (v : Option Value) (h : Heap) (L : List Loc) : Prop := v = none ∧ Fr n0 L ∧ Keep h0 h [a1] ∧ Fld Z h a1 "com/example/anchorwatch/anchorwatch/model/SemiSync" "enabled" "Z" (.int en) ∧ Fld Z h a1 "com/example/anchorwatch/anchorwatch/model/SemiSync" "waitPoint" "Ljava/lang/String;" .null ∧ Fld Z h a1 "com/example/anchorwatch/anchorwatch/model/SemiSync" "active" "Z" (.int ac) ∧ Fld Z h a1 "com/example/anchorwatch/anchorwatch/model/SemiSync" "clients" "J" (.long q)
set_option maxRecDepth 65536 in
set_option maxHeartbeats 40000000 in
theorem rmssN (l : Launch) (Z : State) (a0 : Array Value) (hw : ∀ d ∈ tables_1, d.before a0 Z = true) (ws : List Jvm.Cond) (a1 : Addr) (en : Int32) (ac : Int32) (q : Int64) (h0 : Heap) (n0 : Nat) (Z0 : n0 ≤ h0.size) (E_a1 : Exa Z h0 a1 "com/example/anchorwatch/anchorwatch/model/SemiSync") (F_enabled_a1 : Fld Z h0 a1 "com/example/anchorwatch/anchorwatch/model/SemiSync" "enabled" "Z" (.int (0 : Int32))) (F_waitPoint_a1 : Fld Z h0 a1 "com/example/anchorwatch/anchorwatch/model/SemiSync" "waitPoint" "Ljava/lang/String;" .null) (F_active_a1 : Fld Z h0 a1 "com/example/anchorwatch/anchorwatch/model/SemiSync" "active" "Z" (.int (0 : Int32))) (F_clients_a1 : Fld Z h0 a1 "com/example/anchorwatch/anchorwatch/model/SemiSync" "clients" "J" (.long (0 : Int64))) (g_a1 : n0 ≤ a1) (hen : en = 0 ∨ en = 1) (hac : ac = 0 ∨ ac = 1) :
    MetFree l (⟨"com/example/anchorwatch/anchorwatch/model/SemiSync", "<init>", "(ZLjava/lang/String;ZJ)V"⟩ : MethodName) (head1 (Jvm.Cond.code (⟨"com/example/anchorwatch/anchorwatch/model/SemiSync", "<init>", "(ZLjava/lang/String;ZJ)V"⟩ : MethodName) prog_51_method_1_code 6 none :: ws) ({ frames := 2, cells := 0, slots := 0, locals := 24 } : Room)) (fun a U => a = #[(.ref a1), (.int en), .null, (.int ac), (.long q)] ∧ Z.Warmed39 U.vm ∧ U.heap = h0) (fun _ _ _ _ _ => True) (fun _ U o U' => ∃ v L, o = .returned v ∧ QssN Z a1 en ac q h0 n0 v U'.heap L ∧ FrameEnd U o U' L ({ frames := 2, cells := 0, slots := 0, locals := 24 } : Room).cells ({ frames := 2, cells := 0, slots := 0, locals := 24 } : Room).slots) := by
  refine MetFree.of_bodySF (plainFor_of_name pn_12) hisR ?_
  intro p e s m args below meth c s₁ Bd hml0 hP hK
  obtain ⟨rfl, hZ, hh⟩ := hP
  have hx := Bd.exec
  have hby := Bd.bytes
  have hlk : meth.locks = false := BodyLoose.notSynchronized Bd
  have hml : c.maxLocals = 6 := hml0
  have hown : s.vm.findClass "com/example/anchorwatch/anchorwatch/model/SemiSync" = some m.cls := findClass_of_methodNamed Bd.named
  have hnm := (name_of_methodNamed Bd.named Bd.method).1
  have X0 : Stand p l e ({ frames := 2, cells := 0, slots := 0, locals := 24 } : Room) s m #[(.ref a1), (.int en), .null, (.int ac), (.long q)] below meth c s₁ [] 0 0 := Stand.of_body Bd
  have e0 : s₁.heap = h0 := by rw [← hh, Bd.state]; rfl
  have N0 := Fr.nil n0
  show Gl p.tables e below (fun (o : Outcome) (U' : State) => ∃ v L, o = .returned v ∧ QssN Z a1 en ac q h0 n0 v U'.heap L ∧ FrameEnd s o U' L ({ frames := 2, cells := 0, slots := 0, locals := 24 } : Room).cells ({ frames := 2, cells := 0, slots := 0, locals := 24 } : Room).slots) _
  refine Gl.pre (fun t k => castTop (ef_ssN m a1 en ac q) k) ?_
  obtain ⟨PP, hPP⟩ : ∃ P : Outcome → State → Prop, P = (fun (o : Outcome) (U' : State) => ∃ v L, o = .returned v ∧ QssN Z a1 en ac q h0 n0 v U'.heap L ∧ FrameEnd s o U' L ({ frames := 2, cells := 0, slots := 0, locals := 24 } : Room).cells ({ frames := 2, cells := 0, slots := 0, locals := 24 } : Room).slots) := ⟨_, rfl⟩
  rw [← hPP]
  have K0 : Keep h0 h0 [a1] := Keep.refl h0 _
  show Gl p.tables e below PP (s₁.setTop (mkF m 0 #[.val (.ref a1), .val (.int en), .val .null, .val (.int ac), .val (.long q), .second] []))
  refine Gl.pre (fun _ k => XS.aloadN X0.here hx rfl (hb hby d12_0) rfl rfl k) ?_
  obtain ⟨_, _, ⟨T1, L1, k1, n1⟩, -, X1, ⟨Lc1, hQ1, l1, y1, z1⟩, st1⟩ := X0.specialBack hx (y := (⟨"java/lang/Record", "<init>", "()V"⟩ : MethodName)) rfl hown (mvT hZ (hw _ (List.mem_of_getElem? (i := 62) rfl))) (mvT hZ (hw _ (List.mem_of_getElem? (i := 63) rfl))) (mvT hZ (hw _ (List.mem_of_getElem? (i := 66) rfl))) (by decide) (backOf (W := 0) (rm13 l Z a0 hw [] a1 h0 n0 Z0 ) hZ (hw _ (List.mem_of_getElem? (i := 66) rfl)) (hw _ (List.mem_of_getElem? (i := 65) rfl)) (by decide) (by decide)) (g := (mkF m 1 #[.val (.ref a1), .val (.int en), .val .null, .val (.int ac), .val (.long q), .second] [(.ref a1)])) rfl (by rw [hml]; rfl) (Steps.refl _) (a := a1) (argsL := []) (rest := []) (lenOf pd_0 rfl) rfl (by show 2 * 0 + _ ≤ _; exact Nat.le_of_eq rfl) (hb hby d12_1) (fun _ _ => ⟨rfl, e0, (by decide : 0 + 0 ≤ _), (by decide : 0 + 0 ≤ _)⟩)
  dsimp only [Pt.U, Pt.locs, Pt.cells, Pt.slots] at X1 l1 y1 z1 st1 hQ1
  subst l1 y1 z1
  obtain ⟨rfl, N1q, e1⟩ := hQ1
  have N1 := Fr.app N0 N1q
  refine Gl.pre (fun _ k => st1.trans k) ?_
  refine Gl.pre (fun _ k => XS.aloadN X1.here hx rfl (hb hby d12_4) rfl rfl k) ?_
  show Gl p.tables e below PP (T1.setTop (mkF m 5 #[.val (.ref a1), .val (.int en), .val .null, .val (.int ac), .val (.long q), .second] [(.ref a1)]))
  refine Gl.pre (fun _ k => XS.iloadN X1.here hx rfl (hb hby d12_5) rfl k) ?_
  obtain ⟨T2, h2, X2, e2, W2, st2⟩ := putFN X1 hx hZ hown (hw _ (List.mem_of_getElem? (i := 68) rfl)) Via.refl e1 F_enabled_a1 E_a1 (Or.inr ⟨(hw _ (List.mem_of_getElem? (i := 69) rfl)), rfl, hnm⟩) (hw _ (List.mem_of_getElem? (i := 57) rfl)) (ty := .boolean) (v' := (.int en)) (by decide) (by rcases hen with rfl | rfl <;> rfl) (by rcases hen with rfl | rfl <;> rfl) (g := (mkF m 6 #[.val (.ref a1), .val (.int en), .val .null, .val (.int ac), .val (.long q), .second] [(.int en), (.ref a1)])) rfl rfl (hb hby d12_6)
  refine Gl.pre (fun _ k => st2 _ k) ?_
  have E_a1 := E_a1.wr W2
  have F_enabled_a1 := F_enabled_a1.same W2
  have F_waitPoint_a1 := F_waitPoint_a1.other W2 (Or.inr (slot_ne (Or.inr (hw _ (List.mem_of_getElem? (i := 71) rfl))) (Or.inr (hw _ (List.mem_of_getElem? (i := 69) rfl))) (by decide) (t := (.object "java/lang/String")) (t' := .boolean) (by decide) (by decide)))
  have F_active_a1 := F_active_a1.other W2 (Or.inr (slot_ne (Or.inr (hw _ (List.mem_of_getElem? (i := 73) rfl))) (Or.inr (hw _ (List.mem_of_getElem? (i := 69) rfl))) (by decide) (t := .boolean) (t' := .boolean) (by decide) (by decide)))
  have F_clients_a1 := F_clients_a1.other W2 (Or.inr (slot_ne (Or.inr (hw _ (List.mem_of_getElem? (i := 75) rfl))) (Or.inr (hw _ (List.mem_of_getElem? (i := 69) rfl))) (by decide) (t := .long) (t' := .boolean) (by decide) (by decide)))
  have Z2 : n0 ≤ h2.size := by rw [W2.size]; exact Z0
  have N2 := Fr.snoc X2 N1 g_a1
  have K2 := K0.wr W2 (Or.inl (List.mem_of_getElem? (i := 0) rfl))
  refine Gl.pre (fun _ k => XS.aloadN X2.here hx rfl (hb hby d12_9) rfl rfl k) ?_
  show Gl p.tables e below PP (T2.setTop (mkF m 10 #[.val (.ref a1), .val (.int en), .val .null, .val (.int ac), .val (.long q), .second] [(.ref a1)]))
  refine Gl.pre (fun _ k => XS.aloadN X2.here hx rfl (hb hby d12_10) rfl rfl k) ?_
  obtain ⟨T3, h3, X3, e3, W3, st3⟩ := putF X2 hx hZ hown (host := "") (Or.inl (hw _ (List.mem_of_getElem? (i := 70) rfl))) Via.refl e2 F_waitPoint_a1 E_a1 (Or.inr ⟨(hw _ (List.mem_of_getElem? (i := 71) rfl)), rfl, hnm⟩) (hw _ (List.mem_of_getElem? (i := 57) rfl)) (ty := (.object "java/lang/String")) (by decide) rfl rfl (g := (mkF m 11 #[.val (.ref a1), .val (.int en), .val .null, .val (.int ac), .val (.long q), .second] [.null, (.ref a1)])) rfl rfl (hb hby d12_11)
  refine Gl.pre (fun _ k => st3 _ k) ?_
  have E_a1 := E_a1.wr W3
  have F_enabled_a1 := F_enabled_a1.other W3 (Or.inr (slot_ne (Or.inr (hw _ (List.mem_of_getElem? (i := 69) rfl))) (Or.inr (hw _ (List.mem_of_getElem? (i := 71) rfl))) (by decide) (t := .boolean) (t' := (.object "java/lang/String")) (by decide) (by decide)))
  have F_waitPoint_a1 := F_waitPoint_a1.same W3
  have F_active_a1 := F_active_a1.other W3 (Or.inr (slot_ne (Or.inr (hw _ (List.mem_of_getElem? (i := 73) rfl))) (Or.inr (hw _ (List.mem_of_getElem? (i := 71) rfl))) (by decide) (t := .boolean) (t' := (.object "java/lang/String")) (by decide) (by decide)))
  have F_clients_a1 := F_clients_a1.other W3 (Or.inr (slot_ne (Or.inr (hw _ (List.mem_of_getElem? (i := 75) rfl))) (Or.inr (hw _ (List.mem_of_getElem? (i := 71) rfl))) (by decide) (t := .long) (t' := (.object "java/lang/String")) (by decide) (by decide)))
  have Z3 : n0 ≤ h3.size := by rw [W3.size]; exact Z2
  have N3 := Fr.snoc X3 N2 g_a1
  have K3 := K2.wr W3 (Or.inl (List.mem_of_getElem? (i := 0) rfl))
  refine Gl.pre (fun _ k => XS.aloadN X3.here hx rfl (hb hby d12_14) rfl rfl k) ?_
  show Gl p.tables e below PP (T3.setTop (mkF m 15 #[.val (.ref a1), .val (.int en), .val .null, .val (.int ac), .val (.long q), .second] [(.ref a1)]))
  refine Gl.pre (fun _ k => XS.iloadN X3.here hx rfl (hb hby d12_15) rfl k) ?_
  obtain ⟨T4, h4, X4, e4, W4, st4⟩ := putFN X3 hx hZ hown (hw _ (List.mem_of_getElem? (i := 72) rfl)) Via.refl e3 F_active_a1 E_a1 (Or.inr ⟨(hw _ (List.mem_of_getElem? (i := 73) rfl)), rfl, hnm⟩) (hw _ (List.mem_of_getElem? (i := 57) rfl)) (ty := .boolean) (v' := (.int ac)) (by decide) (by rcases hac with rfl | rfl <;> rfl) (by rcases hac with rfl | rfl <;> rfl) (g := (mkF m 16 #[.val (.ref a1), .val (.int en), .val .null, .val (.int ac), .val (.long q), .second] [(.int ac), (.ref a1)])) rfl rfl (hb hby d12_16)
  refine Gl.pre (fun _ k => st4 _ k) ?_
  have E_a1 := E_a1.wr W4
  have F_enabled_a1 := F_enabled_a1.other W4 (Or.inr (slot_ne (Or.inr (hw _ (List.mem_of_getElem? (i := 69) rfl))) (Or.inr (hw _ (List.mem_of_getElem? (i := 73) rfl))) (by decide) (t := .boolean) (t' := .boolean) (by decide) (by decide)))
  have F_waitPoint_a1 := F_waitPoint_a1.other W4 (Or.inr (slot_ne (Or.inr (hw _ (List.mem_of_getElem? (i := 71) rfl))) (Or.inr (hw _ (List.mem_of_getElem? (i := 73) rfl))) (by decide) (t := (.object "java/lang/String")) (t' := .boolean) (by decide) (by decide)))
  have F_active_a1 := F_active_a1.same W4
  have F_clients_a1 := F_clients_a1.other W4 (Or.inr (slot_ne (Or.inr (hw _ (List.mem_of_getElem? (i := 75) rfl))) (Or.inr (hw _ (List.mem_of_getElem? (i := 73) rfl))) (by decide) (t := .long) (t' := .boolean) (by decide) (by decide)))
  have Z4 : n0 ≤ h4.size := by rw [W4.size]; exact Z3
  have N4 := Fr.snoc X4 N3 g_a1
  have K4 := K3.wr W4 (Or.inl (List.mem_of_getElem? (i := 0) rfl))
  refine Gl.pre (fun _ k => XS.aloadN X4.here hx rfl (hb hby d12_19) rfl rfl k) ?_
  show Gl p.tables e below PP (T4.setTop (mkF m 20 #[.val (.ref a1), .val (.int en), .val .null, .val (.int ac), .val (.long q), .second] [(.ref a1)]))
  refine Gl.pre (fun _ k => XS.lload X4.here hx rfl (hb hby d12_20) rfl k) ?_
  obtain ⟨T5, h5, X5, e5, W5, st5⟩ := putF X4 hx hZ hown (host := "") (Or.inl (hw _ (List.mem_of_getElem? (i := 74) rfl))) Via.refl e4 F_clients_a1 E_a1 (Or.inr ⟨(hw _ (List.mem_of_getElem? (i := 75) rfl)), rfl, hnm⟩) (hw _ (List.mem_of_getElem? (i := 57) rfl)) (ty := .long) (by decide) rfl rfl (g := (mkF m 22 #[.val (.ref a1), .val (.int en), .val .null, .val (.int ac), .val (.long q), .second] [(.long q), (.ref a1)])) rfl rfl (hb hby d12_22)
  refine Gl.pre (fun _ k => st5 _ k) ?_
  have E_a1 := E_a1.wr W5
  have F_enabled_a1 := F_enabled_a1.other W5 (Or.inr (slot_ne (Or.inr (hw _ (List.mem_of_getElem? (i := 69) rfl))) (Or.inr (hw _ (List.mem_of_getElem? (i := 75) rfl))) (by decide) (t := .boolean) (t' := .long) (by decide) (by decide)))
  have F_waitPoint_a1 := F_waitPoint_a1.other W5 (Or.inr (slot_ne (Or.inr (hw _ (List.mem_of_getElem? (i := 71) rfl))) (Or.inr (hw _ (List.mem_of_getElem? (i := 75) rfl))) (by decide) (t := (.object "java/lang/String")) (t' := .long) (by decide) (by decide)))
  have F_active_a1 := F_active_a1.other W5 (Or.inr (slot_ne (Or.inr (hw _ (List.mem_of_getElem? (i := 73) rfl))) (Or.inr (hw _ (List.mem_of_getElem? (i := 75) rfl))) (by decide) (t := .boolean) (t' := .long) (by decide) (by decide)))
  have F_clients_a1 := F_clients_a1.same W5
  have Z5 : n0 ≤ h5.size := by rw [W5.size]; exact Z4
  have N5 := Fr.snoc X5 N4 g_a1
  have K5 := K4.wr W5 (Or.inl (List.mem_of_getElem? (i := 0) rfl))
  rw [hPP]
  refine own_finV (Q := (QssN Z a1 en ac q h0 n0)) X5 hx hlk Bd.returns (hb hby d12_25) ?_ (by decide) (by decide)
  show QssN Z a1 en ac q h0 n0 _ T5.heap _
  rw [e5]
  exact ⟨rfl, N5, K5, F_enabled_a1, F_waitPoint_a1, F_active_a1, F_clients_a1⟩
theorem ef_ssS (m : MethodId) (a1 : Addr) (en : Int32) (wp : Addr) (ac : Int32) (q : Int64) : entryFrame m #[(.ref a1), (.int en), (.ref wp), (.int ac), (.long q)] 6 = mkF m 0 #[.val (.ref a1), .val (.int en), .val (.ref wp), .val (.int ac), .val (.long q), .second] [] := by first | (simp [entryFrame, mkF, argsToLocals, Value.category]; done) | rfl
def QssS (Z : State) (a1 : Addr) (en : Int32) (wp : Addr) (ac : Int32) (q : Int64) (h0 : Heap) (n0 : Nat) (v : Option Value) (h : Heap) (L : List Loc) : Prop := v = none ∧ Fr n0 L ∧ Keep h0 h [a1] ∧ Fld Z h a1 "com/example/anchorwatch/anchorwatch/model/SemiSync" "enabled" "Z" (.int en) ∧ Fld Z h a1 "com/example/anchorwatch/anchorwatch/model/SemiSync" "waitPoint" "Ljava/lang/String;" (.ref wp) ∧ Fld Z h a1 "com/example/anchorwatch/anchorwatch/model/SemiSync" "active" "Z" (.int ac) ∧ Fld Z h a1 "com/example/anchorwatch/anchorwatch/model/SemiSync" "clients" "J" (.long q)
set_option maxRecDepth 65536 in
set_option maxHeartbeats 40000000 in
theorem rmssS (l : Launch) (Z : State) (a0 : Array Value) (hw : ∀ d ∈ tables_1, d.before a0 Z = true) (ws : List Jvm.Cond) (a1 : Addr) (en : Int32) (wp : Addr) (ac : Int32) (q : Int64) (h0 : Heap) (n0 : Nat) (Z0 : n0 ≤ h0.size) (E_a1 : Exa Z h0 a1 "com/example/anchorwatch/anchorwatch/model/SemiSync") (F_enabled_a1 : Fld Z h0 a1 "com/example/anchorwatch/anchorwatch/model/SemiSync" "enabled" "Z" (.int (0 : Int32))) (F_waitPoint_a1 : Fld Z h0 a1 "com/example/anchorwatch/anchorwatch/model/SemiSync" "waitPoint" "Ljava/lang/String;" .null) (F_active_a1 : Fld Z h0 a1 "com/example/anchorwatch/anchorwatch/model/SemiSync" "active" "Z" (.int (0 : Int32))) (F_clients_a1 : Fld Z h0 a1 "com/example/anchorwatch/anchorwatch/model/SemiSync" "clients" "J" (.long (0 : Int64))) (g_a1 : n0 ≤ a1) (hen : en = 0 ∨ en = 1) (hac : ac = 0 ∨ ac = 1) :
    MetFree l (⟨"com/example/anchorwatch/anchorwatch/model/SemiSync", "<init>", "(ZLjava/lang/String;ZJ)V"⟩ : MethodName) (head1 (Jvm.Cond.code (⟨"com/example/anchorwatch/anchorwatch/model/SemiSync", "<init>", "(ZLjava/lang/String;ZJ)V"⟩ : MethodName) prog_51_method_1_code 6 none :: ws) ({ frames := 2, cells := 0, slots := 0, locals := 24 } : Room)) (fun a U => a = #[(.ref a1), (.int en), (.ref wp), (.int ac), (.long q)] ∧ Z.Warmed39 U.vm ∧ U.heap = h0) (fun _ _ _ _ _ => True) (fun _ U o U' => ∃ v L, o = .returned v ∧ QssS Z a1 en wp ac q h0 n0 v U'.heap L ∧ FrameEnd U o U' L ({ frames := 2, cells := 0, slots := 0, locals := 24 } : Room).cells ({ frames := 2, cells := 0, slots := 0, locals := 24 } : Room).slots) := by
  refine MetFree.of_bodySF (plainFor_of_name pn_12) hisR ?_
  intro p e s m args below meth c s₁ Bd hml0 hP hK
  obtain ⟨rfl, hZ, hh⟩ := hP
  have hx := Bd.exec
  have hby := Bd.bytes
  have hlk : meth.locks = false := BodyLoose.notSynchronized Bd
  have hml : c.maxLocals = 6 := hml0
  have hown : s.vm.findClass "com/example/anchorwatch/anchorwatch/model/SemiSync" = some m.cls := findClass_of_methodNamed Bd.named
  have hnm := (name_of_methodNamed Bd.named Bd.method).1
  have X0 : Stand p l e ({ frames := 2, cells := 0, slots := 0, locals := 24 } : Room) s m #[(.ref a1), (.int en), (.ref wp), (.int ac), (.long q)] below meth c s₁ [] 0 0 := Stand.of_body Bd
  have e0 : s₁.heap = h0 := by rw [← hh, Bd.state]; rfl
  have N0 := Fr.nil n0
  show Gl p.tables e below (fun (o : Outcome) (U' : State) => ∃ v L, o = .returned v ∧ QssS Z a1 en wp ac q h0 n0 v U'.heap L ∧ FrameEnd s o U' L ({ frames := 2, cells := 0, slots := 0, locals := 24 } : Room).cells ({ frames := 2, cells := 0, slots := 0, locals := 24 } : Room).slots) _
  refine Gl.pre (fun t k => castTop (ef_ssS m a1 en wp ac q) k) ?_
  obtain ⟨PP, hPP⟩ : ∃ P : Outcome → State → Prop, P = (fun (o : Outcome) (U' : State) => ∃ v L, o = .returned v ∧ QssS Z a1 en wp ac q h0 n0 v U'.heap L ∧ FrameEnd s o U' L ({ frames := 2, cells := 0, slots := 0, locals := 24 } : Room).cells ({ frames := 2, cells := 0, slots := 0, locals := 24 } : Room).slots) := ⟨_, rfl⟩
  rw [← hPP]
  have K0 : Keep h0 h0 [a1] := Keep.refl h0 _
  show Gl p.tables e below PP (s₁.setTop (mkF m 0 #[.val (.ref a1), .val (.int en), .val (.ref wp), .val (.int ac), .val (.long q), .second] []))
  refine Gl.pre (fun _ k => XS.aloadN X0.here hx rfl (hb hby d12_0) rfl rfl k) ?_
  obtain ⟨_, _, ⟨T1, L1, k1, n1⟩, -, X1, ⟨Lc1, hQ1, l1, y1, z1⟩, st1⟩ := X0.specialBack hx (y := (⟨"java/lang/Record", "<init>", "()V"⟩ : MethodName)) rfl hown (mvT hZ (hw _ (List.mem_of_getElem? (i := 62) rfl))) (mvT hZ (hw _ (List.mem_of_getElem? (i := 63) rfl))) (mvT hZ (hw _ (List.mem_of_getElem? (i := 66) rfl))) (by decide) (backOf (W := 0) (rm13 l Z a0 hw [] a1 h0 n0 Z0 ) hZ (hw _ (List.mem_of_getElem? (i := 66) rfl)) (hw _ (List.mem_of_getElem? (i := 65) rfl)) (by decide) (by decide)) (g := (mkF m 1 #[.val (.ref a1), .val (.int en), .val (.ref wp), .val (.int ac), .val (.long q), .second] [(.ref a1)])) rfl (by rw [hml]; rfl) (Steps.refl _) (a := a1) (argsL := []) (rest := []) (lenOf pd_0 rfl) rfl (by show 2 * 0 + _ ≤ _; exact Nat.le_of_eq rfl) (hb hby d12_1) (fun _ _ => ⟨rfl, e0, (by decide : 0 + 0 ≤ _), (by decide : 0 + 0 ≤ _)⟩)
  dsimp only [Pt.U, Pt.locs, Pt.cells, Pt.slots] at X1 l1 y1 z1 st1 hQ1
  subst l1 y1 z1
  obtain ⟨rfl, N1q, e1⟩ := hQ1
  have N1 := Fr.app N0 N1q
  refine Gl.pre (fun _ k => st1.trans k) ?_
  refine Gl.pre (fun _ k => XS.aloadN X1.here hx rfl (hb hby d12_4) rfl rfl k) ?_
  show Gl p.tables e below PP (T1.setTop (mkF m 5 #[.val (.ref a1), .val (.int en), .val (.ref wp), .val (.int ac), .val (.long q), .second] [(.ref a1)]))
  refine Gl.pre (fun _ k => XS.iloadN X1.here hx rfl (hb hby d12_5) rfl k) ?_
  obtain ⟨T2, h2, X2, e2, W2, st2⟩ := putFN X1 hx hZ hown (hw _ (List.mem_of_getElem? (i := 68) rfl)) Via.refl e1 F_enabled_a1 E_a1 (Or.inr ⟨(hw _ (List.mem_of_getElem? (i := 69) rfl)), rfl, hnm⟩) (hw _ (List.mem_of_getElem? (i := 57) rfl)) (ty := .boolean) (v' := (.int en)) (by decide) (by rcases hen with rfl | rfl <;> rfl) (by rcases hen with rfl | rfl <;> rfl) (g := (mkF m 6 #[.val (.ref a1), .val (.int en), .val (.ref wp), .val (.int ac), .val (.long q), .second] [(.int en), (.ref a1)])) rfl rfl (hb hby d12_6)
  refine Gl.pre (fun _ k => st2 _ k) ?_
  have E_a1 := E_a1.wr W2
  have F_enabled_a1 := F_enabled_a1.same W2
  have F_waitPoint_a1 := F_waitPoint_a1.other W2 (Or.inr (slot_ne (Or.inr (hw _ (List.mem_of_getElem? (i := 71) rfl))) (Or.inr (hw _ (List.mem_of_getElem? (i := 69) rfl))) (by decide) (t := (.object "java/lang/String")) (t' := .boolean) (by decide) (by decide)))
  have F_active_a1 := F_active_a1.other W2 (Or.inr (slot_ne (Or.inr (hw _ (List.mem_of_getElem? (i := 73) rfl))) (Or.inr (hw _ (List.mem_of_getElem? (i := 69) rfl))) (by decide) (t := .boolean) (t' := .boolean) (by decide) (by decide)))
  have F_clients_a1 := F_clients_a1.other W2 (Or.inr (slot_ne (Or.inr (hw _ (List.mem_of_getElem? (i := 75) rfl))) (Or.inr (hw _ (List.mem_of_getElem? (i := 69) rfl))) (by decide) (t := .long) (t' := .boolean) (by decide) (by decide)))
  have Z2 : n0 ≤ h2.size := by rw [W2.size]; exact Z0
  have N2 := Fr.snoc X2 N1 g_a1
  have K2 := K0.wr W2 (Or.inl (List.mem_of_getElem? (i := 0) rfl))
  refine Gl.pre (fun _ k => XS.aloadN X2.here hx rfl (hb hby d12_9) rfl rfl k) ?_
  show Gl p.tables e below PP (T2.setTop (mkF m 10 #[.val (.ref a1), .val (.int en), .val (.ref wp), .val (.int ac), .val (.long q), .second] [(.ref a1)]))
  refine Gl.pre (fun _ k => XS.aloadN X2.here hx rfl (hb hby d12_10) rfl rfl k) ?_
  obtain ⟨T3, h3, X3, e3, W3, st3⟩ := putF X2 hx hZ hown (host := "") (Or.inl (hw _ (List.mem_of_getElem? (i := 70) rfl))) Via.refl e2 F_waitPoint_a1 E_a1 (Or.inr ⟨(hw _ (List.mem_of_getElem? (i := 71) rfl)), rfl, hnm⟩) (hw _ (List.mem_of_getElem? (i := 57) rfl)) (ty := (.object "java/lang/String")) (by decide) rfl rfl (g := (mkF m 11 #[.val (.ref a1), .val (.int en), .val (.ref wp), .val (.int ac), .val (.long q), .second] [(.ref wp), (.ref a1)])) rfl rfl (hb hby d12_11)
  refine Gl.pre (fun _ k => st3 _ k) ?_
  have E_a1 := E_a1.wr W3
  have F_enabled_a1 := F_enabled_a1.other W3 (Or.inr (slot_ne (Or.inr (hw _ (List.mem_of_getElem? (i := 69) rfl))) (Or.inr (hw _ (List.mem_of_getElem? (i := 71) rfl))) (by decide) (t := .boolean) (t' := (.object "java/lang/String")) (by decide) (by decide)))
  have F_waitPoint_a1 := F_waitPoint_a1.same W3
  have F_active_a1 := F_active_a1.other W3 (Or.inr (slot_ne (Or.inr (hw _ (List.mem_of_getElem? (i := 73) rfl))) (Or.inr (hw _ (List.mem_of_getElem? (i := 71) rfl))) (by decide) (t := .boolean) (t' := (.object "java/lang/String")) (by decide) (by decide)))
  have F_clients_a1 := F_clients_a1.other W3 (Or.inr (slot_ne (Or.inr (hw _ (List.mem_of_getElem? (i := 75) rfl))) (Or.inr (hw _ (List.mem_of_getElem? (i := 71) rfl))) (by decide) (t := .long) (t' := (.object "java/lang/String")) (by decide) (by decide)))
  have Z3 : n0 ≤ h3.size := by rw [W3.size]; exact Z2
  have N3 := Fr.snoc X3 N2 g_a1
  have K3 := K2.wr W3 (Or.inl (List.mem_of_getElem? (i := 0) rfl))
  refine Gl.pre (fun _ k => XS.aloadN X3.here hx rfl (hb hby d12_14) rfl rfl k) ?_
  show Gl p.tables e below PP (T3.setTop (mkF m 15 #[.val (.ref a1), .val (.int en), .val (.ref wp), .val (.int ac), .val (.long q), .second] [(.ref a1)]))
  refine Gl.pre (fun _ k => XS.iloadN X3.here hx rfl (hb hby d12_15) rfl k) ?_
  obtain ⟨T4, h4, X4, e4, W4, st4⟩ := putFN X3 hx hZ hown (hw _ (List.mem_of_getElem? (i := 72) rfl)) Via.refl e3 F_active_a1 E_a1 (Or.inr ⟨(hw _ (List.mem_of_getElem? (i := 73) rfl)), rfl, hnm⟩) (hw _ (List.mem_of_getElem? (i := 57) rfl)) (ty := .boolean) (v' := (.int ac)) (by decide) (by rcases hac with rfl | rfl <;> rfl) (by rcases hac with rfl | rfl <;> rfl) (g := (mkF m 16 #[.val (.ref a1), .val (.int en), .val (.ref wp), .val (.int ac), .val (.long q), .second] [(.int ac), (.ref a1)])) rfl rfl (hb hby d12_16)
  refine Gl.pre (fun _ k => st4 _ k) ?_
  have E_a1 := E_a1.wr W4
  have F_enabled_a1 := F_enabled_a1.other W4 (Or.inr (slot_ne (Or.inr (hw _ (List.mem_of_getElem? (i := 69) rfl))) (Or.inr (hw _ (List.mem_of_getElem? (i := 73) rfl))) (by decide) (t := .boolean) (t' := .boolean) (by decide) (by decide)))
  have F_waitPoint_a1 := F_waitPoint_a1.other W4 (Or.inr (slot_ne (Or.inr (hw _ (List.mem_of_getElem? (i := 71) rfl))) (Or.inr (hw _ (List.mem_of_getElem? (i := 73) rfl))) (by decide) (t := (.object "java/lang/String")) (t' := .boolean) (by decide) (by decide)))
  have F_active_a1 := F_active_a1.same W4
  have F_clients_a1 := F_clients_a1.other W4 (Or.inr (slot_ne (Or.inr (hw _ (List.mem_of_getElem? (i := 75) rfl))) (Or.inr (hw _ (List.mem_of_getElem? (i := 73) rfl))) (by decide) (t := .long) (t' := .boolean) (by decide) (by decide)))
  have Z4 : n0 ≤ h4.size := by rw [W4.size]; exact Z3
  have N4 := Fr.snoc X4 N3 g_a1
  have K4 := K3.wr W4 (Or.inl (List.mem_of_getElem? (i := 0) rfl))
  refine Gl.pre (fun _ k => XS.aloadN X4.here hx rfl (hb hby d12_19) rfl rfl k) ?_
  show Gl p.tables e below PP (T4.setTop (mkF m 20 #[.val (.ref a1), .val (.int en), .val (.ref wp), .val (.int ac), .val (.long q), .second] [(.ref a1)]))
  refine Gl.pre (fun _ k => XS.lload X4.here hx rfl (hb hby d12_20) rfl k) ?_
  obtain ⟨T5, h5, X5, e5, W5, st5⟩ := putF X4 hx hZ hown (host := "") (Or.inl (hw _ (List.mem_of_getElem? (i := 74) rfl))) Via.refl e4 F_clients_a1 E_a1 (Or.inr ⟨(hw _ (List.mem_of_getElem? (i := 75) rfl)), rfl, hnm⟩) (hw _ (List.mem_of_getElem? (i := 57) rfl)) (ty := .long) (by decide) rfl rfl (g := (mkF m 22 #[.val (.ref a1), .val (.int en), .val (.ref wp), .val (.int ac), .val (.long q), .second] [(.long q), (.ref a1)])) rfl rfl (hb hby d12_22)
  refine Gl.pre (fun _ k => st5 _ k) ?_
  have E_a1 := E_a1.wr W5
  have F_enabled_a1 := F_enabled_a1.other W5 (Or.inr (slot_ne (Or.inr (hw _ (List.mem_of_getElem? (i := 69) rfl))) (Or.inr (hw _ (List.mem_of_getElem? (i := 75) rfl))) (by decide) (t := .boolean) (t' := .long) (by decide) (by decide)))
  have F_waitPoint_a1 := F_waitPoint_a1.other W5 (Or.inr (slot_ne (Or.inr (hw _ (List.mem_of_getElem? (i := 71) rfl))) (Or.inr (hw _ (List.mem_of_getElem? (i := 75) rfl))) (by decide) (t := (.object "java/lang/String")) (t' := .long) (by decide) (by decide)))
  have F_active_a1 := F_active_a1.other W5 (Or.inr (slot_ne (Or.inr (hw _ (List.mem_of_getElem? (i := 73) rfl))) (Or.inr (hw _ (List.mem_of_getElem? (i := 75) rfl))) (by decide) (t := .boolean) (t' := .long) (by decide) (by decide)))
  have F_clients_a1 := F_clients_a1.same W5
  have Z5 : n0 ≤ h5.size := by rw [W5.size]; exact Z4
  have N5 := Fr.snoc X5 N4 g_a1
  have K5 := K4.wr W5 (Or.inl (List.mem_of_getElem? (i := 0) rfl))
  rw [hPP]
  refine own_finV (Q := (QssS Z a1 en wp ac q h0 n0)) X5 hx hlk Bd.returns (hb hby d12_25) ?_ (by decide) (by decide)
  show QssS Z a1 en wp ac q h0 n0 _ T5.heap _
  rw [e5]
  exact ⟨rfl, N5, K5, F_enabled_a1, F_waitPoint_a1, F_active_a1, F_clients_a1⟩
theorem d15_0 : decode jdk_42_method_66_code 0 = .ok (.aload_n 0, 1) := by decide +kernel
theorem d15_1 : decode jdk_42_method_66_code 1 = .ok (.aload_n 1, 1) := by decide +kernel
theorem d15_2 : decode jdk_42_method_66_code 2 = .ok (.if_acmp .ne 5, 3) := by decide +kernel
theorem d15_5 : decode jdk_42_method_66_code 5 = .ok (.iconst 1, 1) := by decide +kernel
theorem d15_6 : decode jdk_42_method_66_code 6 = .ok (.ireturn, 1) := by decide +kernel
theorem d15_7 : decode jdk_42_method_66_code 7 = .ok (.aload_n 1, 1) := by decide +kernel
theorem d15_8 : decode jdk_42_method_66_code 8 = .ok (.instanceof 10, 3) := by decide +kernel
theorem d15_11 : decode jdk_42_method_66_code 11 = .ok (.ifCond .eq 43, 3) := by decide +kernel
theorem d15_14 : decode jdk_42_method_66_code 14 = .ok (.aload_n 1, 1) := by decide +kernel
theorem d15_15 : decode jdk_42_method_66_code 15 = .ok (.checkcast 10, 3) := by decide +kernel
theorem d15_18 : decode jdk_42_method_66_code 18 = .ok (.astore_n 2, 1) := by decide +kernel
theorem d15_19 : decode jdk_42_method_66_code 19 = .ok (.getstatic 38, 3) := by decide +kernel
theorem d15_22 : decode jdk_42_method_66_code 22 = .ok (.ifCond .eq 14, 3) := by decide +kernel
theorem d15_25 : decode jdk_42_method_66_code 25 = .ok (.aload_n 0, 1) := by decide +kernel
theorem d15_26 : decode jdk_42_method_66_code 26 = .ok (.getfield 15, 3) := by decide +kernel
theorem d15_29 : decode jdk_42_method_66_code 29 = .ok (.aload_n 2, 1) := by decide +kernel
theorem d15_30 : decode jdk_42_method_66_code 30 = .ok (.getfield 15, 3) := by decide +kernel
theorem d15_33 : decode jdk_42_method_66_code 33 = .ok (.if_icmp .ne 21, 3) := by decide +kernel
theorem d15_36 : decode jdk_42_method_66_code 36 = .ok (.aload_n 0, 1) := by decide +kernel
theorem d15_37 : decode jdk_42_method_66_code 37 = .ok (.getfield 9, 3) := by decide +kernel
theorem d15_40 : decode jdk_42_method_66_code 40 = .ok (.aload_n 2, 1) := by decide +kernel
theorem d15_41 : decode jdk_42_method_66_code 41 = .ok (.getfield 9, 3) := by decide +kernel
theorem d15_44 : decode jdk_42_method_66_code 44 = .ok (.invokestatic 541, 3) := by decide +kernel
theorem d15_47 : decode jdk_42_method_66_code 47 = .ok (.ifCond .eq 7, 3) := by decide +kernel
theorem d15_50 : decode jdk_42_method_66_code 50 = .ok (.iconst 1, 1) := by decide +kernel
theorem d15_51 : decode jdk_42_method_66_code 51 = .ok (.goto 4, 3) := by decide +kernel
theorem d15_54 : decode jdk_42_method_66_code 54 = .ok (.iconst 0, 1) := by decide +kernel
theorem d15_55 : decode jdk_42_method_66_code 55 = .ok (.ireturn, 1) := by decide +kernel
theorem pn_15 : plainName "java/lang/String" = true := by first | (simp [plainName, overriddenIn]; done) | decide +kernel
theorem ef_eqN (m : MethodId) (a1 : Addr) : entryFrame m #[(.ref a1), .null] 3 = mkF m 0 #[.val (.ref a1), .val .null, .unset] [] := by first | (simp [entryFrame, mkF, argsToLocals, Value.category]; done) | rfl
def QeqN (Z : State) (a1 : Addr) (h0 : Heap) (n0 : Nat) (v : Option Value) (h : Heap) (L : List Loc) : Prop := v = some (.int (0 : Int32)) ∧ Fr n0 L ∧ h = h0
set_option maxRecDepth 65536 in
set_option maxHeartbeats 40000000 in
theorem rmeqN (l : Launch) (Z : State) (a0 : Array Value) (hw : ∀ d ∈ tables_1, d.before a0 Z = true) (ws : List Jvm.Cond) (a1 : Addr) (h0 : Heap) (n0 : Nat) (Z0 : n0 ≤ h0.size)  :
    MetFree l (⟨"java/lang/String", "equals", "(Ljava/lang/Object;)Z"⟩ : MethodName) (head1 (Jvm.Cond.code (⟨"java/lang/String", "equals", "(Ljava/lang/Object;)Z"⟩ : MethodName) jdk_42_method_66_code 3 (some .boolean) :: ws) ({ frames := 0, cells := 0, slots := 0, locals := 0 } : Room)) (fun a U => a = #[(.ref a1), .null] ∧ Z.Warmed39 U.vm ∧ U.heap = h0) (fun _ _ _ _ _ => True) (fun _ U o U' => ∃ v L, o = .returned v ∧ QeqN Z a1 h0 n0 v U'.heap L ∧ FrameEnd U o U' L ({ frames := 0, cells := 0, slots := 0, locals := 0 } : Room).cells ({ frames := 0, cells := 0, slots := 0, locals := 0 } : Room).slots) := by
  refine MetFree.of_bodySF (plainFor_of_name pn_15) hisR ?_
  intro p e s m args below meth c s₁ Bd hml0 hP hK
  obtain ⟨rfl, hZ, hh⟩ := hP
  have hx := Bd.exec
  have hby := Bd.bytes
  have hlk : meth.locks = false := BodyLoose.notSynchronized Bd
  have hml : c.maxLocals = 3 := hml0
  have hown : s.vm.findClass "java/lang/String" = some m.cls := findClass_of_methodNamed Bd.named
  have hnm := (name_of_methodNamed Bd.named Bd.method).1
  have X0 : Stand p l e ({ frames := 0, cells := 0, slots := 0, locals := 0 } : Room) s m #[(.ref a1), .null] below meth c s₁ [] 0 0 := Stand.of_body Bd
  have e0 : s₁.heap = h0 := by rw [← hh, Bd.state]; rfl
  have N0 := Fr.nil n0
  show Gl p.tables e below (fun (o : Outcome) (U' : State) => ∃ v L, o = .returned v ∧ QeqN Z a1 h0 n0 v U'.heap L ∧ FrameEnd s o U' L ({ frames := 0, cells := 0, slots := 0, locals := 0 } : Room).cells ({ frames := 0, cells := 0, slots := 0, locals := 0 } : Room).slots) _
  refine Gl.pre (fun t k => castTop (ef_eqN m a1) k) ?_
  obtain ⟨PP, hPP⟩ : ∃ P : Outcome → State → Prop, P = (fun (o : Outcome) (U' : State) => ∃ v L, o = .returned v ∧ QeqN Z a1 h0 n0 v U'.heap L ∧ FrameEnd s o U' L ({ frames := 0, cells := 0, slots := 0, locals := 0 } : Room).cells ({ frames := 0, cells := 0, slots := 0, locals := 0 } : Room).slots) := ⟨_, rfl⟩
  rw [← hPP]
  show Gl p.tables e below PP (s₁.setTop (mkF m 0 #[.val (.ref a1), .val .null, .unset] []))
  refine Gl.pre (fun _ k => XS.aloadN X0.here hx rfl (hb hby d15_0) rfl rfl k) ?_
  refine Gl.pre (fun _ k => XS.aloadN X0.here hx rfl (hb hby d15_1) rfl rfl k) ?_
  refine Gl.pre (fun _ k => Jvm.RoadKit.acmp (g := (mkF m 2 #[.val (.ref a1), .val .null, .unset] [.null, (.ref a1)])) X0 hx rfl rfl rfl (pc0 := 2) (pc' := 7) (same := false) rfl (hb hby d15_2) rfl (decide_eq_false nofun) (by decide) (by decide) k) ?_
  show Gl p.tables e below PP (s₁.setTop (mkF m 7 #[.val (.ref a1), .val .null, .unset] []))
  refine Gl.pre (fun _ k => XS.aloadN X0.here hx rfl (hb hby d15_7) rfl rfl k) ?_
  refine Gl.pre (fun _ k => X0.instanceofNull hx (g := (mkF m 8 #[.val (.ref a1), .val .null, .unset] [.null])) rfl rfl (hb hby d15_8) _ k) ?_
  show Gl p.tables e below PP (s₁.setTop (mkF m 11 #[.val (.ref a1), .val .null, .unset] [(.int (0 : Int32))]))
  refine Gl.pre (fun _ k => XS.ifYes X0.here hx rfl (pc0 := 11) (pc' := 54) rfl (hb hby d15_11) rfl ((if0 _ _).trans (teq (show (0 : Int32) = (0 : Int32) from (by decide))).1) (by decide) (by decide) k) ?_
  show Gl p.tables e below PP (s₁.setTop (mkF m 54 #[.val (.ref a1), .val .null, .unset] []))
  refine Gl.pre (fun _ k => XS.iconst X0.here hx rfl (hb hby d15_54) k) ?_
  rw [hPP]
  refine own_finN (Q := (QeqN Z a1 h0 n0)) X0 hx hlk Bd.returns (t := .boolean) (z' := (0 : Int32)) (by simp) (by decide) (hb hby d15_55) ?_ (by decide) (by decide)
  show QeqN Z a1 h0 n0 _ s₁.heap _
  rw [e0]
  exact ⟨rfl, N0, rfl⟩
theorem d14_0 : decode prog_51_method_2_code 0 = .ok (.aload_n 0, 1) := by decide +kernel
theorem d14_1 : decode prog_51_method_2_code 1 = .ok (.getfield 7, 3) := by decide +kernel
theorem d14_4 : decode prog_51_method_2_code 4 = .ok (.ifCond .eq 35, 3) := by decide +kernel
theorem d14_7 : decode prog_51_method_2_code 7 = .ok (.ldc 24, 2) := by decide +kernel
theorem d14_9 : decode prog_51_method_2_code 9 = .ok (.aload_n 0, 1) := by decide +kernel
theorem d14_10 : decode prog_51_method_2_code 10 = .ok (.getfield 13, 3) := by decide +kernel
theorem d14_13 : decode prog_51_method_2_code 13 = .ok (.invokevirtual 26, 3) := by decide +kernel
theorem d14_16 : decode prog_51_method_2_code 16 = .ok (.ifCond .eq 23, 3) := by decide +kernel
theorem d14_19 : decode prog_51_method_2_code 19 = .ok (.aload_n 0, 1) := by decide +kernel
theorem d14_20 : decode prog_51_method_2_code 20 = .ok (.getfield 17, 3) := by decide +kernel
theorem d14_23 : decode prog_51_method_2_code 23 = .ok (.ifCond .eq 16, 3) := by decide +kernel
theorem d14_26 : decode prog_51_method_2_code 26 = .ok (.aload_n 0, 1) := by decide +kernel
theorem d14_27 : decode prog_51_method_2_code 27 = .ok (.getfield 20, 3) := by decide +kernel
theorem d14_30 : decode prog_51_method_2_code 30 = .ok (.lconst 1, 1) := by decide +kernel
theorem d14_31 : decode prog_51_method_2_code 31 = .ok (.lcmp, 1) := by decide +kernel
theorem d14_32 : decode prog_51_method_2_code 32 = .ok (.ifCond .lt 7, 3) := by decide +kernel
theorem d14_35 : decode prog_51_method_2_code 35 = .ok (.iconst 1, 1) := by decide +kernel
theorem d14_36 : decode prog_51_method_2_code 36 = .ok (.goto 4, 3) := by decide +kernel
theorem d14_39 : decode prog_51_method_2_code 39 = .ok (.iconst 0, 1) := by decide +kernel
theorem d14_40 : decode prog_51_method_2_code 40 = .ok (.ireturn, 1) := by decide +kernel
theorem pn_14 : plainName "com/example/anchorwatch/anchorwatch/model/SemiSync" = true := by first | (simp [plainName, overriddenIn]; done) | decide +kernel
theorem ef_loN (m : MethodId) (a1 : Addr) (en : Int32) (ac : Int32) (q : Int64) (cs : Int32) : entryFrame m #[(.ref a1)] 1 = mkF m 0 #[.val (.ref a1)] [] := by first | (simp [entryFrame, mkF, argsToLocals, Value.category]; done) | rfl
def QloN (Z : State) (a1 : Addr) (en : Int32) (ac : Int32) (q : Int64) (cs : Int32) (h0 : Heap) (n0 : Nat) (v : Option Value) (h : Heap) (L : List Loc) : Prop := v = some (.int (own_pi (¬ (en = (0 : Int32)) ∧ False ∧ ¬ (ac = (0 : Int32)) ∧ ¬ (q < (1 : Int64))))) ∧ Fr n0 L ∧ Keep h0 h []
set_option maxRecDepth 65536 in
set_option maxHeartbeats 40000000 in
theorem rmloN (l : Launch) (Z : State) (a0 : Array Value) (hw : ∀ d ∈ tables_1, d.before a0 Z = true) (ws : List Jvm.Cond) (a1 : Addr) (en : Int32) (ac : Int32) (q : Int64) (cs : Int32) (h0 : Heap) (n0 : Nat) (Z0 : n0 ≤ h0.size) (F_enabled : Fld Z h0 a1 "com/example/anchorwatch/anchorwatch/model/SemiSync" "enabled" "Z" (.int en)) (F_waitPoint : Fld Z h0 a1 "com/example/anchorwatch/anchorwatch/model/SemiSync" "waitPoint" "Ljava/lang/String;" .null) (F_active : Fld Z h0 a1 "com/example/anchorwatch/anchorwatch/model/SemiSync" "active" "Z" (.int ac)) (F_clients : Fld Z h0 a1 "com/example/anchorwatch/anchorwatch/model/SemiSync" "clients" "J" (.long q)) (SBC : Sta Z Z.heap "java/lang/String" "COMPACT_STRINGS" "Z" (.int cs)) (hcs : ¬ (cs = (0 : Int32))) (O_ : Old Z n0 h0) (hEL : EW Z a0 own_EL) :
    MetFree l (⟨"com/example/anchorwatch/anchorwatch/model/SemiSync", "lossless", "()Z"⟩ : MethodName) (head1 (Jvm.Cond.code (⟨"com/example/anchorwatch/anchorwatch/model/SemiSync", "lossless", "()Z"⟩ : MethodName) prog_51_method_2_code 1 (some .boolean) :: ws) ({ frames := 1, cells := 2, slots := 44, locals := 14 } : Room)) (fun a U => a = #[(.ref a1)] ∧ Z.Warmed39 U.vm ∧ U.heap = h0 ∧ CHv Z own_EL U.vm h0 ∧ ∀ x ∈ ([] : List Addr), Safe Z own_EL U.vm h0 x) (fun _ _ _ _ _ => True) (fun _ U o U' => ∃ v L, o = .returned v ∧ QloN Z a1 en ac q cs h0 n0 v U'.heap L ∧ CHr Z own_EL U.vm U.heap U'.vm U'.heap ∧ ReturnedEndW U o U' L ({ frames := 1, cells := 2, slots := 44, locals := 14 } : Room).cells ({ frames := 1, cells := 2, slots := 44, locals := 14 } : Room).slots) := by
  refine MetFree.of_bodySF (plainFor_of_name pn_14) hisR ?_
  intro p e s m args below meth c s₁ Bd hml0 hP hK
  obtain ⟨rfl, hZ, hh, hCH, hSL⟩ := hP
  have hx := Bd.exec
  have hby := Bd.bytes
  have hlk : meth.locks = false := BodyLoose.notSynchronized Bd
  have hml : c.maxLocals = 1 := hml0
  have hown : s.vm.findClass "com/example/anchorwatch/anchorwatch/model/SemiSync" = some m.cls := findClass_of_methodNamed Bd.named
  have hnm := (name_of_methodNamed Bd.named Bd.method).1
  have X0 : Stand p l e ({ frames := 1, cells := 2, slots := 44, locals := 14 } : Room) (s.setVm s.vm) m #[(.ref a1)] below meth c s₁ [] 0 0 := Stand.of_body Bd
  have hZ0 : Z.Warmed39 (s.setVm s.vm).vm := hZ
  have hown0 : (s.setVm s.vm).vm.findClass "com/example/anchorwatch/anchorwatch/model/SemiSync" = some m.cls := hown
  have hS0 : s.Since s.vm h0.size := (State.WarmedH.refl s).since _
  have hk0 : h0.size ≤ h0.size := Nat.le_refl _
  have CR0 : CHr Z own_EL s.vm h0 s.vm h0 := CHr.refl hCH
  have e0 : s₁.heap = h0 := by rw [← hh, Bd.state]; rfl
  have N0 := Fr.nil n0
  show Gl p.tables e below (fun (o : Outcome) (U' : State) => ∃ v L, o = .returned v ∧ QloN Z a1 en ac q cs h0 n0 v U'.heap L ∧ CHr Z own_EL s.vm s.heap U'.vm U'.heap ∧ ReturnedEndW s o U' L ({ frames := 1, cells := 2, slots := 44, locals := 14 } : Room).cells ({ frames := 1, cells := 2, slots := 44, locals := 14 } : Room).slots) _
  refine Gl.pre (fun t k => castTop (ef_loN m a1 en ac q cs) k) ?_
  obtain ⟨PP, hPP⟩ : ∃ P : Outcome → State → Prop, P = (fun (o : Outcome) (U' : State) => ∃ v L, o = .returned v ∧ QloN Z a1 en ac q cs h0 n0 v U'.heap L ∧ CHr Z own_EL s.vm s.heap U'.vm U'.heap ∧ ReturnedEndW s o U' L ({ frames := 1, cells := 2, slots := 44, locals := 14 } : Room).cells ({ frames := 1, cells := 2, slots := 44, locals := 14 } : Room).slots) := ⟨_, rfl⟩
  rw [← hPP]
  have K0 : Keep h0 h0 [] := Keep.refl h0 _
  show Gl p.tables e below PP (s₁.setTop (mkF m 0 #[.val (.ref a1)] []))
  refine Gl.pre (fun _ k => XS.aloadN X0.here hx rfl (hb hby d14_0) rfl rfl k) ?_
  obtain ⟨T1, X1, e1, st1⟩ := getF X0 hx hZ0 hown0 (host := "") (Or.inl (hw _ (List.mem_of_getElem? (i := 68) rfl))) Via.refl e0 F_enabled (g := (mkF m 1 #[.val (.ref a1)] [(.ref a1)])) rfl rfl (hb hby d14_1)
  refine Gl.pre (fun _ k => st1 _ k) ?_
  by_cases hc2 : en = (0 : Int32)
  · refine Gl.pre (fun _ k => XS.ifYes X1.here hx rfl (pc0 := 4) (pc' := 39) rfl (hb hby d14_4) rfl ((if0 _ _).trans (teq hc2).1) (by decide) (by decide) k) ?_
    show Gl p.tables e below PP (T1.setTop (mkF m 39 #[.val (.ref a1)] []))
    refine Gl.pre (fun _ k => XS.iconst X1.here hx rfl (hb hby d14_39) k) ?_
    show Gl p.tables e below PP (T1.setTop (mkF m 40 #[.val (.ref a1)] [(.int (0 : Int32))]))
    rw [hPP]
    refine own_finNW (Q := (QloN Z a1 en ac q cs h0 n0)) (Z := Z) (EL := own_EL) X1 hx hlk hS0 (by rw [e1]; exact hk0) Bd.returns (t := .boolean) (z' := (0 : Int32)) (by simp) (by decide) (hb hby d14_40) ?_ (by rw [hh, e1]; exact CR0.trans (CHv.at X1 hZ0 hEL CR0.1)) (by decide) (by decide)
    show QloN Z a1 en ac q cs h0 n0 _ T1.heap _
    rw [e1]
    refine ⟨?_, N0, ?_⟩
    rotate_left
    · exact K0
    rw [own_pi_f (by simp [hc2])]
  · refine Gl.pre (fun _ k => XS.ifNo X1.here hx rfl (hb hby d14_4) rfl ((if0 _ _).trans (feq hc2).1) k) ?_
    show Gl p.tables e below PP (T1.setTop (mkF m 7 #[.val (.ref a1)] []))
    obtain ⟨a3, T3, h3, q3, b3, kb3, X3, e3, E3, hS3, hk3, hZ3, hown3, Es3, Fc3, Fv3, Va3, -, -, CR3c, -, hne3, st3⟩ := ldcCH X1 hx hZ0 hown0 (hw _ (List.mem_of_getElem? (i := 81) rfl)) (own_wS hw) e1 hS0 hk0 hEL (by simp [own_EL, consts_1]) CR0.1 (vs := [(65 : Int32), (70 : Int32), (84 : Int32), (69 : Int32), (82 : Int32), (95 : Int32), (83 : Int32), (89 : Int32), (78 : Int32), (67 : Int32)].map Value.int) (z := (10 : Int32)) ⟨by decide, by decide⟩ (by decide) (by decide) (g := (mkF m 7 #[.val (.ref a1)] [])) rfl (hb hby d14_7) (n := 40) (by decide) (by decide) (by decide) (by decide)
    refine Gl.pre (fun _ k => st3 _ k) ?_
    have F_enabled := F_enabled.ext E3
    have F_waitPoint := F_waitPoint.ext E3
    have F_active := F_active.ext E3
    have F_clients := F_clients.ext E3
    have O_ := O_.ext E3
    have CR3 := CR0.trans CR3c
    have Z3 : n0 ≤ h3.size := Nat.le_trans Z0 E3.1
    have K3 := K0.ext E3
    have V_b3 : Bal Z h3 b3 .byte [(65 : Int32), (70 : Int32), (84 : Int32), (69 : Int32), (82 : Int32), (95 : Int32), (83 : Int32), (89 : Int32), (78 : Int32), (67 : Int32)] := own_balOf Va3 (by decide)
    show Gl p.tables e below PP (T3.setTop (mkF m 9 #[.val (.ref a1)] [(.ref a3)]))
    refine Gl.pre (fun _ k => XS.aloadN X3.here hx rfl (hb hby d14_9) rfl rfl k) ?_
    obtain ⟨T4, X4, e4, st4⟩ := getF X3 hx hZ3 hown3 (host := "") (Or.inl (hw _ (List.mem_of_getElem? (i := 70) rfl))) Via.refl e3 F_waitPoint (g := (mkF m 10 #[.val (.ref a1)] [(.ref a1), (.ref a3)])) rfl rfl (hb hby d14_10)
    refine Gl.pre (fun _ k => st4 _ k) ?_
    obtain ⟨cq5, kq5, qa5, qb5, qc5⟩ := isOf hZ3 e4 Es3
    obtain ⟨_, _, ⟨T5, L5, k5, n5⟩, -, X5, ⟨Lc5, hQ5, l5, y5, z5⟩, st5⟩ := X4.virtualBack hx (y := (⟨"java/lang/String", "equals", "(Ljava/lang/Object;)Z"⟩ : MethodName)) (z := (⟨"java/lang/String", "equals", "(Ljava/lang/Object;)Z"⟩ : MethodName)) hown3 (mvT hZ3 (hw _ (List.mem_of_getElem? (i := 82) rfl))) (mvT hZ3 (hw _ (List.mem_of_getElem? (i := 83) rfl))) (notFace_of_selects (args := #[]) (mvT hZ3 (hw _ (List.mem_of_getElem? (i := 85) rfl)))) (mvT hZ3 (hw _ (List.mem_of_getElem? (i := 85) rfl))) (mvT hZ3 (hw _ (List.mem_of_getElem? (i := 84) rfl))) (by decide) (backOf (W := 0) (rmeqN l Z a0 hw [] a3 h3 n0 Z3 ) hZ3 (hw _ (List.mem_of_getElem? (i := 86) rfl)) (hw _ (List.mem_of_getElem? (i := 1) rfl)) (by decide) (by decide)) qa5 qc5 (g := (mkF m 13 #[.val (.ref a1)] [.null, (.ref a3)])) rfl (by rw [hml]; rfl) (Steps.refl _) (argsL := [.null]) (rest := []) (lenOf pd_1 rfl) rfl (by show 2 * 0 + _ ≤ _; exact Nat.le_of_eq rfl) (hb hby d14_13) (fun _ _ => ⟨rfl, e4, (by decide : 2 + 0 ≤ _), (by decide : 44 + 0 ≤ _)⟩)
    dsimp only [Pt.U, Pt.locs, Pt.cells, Pt.slots] at X5 l5 y5 z5 st5 hQ5
    subst l5 y5 z5
    obtain ⟨rfl, N5q, e5⟩ := hQ5
    have N5 := Fr.app N0 N5q
    refine Gl.pre (fun _ k => st5.trans k) ?_
    show Gl p.tables e below PP (T5.setTop (mkF m 16 #[.val (.ref a1)] [(.int (0 : Int32))]))
    refine Gl.pre (fun _ k => XS.ifYes X5.here hx rfl (pc0 := 16) (pc' := 39) rfl (hb hby d14_16) rfl ((if0 _ _).trans (teq (show (0 : Int32) = (0 : Int32) from (by decide))).1) (by decide) (by decide) k) ?_
    show Gl p.tables e below PP (T5.setTop (mkF m 39 #[.val (.ref a1)] []))
    refine Gl.pre (fun _ k => XS.iconst X5.here hx rfl (hb hby d14_39) k) ?_
    rw [hPP]
    refine own_finNW (Q := (QloN Z a1 en ac q cs h0 n0)) (Z := Z) (EL := own_EL) X5 hx hlk hS3 (by rw [e5]; exact hk3) Bd.returns (t := .boolean) (z' := (0 : Int32)) (by simp) (by decide) (hb hby d14_40) ?_ (by rw [hh, e5]; exact CR3.trans (CHv.at X5 hZ3 hEL CR3.1)) (by decide) (by decide)
    show QloN Z a1 en ac q cs h0 n0 _ T5.heap _
    rw [e5]
    refine ⟨?_, N5, ?_⟩
    rotate_left
    · exact K3
    rw [own_pi_f (by simp [hc2])]
theorem ef_loS (m : MethodId) (a1 : Addr) (en : Int32) (ac : Int32) (q : Int64) (cs : Int32) (wp : Addr) (tv : Addr) (kt : ClassId) (ds : List Int32) (N2 : Int32) : entryFrame m #[(.ref a1)] 1 = mkF m 0 #[.val (.ref a1)] [] := by first | (simp [entryFrame, mkF, argsToLocals, Value.category]; done) | rfl
def QloS (Z : State) (a1 : Addr) (en : Int32) (ac : Int32) (q : Int64) (cs : Int32) (wp : Addr) (tv : Addr) (kt : ClassId) (ds : List Int32) (N2 : Int32) (h0 : Heap) (n0 : Nat) (v : Option Value) (h : Heap) (L : List Loc) : Prop := v = some (.int (own_pi (¬ (en = (0 : Int32)) ∧ own_AS = ds ∧ ¬ (ac = (0 : Int32)) ∧ ¬ (q < (1 : Int64))))) ∧ Fr n0 L ∧ Keep h0 h []
set_option maxRecDepth 65536 in
set_option maxHeartbeats 40000000 in
theorem rmloS (l : Launch) (Z : State) (a0 : Array Value) (hw : ∀ d ∈ tables_1, d.before a0 Z = true) (ws : List Jvm.Cond) (a1 : Addr) (en : Int32) (ac : Int32) (q : Int64) (cs : Int32) (wp : Addr) (tv : Addr) (kt : ClassId) (ds : List Int32) (N2 : Int32) (h0 : Heap) (n0 : Nat) (Z0 : n0 ≤ h0.size) (F_enabled : Fld Z h0 a1 "com/example/anchorwatch/anchorwatch/model/SemiSync" "enabled" "Z" (.int en)) (F_waitPoint : Fld Z h0 a1 "com/example/anchorwatch/anchorwatch/model/SemiSync" "waitPoint" "Ljava/lang/String;" (.ref wp)) (F_active : Fld Z h0 a1 "com/example/anchorwatch/anchorwatch/model/SemiSync" "active" "Z" (.int ac)) (F_clients : Fld Z h0 a1 "com/example/anchorwatch/anchorwatch/model/SemiSync" "clients" "J" (.long q)) (SBC : Sta Z Z.heap "java/lang/String" "COMPACT_STRINGS" "Z" (.int cs)) (hcs : ¬ (cs = (0 : Int32))) (O_ : Old Z n0 h0) (E_wp : Exa Z h0 wp "java/lang/String") (F_value_wp : Fld Z h0 wp "java/lang/String" "value" "[B" (.ref tv)) (F_coder_wp : Fld Z h0 wp "java/lang/String" "coder" "B" (.int (0 : Int32))) (K_tv : Arv Z h0 tv kt .byte N2 ((ds.map (fun c => c.toInt8.toInt32)).map Value.int) (.int 0)) (hN2 : N2 = Int32.ofNat ds.length) (hds : ∀ c ∈ ds, ¬ c < 0 ∧ ¬ (255 : Int32) < c) (hdl : ds.length ≤ 4000) (hEL : EW Z a0 own_EL) :
    MetFree l (⟨"com/example/anchorwatch/anchorwatch/model/SemiSync", "lossless", "()Z"⟩ : MethodName) (head1 (Jvm.Cond.code (⟨"com/example/anchorwatch/anchorwatch/model/SemiSync", "lossless", "()Z"⟩ : MethodName) prog_51_method_2_code 1 (some .boolean) :: ws) ({ frames := 2, cells := 2, slots := 44, locals := 28 } : Room)) (fun a U => a = #[(.ref a1)] ∧ Z.Warmed39 U.vm ∧ U.heap = h0 ∧ CHv Z own_EL U.vm h0 ∧ ∀ x ∈ ([] : List Addr), Safe Z own_EL U.vm h0 x) (fun _ _ _ _ _ => True) (fun _ U o U' => ∃ v L, o = .returned v ∧ QloS Z a1 en ac q cs wp tv kt ds N2 h0 n0 v U'.heap L ∧ CHr Z own_EL U.vm U.heap U'.vm U'.heap ∧ ReturnedEndW U o U' L ({ frames := 2, cells := 2, slots := 44, locals := 28 } : Room).cells ({ frames := 2, cells := 2, slots := 44, locals := 28 } : Room).slots) := by
  refine MetFree.of_bodySF (plainFor_of_name pn_14) hisR ?_
  intro p e s m args below meth c s₁ Bd hml0 hP hK
  obtain ⟨rfl, hZ, hh, hCH, hSL⟩ := hP
  have hx := Bd.exec
  have hby := Bd.bytes
  have hlk : meth.locks = false := BodyLoose.notSynchronized Bd
  have hml : c.maxLocals = 1 := hml0
  have hown : s.vm.findClass "com/example/anchorwatch/anchorwatch/model/SemiSync" = some m.cls := findClass_of_methodNamed Bd.named
  have hnm := (name_of_methodNamed Bd.named Bd.method).1
  have X0 : Stand p l e ({ frames := 2, cells := 2, slots := 44, locals := 28 } : Room) (s.setVm s.vm) m #[(.ref a1)] below meth c s₁ [] 0 0 := Stand.of_body Bd
  have hZ0 : Z.Warmed39 (s.setVm s.vm).vm := hZ
  have hown0 : (s.setVm s.vm).vm.findClass "com/example/anchorwatch/anchorwatch/model/SemiSync" = some m.cls := hown
  have hS0 : s.Since s.vm h0.size := (State.WarmedH.refl s).since _
  have hk0 : h0.size ≤ h0.size := Nat.le_refl _
  have CR0 : CHr Z own_EL s.vm h0 s.vm h0 := CHr.refl hCH
  have e0 : s₁.heap = h0 := by rw [← hh, Bd.state]; rfl
  have N0 := Fr.nil n0
  show Gl p.tables e below (fun (o : Outcome) (U' : State) => ∃ v L, o = .returned v ∧ QloS Z a1 en ac q cs wp tv kt ds N2 h0 n0 v U'.heap L ∧ CHr Z own_EL s.vm s.heap U'.vm U'.heap ∧ ReturnedEndW s o U' L ({ frames := 2, cells := 2, slots := 44, locals := 28 } : Room).cells ({ frames := 2, cells := 2, slots := 44, locals := 28 } : Room).slots) _
  refine Gl.pre (fun t k => castTop (ef_loS m a1 en ac q cs wp tv kt ds N2) k) ?_
  obtain ⟨PP, hPP⟩ : ∃ P : Outcome → State → Prop, P = (fun (o : Outcome) (U' : State) => ∃ v L, o = .returned v ∧ QloS Z a1 en ac q cs wp tv kt ds N2 h0 n0 v U'.heap L ∧ CHr Z own_EL s.vm s.heap U'.vm U'.heap ∧ ReturnedEndW s o U' L ({ frames := 2, cells := 2, slots := 44, locals := 28 } : Room).cells ({ frames := 2, cells := 2, slots := 44, locals := 28 } : Room).slots) := ⟨_, rfl⟩
  rw [← hPP]
  have K0 : Keep h0 h0 [] := Keep.refl h0 _
  have heq : ∀ d ∈ StrChars.Road.wordsEq, d.before a0 Z = true := fun d hd => hw d ((by decide +kernel : ∀ d ∈ StrChars.Road.wordsEq, d ∈ tables_1) d hd)
  show Gl p.tables e below PP (s₁.setTop (mkF m 0 #[.val (.ref a1)] []))
  refine Gl.pre (fun _ k => XS.aloadN X0.here hx rfl (hb hby d14_0) rfl rfl k) ?_
  obtain ⟨T1, X1, e1, st1⟩ := getF X0 hx hZ0 hown0 (host := "") (Or.inl (hw _ (List.mem_of_getElem? (i := 68) rfl))) Via.refl e0 F_enabled (g := (mkF m 1 #[.val (.ref a1)] [(.ref a1)])) rfl rfl (hb hby d14_1)
  refine Gl.pre (fun _ k => st1 _ k) ?_
  by_cases hc2 : en = (0 : Int32)
  · refine Gl.pre (fun _ k => XS.ifYes X1.here hx rfl (pc0 := 4) (pc' := 39) rfl (hb hby d14_4) rfl ((if0 _ _).trans (teq hc2).1) (by decide) (by decide) k) ?_
    show Gl p.tables e below PP (T1.setTop (mkF m 39 #[.val (.ref a1)] []))
    refine Gl.pre (fun _ k => XS.iconst X1.here hx rfl (hb hby d14_39) k) ?_
    show Gl p.tables e below PP (T1.setTop (mkF m 40 #[.val (.ref a1)] [(.int (0 : Int32))]))
    rw [hPP]
    refine own_finNW (Q := (QloS Z a1 en ac q cs wp tv kt ds N2 h0 n0)) (Z := Z) (EL := own_EL) X1 hx hlk hS0 (by rw [e1]; exact hk0) Bd.returns (t := .boolean) (z' := (0 : Int32)) (by simp) (by decide) (hb hby d14_40) ?_ (by rw [hh, e1]; exact CR0.trans (CHv.at X1 hZ0 hEL CR0.1)) (by decide) (by decide)
    show QloS Z a1 en ac q cs wp tv kt ds N2 h0 n0 _ T1.heap _
    rw [e1]
    refine ⟨?_, N0, ?_⟩
    rotate_left
    · exact K0
    rw [own_pi_f (by simp [hc2])]
  · refine Gl.pre (fun _ k => XS.ifNo X1.here hx rfl (hb hby d14_4) rfl ((if0 _ _).trans (feq hc2).1) k) ?_
    show Gl p.tables e below PP (T1.setTop (mkF m 7 #[.val (.ref a1)] []))
    obtain ⟨a3, T3, h3, q3, b3, kb3, X3, e3, E3, hS3, hk3, hZ3, hown3, Es3, Fc3, Fv3, Va3, -, -, CR3c, -, hne3, st3⟩ := ldcCH X1 hx hZ0 hown0 (hw _ (List.mem_of_getElem? (i := 81) rfl)) (own_wS hw) e1 hS0 hk0 hEL (by simp [own_EL, consts_1]) CR0.1 (vs := [(65 : Int32), (70 : Int32), (84 : Int32), (69 : Int32), (82 : Int32), (95 : Int32), (83 : Int32), (89 : Int32), (78 : Int32), (67 : Int32)].map Value.int) (z := (10 : Int32)) ⟨by decide, by decide⟩ (by decide) (by decide) (g := (mkF m 7 #[.val (.ref a1)] [])) rfl (hb hby d14_7) (n := 40) (by decide) (by decide) (by decide) (by decide)
    refine Gl.pre (fun _ k => st3 _ k) ?_
    have F_enabled := F_enabled.ext E3
    have F_waitPoint := F_waitPoint.ext E3
    have F_active := F_active.ext E3
    have F_clients := F_clients.ext E3
    have O_ := O_.ext E3
    have E_wp := E_wp.ext E3
    have F_value_wp := F_value_wp.ext E3
    have F_coder_wp := F_coder_wp.ext E3
    have K_tv := K_tv.ext E3
    have CR3 := CR0.trans CR3c
    have Z3 : n0 ≤ h3.size := Nat.le_trans Z0 E3.1
    have K3 := K0.ext E3
    have V_b3 : Bal Z h3 b3 .byte [(65 : Int32), (70 : Int32), (84 : Int32), (69 : Int32), (82 : Int32), (95 : Int32), (83 : Int32), (89 : Int32), (78 : Int32), (67 : Int32)] := own_balOf Va3 (by decide)
    show Gl p.tables e below PP (T3.setTop (mkF m 9 #[.val (.ref a1)] [(.ref a3)]))
    refine Gl.pre (fun _ k => XS.aloadN X3.here hx rfl (hb hby d14_9) rfl rfl k) ?_
    obtain ⟨T4, X4, e4, st4⟩ := getF X3 hx hZ3 hown3 (host := "") (Or.inl (hw _ (List.mem_of_getElem? (i := 70) rfl))) Via.refl e3 F_waitPoint (g := (mkF m 10 #[.val (.ref a1)] [(.ref a1), (.ref a3)])) rfl rfl (hb hby d14_10)
    refine Gl.pre (fun _ k => st4 _ k) ?_
    obtain ⟨cq5, kq5, qa5, qb5, qc5⟩ := isOf hZ3 e4 Es3
    obtain ⟨_, _, ⟨T5, L5, k5, n5⟩, -, X5, ⟨Lc5, hQ5, l5, y5, z5⟩, st5⟩ := X4.virtualBack hx (y := (⟨"java/lang/String", "equals", "(Ljava/lang/Object;)Z"⟩ : MethodName)) (z := (⟨"java/lang/String", "equals", "(Ljava/lang/Object;)Z"⟩ : MethodName)) hown3 (mvT hZ3 (hw _ (List.mem_of_getElem? (i := 82) rfl))) (mvT hZ3 (hw _ (List.mem_of_getElem? (i := 83) rfl))) (notFace_of_selects (args := #[]) (mvT hZ3 (hw _ (List.mem_of_getElem? (i := 85) rfl)))) (mvT hZ3 (hw _ (List.mem_of_getElem? (i := 85) rfl))) (mvT hZ3 (hw _ (List.mem_of_getElem? (i := 84) rfl))) (by decide) (StrChars.Road.eqW (W := 0) hZ3 heq (kI := 4) (hw _ (List.mem_of_getElem? (i := 2) rfl)) Es3 Fv3 Fc3 Va3 own_ASc own_ASb (by decide) E_wp F_value_wp F_coder_wp K_tv (by rw [hN2]; exact StrChars.Road.codOf rfl (fun c hc => (hds c hc).2)) (fun c hc => ⟨(hds c hc).1, own_le255 (hds c hc).2⟩) hdl (SBC.ext O_.2) hcs (by decide) (by decide)) qa5 qc5 (g := (mkF m 13 #[.val (.ref a1)] [(.ref wp), (.ref a3)])) rfl (by rw [hml]; rfl) (Steps.refl _) (argsL := [(.ref wp)]) (rest := []) (lenOf pd_1 rfl) rfl (by show 2 * 0 + _ ≤ _; exact Nat.le_of_eq rfl) (hb hby d14_13) (fun _ _ => ⟨rfl, e4, (by decide : 2 + 0 ≤ _), (by decide : 44 + 0 ≤ _)⟩)
    dsimp only [Pt.U, Pt.locs, Pt.cells, Pt.slots] at X5 l5 y5 z5 st5 hQ5
    subst l5 y5 z5
    obtain ⟨hQ5, rfl, e5⟩ := hQ5
    have N5 := Fr.app N0 (Fr.nil n0)
    rcases hQ5 with ⟨rfl, hQ5⟩ | ⟨rfl, hQ5⟩
    · refine Gl.pre (fun _ k => st5.trans k) ?_
      show Gl p.tables e below PP (T5.setTop (mkF m 16 #[.val (.ref a1)] [(.int (1 : Int32))]))
      refine Gl.pre (fun _ k => XS.ifNo X5.here hx rfl (hb hby d14_16) rfl ((if0 _ _).trans (feq (show ¬ ((1 : Int32) = (0 : Int32)) from (by decide))).1) k) ?_
      show Gl p.tables e below PP (T5.setTop (mkF m 19 #[.val (.ref a1)] []))
      refine Gl.pre (fun _ k => XS.aloadN X5.here hx rfl (hb hby d14_19) rfl rfl k) ?_
      show Gl p.tables e below PP (T5.setTop (mkF m 20 #[.val (.ref a1)] [(.ref a1)]))
      obtain ⟨T6, X6, e6, st6⟩ := getF X5 hx hZ3 hown3 (host := "") (Or.inl (hw _ (List.mem_of_getElem? (i := 72) rfl))) Via.refl e5 F_active (g := (mkF m 20 #[.val (.ref a1)] [(.ref a1)])) rfl rfl (hb hby d14_20)
      refine Gl.pre (fun _ k => st6 _ k) ?_
      by_cases hc7 : ac = (0 : Int32)
      · refine Gl.pre (fun _ k => XS.ifYes X6.here hx rfl (pc0 := 23) (pc' := 39) rfl (hb hby d14_23) rfl ((if0 _ _).trans (teq hc7).1) (by decide) (by decide) k) ?_
        show Gl p.tables e below PP (T6.setTop (mkF m 39 #[.val (.ref a1)] []))
        refine Gl.pre (fun _ k => XS.iconst X6.here hx rfl (hb hby d14_39) k) ?_
        rw [hPP]
        refine own_finNW (Q := (QloS Z a1 en ac q cs wp tv kt ds N2 h0 n0)) (Z := Z) (EL := own_EL) X6 hx hlk hS3 (by rw [e6]; exact hk3) Bd.returns (t := .boolean) (z' := (0 : Int32)) (by simp) (by decide) (hb hby d14_40) ?_ (by rw [hh, e6]; exact CR3.trans (CHv.at X6 hZ3 hEL CR3.1)) (by decide) (by decide)
        show QloS Z a1 en ac q cs wp tv kt ds N2 h0 n0 _ T6.heap _
        rw [e6]
        refine ⟨?_, N5, ?_⟩
        rotate_left
        · exact K3
        rw [own_pi_f (by simp [hc2, hQ5, hc7])]
      · refine Gl.pre (fun _ k => XS.ifNo X6.here hx rfl (hb hby d14_23) rfl ((if0 _ _).trans (feq hc7).1) k) ?_
        show Gl p.tables e below PP (T6.setTop (mkF m 26 #[.val (.ref a1)] []))
        refine Gl.pre (fun _ k => XS.aloadN X6.here hx rfl (hb hby d14_26) rfl rfl k) ?_
        show Gl p.tables e below PP (T6.setTop (mkF m 27 #[.val (.ref a1)] [(.ref a1)]))
        obtain ⟨T8, X8, e8, st8⟩ := getF X6 hx hZ3 hown3 (host := "") (Or.inl (hw _ (List.mem_of_getElem? (i := 74) rfl))) Via.refl e6 F_clients (g := (mkF m 27 #[.val (.ref a1)] [(.ref a1)])) rfl rfl (hb hby d14_27)
        refine Gl.pre (fun _ k => st8 _ k) ?_
        refine Gl.pre (fun _ k => XS.lconst X8.here hx rfl (hb hby d14_30) k) ?_
        refine Gl.pre (fun _ k => XS.lcmp X8.here hx rfl (hb hby d14_31) rfl k) ?_
        show Gl p.tables e below PP (T8.setTop (mkF m 32 #[.val (.ref a1)] [(.int (lcmpW q (1 : Int64)))]))
        suffices J9 : Gl p.tables e below PP (T8.setTop (mkF m 40 #[.val (.ref a1)] [(.int (own_pi (¬ (q < (1 : Int64)))))])) by
          by_cases hd9 : q < (1 : Int64)
          · rw [own_pi_nt hd9] at J9
            refine Gl.pre (fun _ k => XS.ifYes X8.here hx rfl (pc0 := 32) (pc' := 39) rfl (hb hby d14_32) rfl ((if0 _ _).trans (tlt ((lw_lt q (1 : Int64)).mpr hd9)).1) (by decide) (by decide) k) ?_
            show Gl p.tables e below PP (T8.setTop (mkF m 39 #[.val (.ref a1)] []))
            refine Gl.pre (fun _ k => XS.iconst X8.here hx rfl (hb hby d14_39) k) ?_
            show Gl p.tables e below PP (T8.setTop (mkF m 40 #[.val (.ref a1)] [(.int (0 : Int32))]))
            exact J9
          · rw [own_pi_nf hd9] at J9
            refine Gl.pre (fun _ k => XS.ifNo X8.here hx rfl (hb hby d14_32) rfl ((if0 _ _).trans (flt (mt (lw_lt q (1 : Int64)).mp hd9)).1) k) ?_
            show Gl p.tables e below PP (T8.setTop (mkF m 35 #[.val (.ref a1)] []))
            refine Gl.pre (fun _ k => XS.iconst X8.here hx rfl (hb hby d14_35) k) ?_
            show Gl p.tables e below PP (T8.setTop (mkF m 36 #[.val (.ref a1)] [(.int (1 : Int32))]))
            refine Gl.pre (fun _ k => XS.goto X8.here hx rfl (pc0 := 36) (pc' := 40) rfl (hb hby d14_36) (by decide) (by decide) k) ?_
            show Gl p.tables e below PP (T8.setTop (mkF m 40 #[.val (.ref a1)] [(.int (1 : Int32))]))
            exact J9
        show Gl p.tables e below PP (T8.setTop (mkF m 40 #[.val (.ref a1)] [(.int (own_pi (¬ (q < (1 : Int64)))))]))
        rw [hPP]
        refine own_finNW (Q := (QloS Z a1 en ac q cs wp tv kt ds N2 h0 n0)) (Z := Z) (EL := own_EL) X8 hx hlk hS3 (by rw [e8]; exact hk3) Bd.returns (t := .boolean) (z' := (own_pi (¬ (q < (1 : Int64))))) (by simp) own_nar_pi (hb hby d14_40) ?_ (by rw [hh, e8]; exact CR3.trans (CHv.at X8 hZ3 hEL CR3.1)) (by decide) (by decide)
        show QloS Z a1 en ac q cs wp tv kt ds N2 h0 n0 _ T8.heap _
        rw [e8]
        refine ⟨?_, N5, ?_⟩
        rotate_left
        · exact K3
        exact congrArg (fun z => some (Value.int z)) (own_pi_eq (by simp [hc2, hQ5, hc7]))
    · refine Gl.pre (fun _ k => st5.trans k) ?_
      show Gl p.tables e below PP (T5.setTop (mkF m 16 #[.val (.ref a1)] [(.int (0 : Int32))]))
      refine Gl.pre (fun _ k => XS.ifYes X5.here hx rfl (pc0 := 16) (pc' := 39) rfl (hb hby d14_16) rfl ((if0 _ _).trans (teq (show (0 : Int32) = (0 : Int32) from (by decide))).1) (by decide) (by decide) k) ?_
      show Gl p.tables e below PP (T5.setTop (mkF m 39 #[.val (.ref a1)] []))
      refine Gl.pre (fun _ k => XS.iconst X5.here hx rfl (hb hby d14_39) k) ?_
      rw [hPP]
      refine own_finNW (Q := (QloS Z a1 en ac q cs wp tv kt ds N2 h0 n0)) (Z := Z) (EL := own_EL) X5 hx hlk hS3 (by rw [e5]; exact hk3) Bd.returns (t := .boolean) (z' := (0 : Int32)) (by simp) (by decide) (hb hby d14_40) ?_ (by rw [hh, e5]; exact CR3.trans (CHv.at X5 hZ3 hEL CR3.1)) (by decide) (by decide)
      show QloS Z a1 en ac q cs wp tv kt ds N2 h0 n0 _ T5.heap _
      rw [e5]
      refine ⟨?_, N5, ?_⟩
      rotate_left
      · exact K3
      rw [own_pi_f (by simp [hc2, hQ5])]
theorem pn_0 : plainName "com/example/anchorwatch/anchorwatch/model/SemiSyncLosslessPinLaw" = true := by first | (simp [plainName, overriddenIn]; done) | decide +kernel
theorem ef_0 (m : MethodId) (p1 : Int32) (p2 : Int32) (p3 : Int32) (q4 : Int64) (cs : Int32) (fo : Value) : entryFrame m #[(.int p1), (.int p2), (.int p3), (.long q4)] maxLocals = mkF m 0 #[.val (.int p1), .val (.int p2), .val (.int p3), .val (.long q4), .second, .unset, .unset, .unset, .unset, .unset, .unset, .unset, .unset, .unset, .unset] [] := by first | (simp [entryFrame, mkF, argsToLocals, Value.category, maxLocals]; done) | rfl
def Q0 (Z : State) (p1 : Int32) (p2 : Int32) (p3 : Int32) (q4 : Int64) (cs : Int32) (fo : Value) (h0 : Heap) (n0 : Nat) (v : Option Value) (h : Heap) (L : List Loc) : Prop := v = some (.int (1 : Int32)) ∧ Fr n0 L
set_option maxRecDepth 65536 in
set_option maxHeartbeats 40000000 in
theorem rm0 (l : Launch) (Z : State) (a0 : Array Value) (hw : ∀ d ∈ tables_1, d.before a0 Z = true) (ws : List Jvm.Cond) (p1 : Int32) (p2 : Int32) (p3 : Int32) (q4 : Int64) (cs : Int32) (fo : Value) (h0 : Heap) (n0 : Nat) (Z0 : n0 ≤ h0.size) (SBC : Sta Z Z.heap "java/lang/String" "COMPACT_STRINGS" "Z" (.int cs)) (hcs : ¬ (cs = (0 : Int32))) (O_ : Old Z n0 h0) (SFO : Sta Z Z.heap "jdk/internal/util/Preconditions" "SIOOBE_FORMATTER" "Ljava/util/function/BiFunction;" fo) (hfo : fo.isRef = true) (hEL : EW Z a0 own_EL) :
    MetFree l x (head1 (Jvm.Cond.code x code maxLocals ret :: ws) room_1) (fun a U => a = #[(.int p1), (.int p2), (.int p3), (.long q4)] ∧ Z.Warmed39 U.vm ∧ U.heap = h0 ∧ CHv Z own_EL U.vm h0 ∧ ∀ x ∈ ([] : List Addr), Safe Z own_EL U.vm h0 x) (fun _ _ _ _ _ => True) (fun _ U o U' => ∃ v L, o = .returned v ∧ Q0 Z p1 p2 p3 q4 cs fo h0 n0 v U'.heap L ∧ CHr Z own_EL U.vm U.heap U'.vm U'.heap ∧ ReturnedEndW U o U' L room_1.cells room_1.slots) := by
  refine MetFree.of_bodySF (plainFor_of_name pn_0) hisR ?_
  intro p e s m args below meth c s₁ Bd hml0 hP hK
  obtain ⟨rfl, hZ, hh, hCH, hSL⟩ := hP
  have hx := Bd.exec
  have hby := Bd.bytes
  have hlk : meth.locks = false := BodyLoose.notSynchronized Bd
  have hml : c.maxLocals = 15 := hml0
  have hown : s.vm.findClass "com/example/anchorwatch/anchorwatch/model/SemiSyncLosslessPinLaw" = some m.cls := findClass_of_methodNamed Bd.named
  have hnm := (name_of_methodNamed Bd.named Bd.method).1
  have X0 : Stand p l e room_1 (s.setVm s.vm) m #[(.int p1), (.int p2), (.int p3), (.long q4)] below meth c s₁ [] 0 0 := Stand.of_body Bd
  have hZ0 : Z.Warmed39 (s.setVm s.vm).vm := hZ
  have hown0 : (s.setVm s.vm).vm.findClass "com/example/anchorwatch/anchorwatch/model/SemiSyncLosslessPinLaw" = some m.cls := hown
  have hS0 : s.Since s.vm h0.size := (State.WarmedH.refl s).since _
  have hk0 : h0.size ≤ h0.size := Nat.le_refl _
  have CR0 : CHr Z own_EL s.vm h0 s.vm h0 := CHr.refl hCH
  have e0 : s₁.heap = h0 := by rw [← hh, Bd.state]; rfl
  have N0 := Fr.nil n0
  show Gl p.tables e below (fun (o : Outcome) (U' : State) => ∃ v L, o = .returned v ∧ Q0 Z p1 p2 p3 q4 cs fo h0 n0 v U'.heap L ∧ CHr Z own_EL s.vm s.heap U'.vm U'.heap ∧ ReturnedEndW s o U' L room_1.cells room_1.slots) _
  refine Gl.pre (fun t k => castTop (ef_0 m p1 p2 p3 q4 cs fo) k) ?_
  obtain ⟨PP, hPP⟩ : ∃ P : Outcome → State → Prop, P = (fun (o : Outcome) (U' : State) => ∃ v L, o = .returned v ∧ Q0 Z p1 p2 p3 q4 cs fo h0 n0 v U'.heap L ∧ CHr Z own_EL s.vm s.heap U'.vm U'.heap ∧ ReturnedEndW s o U' L room_1.cells room_1.slots) := ⟨_, rfl⟩
  rw [← hPP]
  have hws : ∀ d ∈ StrChars.Road.words, d.before a0 Z = true := fun d hd => hw d ((by decide +kernel : ∀ d ∈ StrChars.Road.words, d ∈ tables_1) d hd)
  have hch : ∀ d ∈ StrChars.Road.wordsChN, d.before a0 Z = true := fun d hd => hw d ((by decide +kernel : ∀ d ∈ StrChars.Road.wordsChN, d ∈ tables_1) d hd)
  show Gl p.tables e below PP (s₁.setTop (mkF m 0 #[.val (.int p1), .val (.int p2), .val (.int p3), .val (.long q4), .second, .unset, .unset, .unset, .unset, .unset, .unset, .unset, .unset, .unset, .unset] []))
  refine Gl.pre (fun _ k => XS.iloadN X0.here hx rfl (hb hby at_0) rfl k) ?_
  refine Gl.pre (fun _ k => XS.iconst X0.here hx rfl (hb hby at_1) k) ?_
  refine Gl.pre (fun _ k => XS.iand X0.here hx rfl (hb hby at_2) rfl k) ?_
  show Gl p.tables e below PP (s₁.setTop (mkF m 3 #[.val (.int p1), .val (.int p2), .val (.int p3), .val (.long q4), .second, .unset, .unset, .unset, .unset, .unset, .unset, .unset, .unset, .unset, .unset] [(.int (p1 &&& (1 : Int32)))]))
  suffices J1 : Gl p.tables e below PP (s₁.setTop (mkF m 11 #[.val (.int p1), .val (.int p2), .val (.int p3), .val (.long q4), .second, .unset, .unset, .unset, .unset, .unset, .unset, .unset, .unset, .unset, .unset] [(.int (own_pi (¬ ((p1 &&& (1 : Int32)) = (0 : Int32)))))])) by
    by_cases hd1 : (p1 &&& (1 : Int32)) = (0 : Int32)
    · rw [own_pi_nt hd1] at J1
      refine Gl.pre (fun _ k => XS.ifYes X0.here hx rfl (pc0 := 3) (pc' := 10) rfl (hb hby at_3) rfl ((if0 _ _).trans (teq hd1).1) (by decide) (by decide) k) ?_
      show Gl p.tables e below PP (s₁.setTop (mkF m 10 #[.val (.int p1), .val (.int p2), .val (.int p3), .val (.long q4), .second, .unset, .unset, .unset, .unset, .unset, .unset, .unset, .unset, .unset, .unset] []))
      refine Gl.pre (fun _ k => XS.iconst X0.here hx rfl (hb hby at_10) k) ?_
      show Gl p.tables e below PP (s₁.setTop (mkF m 11 #[.val (.int p1), .val (.int p2), .val (.int p3), .val (.long q4), .second, .unset, .unset, .unset, .unset, .unset, .unset, .unset, .unset, .unset, .unset] [(.int (0 : Int32))]))
      exact J1
    · rw [own_pi_nf hd1] at J1
      refine Gl.pre (fun _ k => XS.ifNo X0.here hx rfl (hb hby at_3) rfl ((if0 _ _).trans (feq hd1).1) k) ?_
      show Gl p.tables e below PP (s₁.setTop (mkF m 6 #[.val (.int p1), .val (.int p2), .val (.int p3), .val (.long q4), .second, .unset, .unset, .unset, .unset, .unset, .unset, .unset, .unset, .unset, .unset] []))
      refine Gl.pre (fun _ k => XS.iconst X0.here hx rfl (hb hby at_6) k) ?_
      show Gl p.tables e below PP (s₁.setTop (mkF m 7 #[.val (.int p1), .val (.int p2), .val (.int p3), .val (.long q4), .second, .unset, .unset, .unset, .unset, .unset, .unset, .unset, .unset, .unset, .unset] [(.int (1 : Int32))]))
      refine Gl.pre (fun _ k => XS.goto X0.here hx rfl (pc0 := 7) (pc' := 11) rfl (hb hby at_7) (by decide) (by decide) k) ?_
      show Gl p.tables e below PP (s₁.setTop (mkF m 11 #[.val (.int p1), .val (.int p2), .val (.int p3), .val (.long q4), .second, .unset, .unset, .unset, .unset, .unset, .unset, .unset, .unset, .unset, .unset] [(.int (1 : Int32))]))
      exact J1
  show Gl p.tables e below PP (s₁.setTop (mkF m 11 #[.val (.int p1), .val (.int p2), .val (.int p3), .val (.long q4), .second, .unset, .unset, .unset, .unset, .unset, .unset, .unset, .unset, .unset, .unset] [(.int (own_pi (¬ ((p1 &&& (1 : Int32)) = (0 : Int32)))))]))
  refine Gl.pre (fun _ k => XS.istore X0.here hx rfl (hb hby at_11) rfl (l' := #[.val (.int p1), .val (.int p2), .val (.int p3), .val (.long q4), .second, .val (.int (own_pi (¬ ((p1 &&& (1 : Int32)) = (0 : Int32))))), .unset, .unset, .unset, .unset, .unset, .unset, .unset, .unset, .unset]) rfl k) ?_
  refine Gl.pre (fun _ k => XS.iloadN X0.here hx rfl (hb hby at_13) rfl k) ?_
  refine Gl.pre (fun _ k => XS.iconst X0.here hx rfl (hb hby at_14) k) ?_
  show Gl p.tables e below PP (s₁.setTop (mkF m 15 #[.val (.int p1), .val (.int p2), .val (.int p3), .val (.long q4), .second, .val (.int (own_pi (¬ ((p1 &&& (1 : Int32)) = (0 : Int32))))), .unset, .unset, .unset, .unset, .unset, .unset, .unset, .unset, .unset] [(.int (2 : Int32)), (.int p1)]))
  refine Gl.pre (fun _ k => XS.iand X0.here hx rfl (hb hby at_15) rfl k) ?_
  suffices J2 : Gl p.tables e below PP (s₁.setTop (mkF m 24 #[.val (.int p1), .val (.int p2), .val (.int p3), .val (.long q4), .second, .val (.int (own_pi (¬ ((p1 &&& (1 : Int32)) = (0 : Int32))))), .unset, .unset, .unset, .unset, .unset, .unset, .unset, .unset, .unset] [(.int (own_pi (¬ ((p1 &&& (2 : Int32)) = (0 : Int32)))))])) by
    by_cases hd2 : (p1 &&& (2 : Int32)) = (0 : Int32)
    · rw [own_pi_nt hd2] at J2
      refine Gl.pre (fun _ k => XS.ifYes X0.here hx rfl (pc0 := 16) (pc' := 23) rfl (hb hby at_16) rfl ((if0 _ _).trans (teq hd2).1) (by decide) (by decide) k) ?_
      show Gl p.tables e below PP (s₁.setTop (mkF m 23 #[.val (.int p1), .val (.int p2), .val (.int p3), .val (.long q4), .second, .val (.int (own_pi (¬ ((p1 &&& (1 : Int32)) = (0 : Int32))))), .unset, .unset, .unset, .unset, .unset, .unset, .unset, .unset, .unset] []))
      refine Gl.pre (fun _ k => XS.iconst X0.here hx rfl (hb hby at_23) k) ?_
      show Gl p.tables e below PP (s₁.setTop (mkF m 24 #[.val (.int p1), .val (.int p2), .val (.int p3), .val (.long q4), .second, .val (.int (own_pi (¬ ((p1 &&& (1 : Int32)) = (0 : Int32))))), .unset, .unset, .unset, .unset, .unset, .unset, .unset, .unset, .unset] [(.int (0 : Int32))]))
      exact J2
    · rw [own_pi_nf hd2] at J2
      refine Gl.pre (fun _ k => XS.ifNo X0.here hx rfl (hb hby at_16) rfl ((if0 _ _).trans (feq hd2).1) k) ?_
      show Gl p.tables e below PP (s₁.setTop (mkF m 19 #[.val (.int p1), .val (.int p2), .val (.int p3), .val (.long q4), .second, .val (.int (own_pi (¬ ((p1 &&& (1 : Int32)) = (0 : Int32))))), .unset, .unset, .unset, .unset, .unset, .unset, .unset, .unset, .unset] []))
      refine Gl.pre (fun _ k => XS.iconst X0.here hx rfl (hb hby at_19) k) ?_
      show Gl p.tables e below PP (s₁.setTop (mkF m 20 #[.val (.int p1), .val (.int p2), .val (.int p3), .val (.long q4), .second, .val (.int (own_pi (¬ ((p1 &&& (1 : Int32)) = (0 : Int32))))), .unset, .unset, .unset, .unset, .unset, .unset, .unset, .unset, .unset] [(.int (1 : Int32))]))
      refine Gl.pre (fun _ k => XS.goto X0.here hx rfl (pc0 := 20) (pc' := 24) rfl (hb hby at_20) (by decide) (by decide) k) ?_
      show Gl p.tables e below PP (s₁.setTop (mkF m 24 #[.val (.int p1), .val (.int p2), .val (.int p3), .val (.long q4), .second, .val (.int (own_pi (¬ ((p1 &&& (1 : Int32)) = (0 : Int32))))), .unset, .unset, .unset, .unset, .unset, .unset, .unset, .unset, .unset] [(.int (1 : Int32))]))
      exact J2
  show Gl p.tables e below PP (s₁.setTop (mkF m 24 #[.val (.int p1), .val (.int p2), .val (.int p3), .val (.long q4), .second, .val (.int (own_pi (¬ ((p1 &&& (1 : Int32)) = (0 : Int32))))), .unset, .unset, .unset, .unset, .unset, .unset, .unset, .unset, .unset] [(.int (own_pi (¬ ((p1 &&& (2 : Int32)) = (0 : Int32)))))]))
  refine Gl.pre (fun _ k => XS.istore X0.here hx rfl (hb hby at_24) rfl (l' := #[.val (.int p1), .val (.int p2), .val (.int p3), .val (.long q4), .second, .val (.int (own_pi (¬ ((p1 &&& (1 : Int32)) = (0 : Int32))))), .val (.int (own_pi (¬ ((p1 &&& (2 : Int32)) = (0 : Int32))))), .unset, .unset, .unset, .unset, .unset, .unset, .unset, .unset]) rfl k) ?_
  refine Gl.pre (fun _ k => XS.iloadN X0.here hx rfl (hb hby at_26) rfl k) ?_
  show Gl p.tables e below PP (s₁.setTop (mkF m 27 #[.val (.int p1), .val (.int p2), .val (.int p3), .val (.long q4), .second, .val (.int (own_pi (¬ ((p1 &&& (1 : Int32)) = (0 : Int32))))), .val (.int (own_pi (¬ ((p1 &&& (2 : Int32)) = (0 : Int32))))), .unset, .unset, .unset, .unset, .unset, .unset, .unset, .unset] [(.int p1)]))
  refine Gl.pre (fun _ k => XS.iconst X0.here hx rfl (hb hby at_27) k) ?_
  refine Gl.pre (fun _ k => XS.iushr X0.here hx rfl (hb hby at_28) rfl k) ?_
  refine Gl.pre (fun _ k => XS.iconst X0.here hx rfl (hb hby at_29) k) ?_
  show Gl p.tables e below PP (s₁.setTop (mkF m 30 #[.val (.int p1), .val (.int p2), .val (.int p3), .val (.long q4), .second, .val (.int (own_pi (¬ ((p1 &&& (1 : Int32)) = (0 : Int32))))), .val (.int (own_pi (¬ ((p1 &&& (2 : Int32)) = (0 : Int32))))), .unset, .unset, .unset, .unset, .unset, .unset, .unset, .unset] [(.int (3 : Int32)), (.int (own_ushr p1 (2 : Int32)))]))
  refine Gl.pre (fun _ k => XS.iand X0.here hx rfl (hb hby at_30) rfl k) ?_
  refine Gl.pre (fun _ k => XS.istore X0.here hx rfl (hb hby at_31) rfl (l' := #[.val (.int p1), .val (.int p2), .val (.int p3), .val (.long q4), .second, .val (.int (own_pi (¬ ((p1 &&& (1 : Int32)) = (0 : Int32))))), .val (.int (own_pi (¬ ((p1 &&& (2 : Int32)) = (0 : Int32))))), .val (.int ((own_ushr p1 (2 : Int32)) &&& (3 : Int32))), .unset, .unset, .unset, .unset, .unset, .unset, .unset]) rfl k) ?_
  obtain ⟨a3, T3, h3, q3, b3, kb3, X3, e3, E3, hS3, hk3, hZ3, hown3, Es3, Fc3, Fv3, Va3, -, -, CR3c, -, hne3, st3⟩ := ldcCH X0 hx hZ0 hown0 (hw _ (List.mem_of_getElem? (i := 0) rfl)) (own_wS hw) e0 hS0 hk0 hEL (by simp [own_EL, consts_1]) CR0.1 (vs := [(65 : Int32), (70 : Int32), (84 : Int32), (69 : Int32), (82 : Int32), (95 : Int32), (83 : Int32), (89 : Int32), (78 : Int32), (67 : Int32)].map Value.int) (z := (10 : Int32)) ⟨by decide, by decide⟩ (by decide) (by decide) (g := (mkF m 33 #[.val (.int p1), .val (.int p2), .val (.int p3), .val (.long q4), .second, .val (.int (own_pi (¬ ((p1 &&& (1 : Int32)) = (0 : Int32))))), .val (.int (own_pi (¬ ((p1 &&& (2 : Int32)) = (0 : Int32))))), .val (.int ((own_ushr p1 (2 : Int32)) &&& (3 : Int32))), .unset, .unset, .unset, .unset, .unset, .unset, .unset] [])) rfl (hb hby at_33) (n := 40) (by decide) (by decide) (by decide) (by decide)
  refine Gl.pre (fun _ k => st3 _ k) ?_
  have O_ := O_.ext E3
  have CR3 := CR0.trans CR3c
  have Z3 : n0 ≤ h3.size := Nat.le_trans Z0 E3.1
  have V_b3 : Bal Z h3 b3 .byte [(65 : Int32), (70 : Int32), (84 : Int32), (69 : Int32), (82 : Int32), (95 : Int32), (83 : Int32), (89 : Int32), (78 : Int32), (67 : Int32)] := own_balOf Va3 (by decide)
  show Gl p.tables e below PP (T3.setTop (mkF m 35 #[.val (.int p1), .val (.int p2), .val (.int p3), .val (.long q4), .second, .val (.int (own_pi (¬ ((p1 &&& (1 : Int32)) = (0 : Int32))))), .val (.int (own_pi (¬ ((p1 &&& (2 : Int32)) = (0 : Int32))))), .val (.int ((own_ushr p1 (2 : Int32)) &&& (3 : Int32))), .unset, .unset, .unset, .unset, .unset, .unset, .unset] [(.ref a3)]))
  refine Gl.pre (fun _ k => XS.astore X3.here hx rfl (hb hby at_35) rfl rfl (l' := #[.val (.int p1), .val (.int p2), .val (.int p3), .val (.long q4), .second, .val (.int (own_pi (¬ ((p1 &&& (1 : Int32)) = (0 : Int32))))), .val (.int (own_pi (¬ ((p1 &&& (2 : Int32)) = (0 : Int32))))), .val (.int ((own_ushr p1 (2 : Int32)) &&& (3 : Int32))), .val (.ref a3), .unset, .unset, .unset, .unset, .unset, .unset]) rfl k) ?_
  show Gl p.tables e below PP (T3.setTop (mkF m 37 #[.val (.int p1), .val (.int p2), .val (.int p3), .val (.long q4), .second, .val (.int (own_pi (¬ ((p1 &&& (1 : Int32)) = (0 : Int32))))), .val (.int (own_pi (¬ ((p1 &&& (2 : Int32)) = (0 : Int32))))), .val (.int ((own_ushr p1 (2 : Int32)) &&& (3 : Int32))), .val (.ref a3), .unset, .unset, .unset, .unset, .unset, .unset] []))
  refine Gl.pre (fun _ k => XS.iloadN X3.here hx rfl (hb hby at_37) rfl k) ?_
  refine Gl.pre (fun _ k => X3.ldcInt hx hown3 (mvT hZ3 (hw _ (List.mem_of_getElem? (i := 8) rfl))) (g := (mkF m 38 #[.val (.int p1), .val (.int p2), .val (.int p3), .val (.long q4), .second, .val (.int (own_pi (¬ ((p1 &&& (1 : Int32)) = (0 : Int32))))), .val (.int (own_pi (¬ ((p1 &&& (2 : Int32)) = (0 : Int32))))), .val (.int ((own_ushr p1 (2 : Int32)) &&& (3 : Int32))), .val (.ref a3), .unset, .unset, .unset, .unset, .unset, .unset] [(.int p2)])) rfl (hb hby at_38) _ k) ?_
  refine Gl.pre (fun _ k => XS.iand X3.here hx rfl (hb hby at_40) rfl k) ?_
  show Gl p.tables e below PP (T3.setTop (mkF m 41 #[.val (.int p1), .val (.int p2), .val (.int p3), .val (.long q4), .second, .val (.int (own_pi (¬ ((p1 &&& (1 : Int32)) = (0 : Int32))))), .val (.int (own_pi (¬ ((p1 &&& (2 : Int32)) = (0 : Int32))))), .val (.int ((own_ushr p1 (2 : Int32)) &&& (3 : Int32))), .val (.ref a3), .unset, .unset, .unset, .unset, .unset, .unset] [(.int (p2 &&& (2147483647 : Int32)))]))
  refine Gl.pre (fun _ k => XS.bipush X3.here hx rfl (hb hby at_41) k) ?_
  refine Gl.pre (fun _ k => iremM X3 hx rfl (hb hby at_43) rfl (by decide) k) ?_
  refine Gl.pre (fun _ k => XS.istore X3.here hx rfl (hb hby at_44) rfl (l' := #[.val (.int p1), .val (.int p2), .val (.int p3), .val (.long q4), .second, .val (.int (own_pi (¬ ((p1 &&& (1 : Int32)) = (0 : Int32))))), .val (.int (own_pi (¬ ((p1 &&& (2 : Int32)) = (0 : Int32))))), .val (.int ((own_ushr p1 (2 : Int32)) &&& (3 : Int32))), .val (.ref a3), .val (.int ((p2 &&& (2147483647 : Int32)) % (10 : Int32))), .unset, .unset, .unset, .unset, .unset]) rfl k) ?_
  show Gl p.tables e below PP (T3.setTop (mkF m 46 #[.val (.int p1), .val (.int p2), .val (.int p3), .val (.long q4), .second, .val (.int (own_pi (¬ ((p1 &&& (1 : Int32)) = (0 : Int32))))), .val (.int (own_pi (¬ ((p1 &&& (2 : Int32)) = (0 : Int32))))), .val (.int ((own_ushr p1 (2 : Int32)) &&& (3 : Int32))), .val (.ref a3), .val (.int ((p2 &&& (2147483647 : Int32)) % (10 : Int32))), .unset, .unset, .unset, .unset, .unset] []))
  refine Gl.pre (fun _ k => XS.iloadN X3.here hx rfl (hb hby at_46) rfl k) ?_
  refine Gl.pre (fun _ k => XS.sipush X3.here hx rfl (hb hby at_47) k) ?_
  refine Gl.pre (fun _ k => XS.iand X3.here hx rfl (hb hby at_50) rfl k) ?_
  show Gl p.tables e below PP (T3.setTop (mkF m 51 #[.val (.int p1), .val (.int p2), .val (.int p3), .val (.long q4), .second, .val (.int (own_pi (¬ ((p1 &&& (1 : Int32)) = (0 : Int32))))), .val (.int (own_pi (¬ ((p1 &&& (2 : Int32)) = (0 : Int32))))), .val (.int ((own_ushr p1 (2 : Int32)) &&& (3 : Int32))), .val (.ref a3), .val (.int ((p2 &&& (2147483647 : Int32)) % (10 : Int32))), .unset, .unset, .unset, .unset, .unset] [(.int (p3 &&& (255 : Int32)))]))
  refine Gl.pre (fun _ k => XS.i2c X3.here hx rfl (hb hby at_51) rfl k) ?_
  show Gl p.tables e below PP (T3.setTop (mkF m 52 #[.val (.int p1), .val (.int p2), .val (.int p3), .val (.long q4), .second, .val (.int (own_pi (¬ ((p1 &&& (1 : Int32)) = (0 : Int32))))), .val (.int (own_pi (¬ ((p1 &&& (2 : Int32)) = (0 : Int32))))), .val (.int ((own_ushr p1 (2 : Int32)) &&& (3 : Int32))), .val (.ref a3), .val (.int ((p2 &&& (2147483647 : Int32)) % (10 : Int32))), .unset, .unset, .unset, .unset, .unset] [(.int (own_ch p3))]))
  refine Gl.pre (fun _ k => XS.istore X3.here hx rfl (hb hby at_52) rfl (l' := #[.val (.int p1), .val (.int p2), .val (.int p3), .val (.long q4), .second, .val (.int (own_pi (¬ ((p1 &&& (1 : Int32)) = (0 : Int32))))), .val (.int (own_pi (¬ ((p1 &&& (2 : Int32)) = (0 : Int32))))), .val (.int ((own_ushr p1 (2 : Int32)) &&& (3 : Int32))), .val (.ref a3), .val (.int ((p2 &&& (2147483647 : Int32)) % (10 : Int32))), .val (.int (own_ch p3)), .unset, .unset, .unset, .unset]) rfl k) ?_
  refine Gl.pre (fun _ k => XS.iload X3.here hx rfl (hb hby at_54) rfl k) ?_
  show Gl p.tables e below PP (T3.setTop (mkF m 56 #[.val (.int p1), .val (.int p2), .val (.int p3), .val (.long q4), .second, .val (.int (own_pi (¬ ((p1 &&& (1 : Int32)) = (0 : Int32))))), .val (.int (own_pi (¬ ((p1 &&& (2 : Int32)) = (0 : Int32))))), .val (.int ((own_ushr p1 (2 : Int32)) &&& (3 : Int32))), .val (.ref a3), .val (.int ((p2 &&& (2147483647 : Int32)) % (10 : Int32))), .val (.int (own_ch p3)), .unset, .unset, .unset, .unset] [(.int ((own_ushr p1 (2 : Int32)) &&& (3 : Int32)))]))
  by_cases hc4 : ((own_ushr p1 (2 : Int32)) &&& (3 : Int32)) = (0 : Int32)
  · refine Gl.pre (fun _ k => XS.ifNo X3.here hx rfl (hb hby at_56) rfl ((if0 _ _).trans (teq hc4).2) k) ?_
    show Gl p.tables e below PP (T3.setTop (mkF m 59 #[.val (.int p1), .val (.int p2), .val (.int p3), .val (.long q4), .second, .val (.int (own_pi (¬ ((p1 &&& (1 : Int32)) = (0 : Int32))))), .val (.int (own_pi (¬ ((p1 &&& (2 : Int32)) = (0 : Int32))))), .val (.int ((own_ushr p1 (2 : Int32)) &&& (3 : Int32))), .val (.ref a3), .val (.int ((p2 &&& (2147483647 : Int32)) % (10 : Int32))), .val (.int (own_ch p3)), .unset, .unset, .unset, .unset] []))
    refine Gl.pre (fun _ k => XS.bipush X3.here hx rfl (hb hby at_59) k) ?_
    obtain ⟨T5, h5, k5, X5, e5, E5, A5, st5⟩ := newP X3 hx hZ3 (hw _ (List.mem_of_getElem? (i := 9) rfl)) e3 (g := (mkF m 61 #[.val (.int p1), .val (.int p2), .val (.int p3), .val (.long q4), .second, .val (.int (own_pi (¬ ((p1 &&& (1 : Int32)) = (0 : Int32))))), .val (.int (own_pi (¬ ((p1 &&& (2 : Int32)) = (0 : Int32))))), .val (.int ((own_ushr p1 (2 : Int32)) &&& (3 : Int32))), .val (.ref a3), .val (.int ((p2 &&& (2147483647 : Int32)) % (10 : Int32))), .val (.int (own_ch p3)), .unset, .unset, .unset, .unset] [(.int (10 : Int32))])) rfl (hb hby at_61) rfl (by decide) (cap := 10) (by decide) (by decide) (by decide) (by decide)
    obtain ⟨b5, g5⟩ : ∃ z, z = h3.size := ⟨_, rfl⟩
    rw [← g5] at A5 st5
    refine Gl.pre (fun _ k => st5 _ k) ?_
    have own_ne_b3_b5 : b3 ≠ b5 := by have q := Va3.lt; rw [g5]; exact Nat.ne_of_lt q
    have own_ne_b5_b3 : b5 ≠ b3 := own_ne_b3_b5.symm
    have own_ne_a3_b5 : a3 ≠ b5 := by have q := Es3.lt; rw [g5]; exact Nat.ne_of_lt q
    have own_ne_b5_a3 : b5 ≠ a3 := own_ne_a3_b5.symm
    have g_b5 : n0 ≤ b5 := Nat.le_trans Z3 (Nat.le_of_eq g5.symm)
    have Sf_b5 := Safe.ext E5 CR3.1 (Safe.new (Z := Z) (EL := own_EL) (vm := T3.vm) (Nat.le_of_eq g5.symm))
    have CR5 := CR3.trans (CHr.ext E5 CR3.1)
    have O_ := O_.ext E5
    have Va3 := Va3.ext E5
    have Es3 := Es3.ext E5
    have Fc3 := Fc3.ext E5
    have Fv3 := Fv3.ext E5
    have V_b3 := V_b3.ext E5
    have Z5 : n0 ≤ h5.size := Nat.le_trans Z3 E5.1
    have hk5 := Nat.le_trans hk3 E5.1
    have V_b5 : Bal Z h5 b5 .char [(0 : Int32), (0 : Int32), (0 : Int32), (0 : Int32), (0 : Int32), (0 : Int32), (0 : Int32), (0 : Int32), (0 : Int32), (0 : Int32)] := Bal.new (ty := .char) A5 (n := 10) (by decide) rfl
    refine Gl.pre (fun _ k => XS.dup X5.here hx rfl (hb hby at_63) rfl rfl k) ?_
    show Gl p.tables e below PP (T5.setTop (mkF m 64 #[.val (.int p1), .val (.int p2), .val (.int p3), .val (.long q4), .second, .val (.int (own_pi (¬ ((p1 &&& (1 : Int32)) = (0 : Int32))))), .val (.int (own_pi (¬ ((p1 &&& (2 : Int32)) = (0 : Int32))))), .val (.int ((own_ushr p1 (2 : Int32)) &&& (3 : Int32))), .val (.ref a3), .val (.int ((p2 &&& (2147483647 : Int32)) % (10 : Int32))), .val (.int (own_ch p3)), .unset, .unset, .unset, .unset] [(.ref b5), (.ref b5)]))
    refine Gl.pre (fun _ k => XS.iconst X5.here hx rfl (hb hby at_64) k) ?_
    refine Gl.pre (fun _ k => XS.bipush X5.here hx rfl (hb hby at_65) k) ?_
    obtain ⟨T6, h6, X6, e6, W6, V6, st6⟩ := own_stC X5 hx hZ3 e5 V_b5 (j := (0 : Int32)) (i := 0) (by decide) (by decide) (Nat.lt_of_lt_of_eq (by decide : 0 < 10) rfl) (g := (mkF m 67 #[.val (.int p1), .val (.int p2), .val (.int p3), .val (.long q4), .second, .val (.int (own_pi (¬ ((p1 &&& (1 : Int32)) = (0 : Int32))))), .val (.int (own_pi (¬ ((p1 &&& (2 : Int32)) = (0 : Int32))))), .val (.int ((own_ushr p1 (2 : Int32)) &&& (3 : Int32))), .val (.ref a3), .val (.int ((p2 &&& (2147483647 : Int32)) % (10 : Int32))), .val (.int (own_ch p3)), .unset, .unset, .unset, .unset] [(.int (65 : Int32)), (.int (0 : Int32)), (.ref b5), (.ref b5)])) rfl rfl (hb hby at_67)
    refine Gl.pre (fun _ k => st6 _ k) ?_
    have CR6 := CR5.trans (CHr.wr W6 Sf_b5 CR5.1)
    have Sf_b5 := Safe.wr W6 Sf_b5 CR5.1 Sf_b5
    have O_ := O_.wr W6 g_b5
    have Va3 := Va3.other W6 (own_ne_b3_b5)
    have Es3 := Es3.wr W6
    have Fc3 := Fc3.other W6 (Or.inl (own_ne_a3_b5))
    have Fv3 := Fv3.other W6 (Or.inl (own_ne_a3_b5))
    have V_b3 := V_b3.other W6 (own_ne_b3_b5)
    have Z6 : n0 ≤ h6.size := by rw [W6.size]; exact Z5
    have hk6 := Nat.le_trans hk5 (Nat.le_of_eq W6.size.symm)
    have N6 := Fr.snoc X6 N0 g_b5
    have V_b5 : Bal Z h6 b5 .char [(nar .char (65 : Int32)), (0 : Int32), (0 : Int32), (0 : Int32), (0 : Int32), (0 : Int32), (0 : Int32), (0 : Int32), (0 : Int32), (0 : Int32)] := V6
    show Gl p.tables e below PP (T6.setTop (mkF m 68 #[.val (.int p1), .val (.int p2), .val (.int p3), .val (.long q4), .second, .val (.int (own_pi (¬ ((p1 &&& (1 : Int32)) = (0 : Int32))))), .val (.int (own_pi (¬ ((p1 &&& (2 : Int32)) = (0 : Int32))))), .val (.int ((own_ushr p1 (2 : Int32)) &&& (3 : Int32))), .val (.ref a3), .val (.int ((p2 &&& (2147483647 : Int32)) % (10 : Int32))), .val (.int (own_ch p3)), .unset, .unset, .unset, .unset] [(.ref b5)]))
    refine Gl.pre (fun _ k => XS.dup X6.here hx rfl (hb hby at_68) rfl rfl k) ?_
    refine Gl.pre (fun _ k => XS.iconst X6.here hx rfl (hb hby at_69) k) ?_
    refine Gl.pre (fun _ k => XS.bipush X6.here hx rfl (hb hby at_70) k) ?_
    show Gl p.tables e below PP (T6.setTop (mkF m 72 #[.val (.int p1), .val (.int p2), .val (.int p3), .val (.long q4), .second, .val (.int (own_pi (¬ ((p1 &&& (1 : Int32)) = (0 : Int32))))), .val (.int (own_pi (¬ ((p1 &&& (2 : Int32)) = (0 : Int32))))), .val (.int ((own_ushr p1 (2 : Int32)) &&& (3 : Int32))), .val (.ref a3), .val (.int ((p2 &&& (2147483647 : Int32)) % (10 : Int32))), .val (.int (own_ch p3)), .unset, .unset, .unset, .unset] [(.int (70 : Int32)), (.int (1 : Int32)), (.ref b5), (.ref b5)]))
    obtain ⟨T7, h7, X7, e7, W7, V7, st7⟩ := own_stC X6 hx hZ3 e6 V_b5 (j := (1 : Int32)) (i := 1) (by decide) (by decide) (Nat.lt_of_lt_of_eq (by decide : 1 < 10) rfl) (g := (mkF m 72 #[.val (.int p1), .val (.int p2), .val (.int p3), .val (.long q4), .second, .val (.int (own_pi (¬ ((p1 &&& (1 : Int32)) = (0 : Int32))))), .val (.int (own_pi (¬ ((p1 &&& (2 : Int32)) = (0 : Int32))))), .val (.int ((own_ushr p1 (2 : Int32)) &&& (3 : Int32))), .val (.ref a3), .val (.int ((p2 &&& (2147483647 : Int32)) % (10 : Int32))), .val (.int (own_ch p3)), .unset, .unset, .unset, .unset] [(.int (70 : Int32)), (.int (1 : Int32)), (.ref b5), (.ref b5)])) rfl rfl (hb hby at_72)
    refine Gl.pre (fun _ k => st7 _ k) ?_
    have CR7 := CR6.trans (CHr.wr W7 Sf_b5 CR6.1)
    have Sf_b5 := Safe.wr W7 Sf_b5 CR6.1 Sf_b5
    have O_ := O_.wr W7 g_b5
    have Va3 := Va3.other W7 (own_ne_b3_b5)
    have Es3 := Es3.wr W7
    have Fc3 := Fc3.other W7 (Or.inl (own_ne_a3_b5))
    have Fv3 := Fv3.other W7 (Or.inl (own_ne_a3_b5))
    have V_b3 := V_b3.other W7 (own_ne_b3_b5)
    have Z7 : n0 ≤ h7.size := by rw [W7.size]; exact Z6
    have hk7 := Nat.le_trans hk6 (Nat.le_of_eq W7.size.symm)
    have N7 := Fr.snoc X7 N6 g_b5
    have V_b5 : Bal Z h7 b5 .char [(nar .char (65 : Int32)), (nar .char (70 : Int32)), (0 : Int32), (0 : Int32), (0 : Int32), (0 : Int32), (0 : Int32), (0 : Int32), (0 : Int32), (0 : Int32)] := V7
    refine Gl.pre (fun _ k => XS.dup X7.here hx rfl (hb hby at_73) rfl rfl k) ?_
    refine Gl.pre (fun _ k => XS.iconst X7.here hx rfl (hb hby at_74) k) ?_
    show Gl p.tables e below PP (T7.setTop (mkF m 75 #[.val (.int p1), .val (.int p2), .val (.int p3), .val (.long q4), .second, .val (.int (own_pi (¬ ((p1 &&& (1 : Int32)) = (0 : Int32))))), .val (.int (own_pi (¬ ((p1 &&& (2 : Int32)) = (0 : Int32))))), .val (.int ((own_ushr p1 (2 : Int32)) &&& (3 : Int32))), .val (.ref a3), .val (.int ((p2 &&& (2147483647 : Int32)) % (10 : Int32))), .val (.int (own_ch p3)), .unset, .unset, .unset, .unset] [(.int (2 : Int32)), (.ref b5), (.ref b5)]))
    refine Gl.pre (fun _ k => XS.bipush X7.here hx rfl (hb hby at_75) k) ?_
    obtain ⟨T8, h8, X8, e8, W8, V8, st8⟩ := own_stC X7 hx hZ3 e7 V_b5 (j := (2 : Int32)) (i := 2) (by decide) (by decide) (Nat.lt_of_lt_of_eq (by decide : 2 < 10) rfl) (g := (mkF m 77 #[.val (.int p1), .val (.int p2), .val (.int p3), .val (.long q4), .second, .val (.int (own_pi (¬ ((p1 &&& (1 : Int32)) = (0 : Int32))))), .val (.int (own_pi (¬ ((p1 &&& (2 : Int32)) = (0 : Int32))))), .val (.int ((own_ushr p1 (2 : Int32)) &&& (3 : Int32))), .val (.ref a3), .val (.int ((p2 &&& (2147483647 : Int32)) % (10 : Int32))), .val (.int (own_ch p3)), .unset, .unset, .unset, .unset] [(.int (84 : Int32)), (.int (2 : Int32)), (.ref b5), (.ref b5)])) rfl rfl (hb hby at_77)
    refine Gl.pre (fun _ k => st8 _ k) ?_
    have CR8 := CR7.trans (CHr.wr W8 Sf_b5 CR7.1)
    have Sf_b5 := Safe.wr W8 Sf_b5 CR7.1 Sf_b5
    have O_ := O_.wr W8 g_b5
    have Va3 := Va3.other W8 (own_ne_b3_b5)
    have Es3 := Es3.wr W8
    have Fc3 := Fc3.other W8 (Or.inl (own_ne_a3_b5))
    have Fv3 := Fv3.other W8 (Or.inl (own_ne_a3_b5))
    have V_b3 := V_b3.other W8 (own_ne_b3_b5)
    have Z8 : n0 ≤ h8.size := by rw [W8.size]; exact Z7
    have hk8 := Nat.le_trans hk7 (Nat.le_of_eq W8.size.symm)
    have N8 := Fr.snoc X8 N7 g_b5
    have V_b5 : Bal Z h8 b5 .char [(nar .char (65 : Int32)), (nar .char (70 : Int32)), (nar .char (84 : Int32)), (0 : Int32), (0 : Int32), (0 : Int32), (0 : Int32), (0 : Int32), (0 : Int32), (0 : Int32)] := V8
    refine Gl.pre (fun _ k => XS.dup X8.here hx rfl (hb hby at_78) rfl rfl k) ?_
    show Gl p.tables e below PP (T8.setTop (mkF m 79 #[.val (.int p1), .val (.int p2), .val (.int p3), .val (.long q4), .second, .val (.int (own_pi (¬ ((p1 &&& (1 : Int32)) = (0 : Int32))))), .val (.int (own_pi (¬ ((p1 &&& (2 : Int32)) = (0 : Int32))))), .val (.int ((own_ushr p1 (2 : Int32)) &&& (3 : Int32))), .val (.ref a3), .val (.int ((p2 &&& (2147483647 : Int32)) % (10 : Int32))), .val (.int (own_ch p3)), .unset, .unset, .unset, .unset] [(.ref b5), (.ref b5)]))
    refine Gl.pre (fun _ k => XS.iconst X8.here hx rfl (hb hby at_79) k) ?_
    refine Gl.pre (fun _ k => XS.bipush X8.here hx rfl (hb hby at_80) k) ?_
    obtain ⟨T9, h9, X9, e9, W9, V9, st9⟩ := own_stC X8 hx hZ3 e8 V_b5 (j := (3 : Int32)) (i := 3) (by decide) (by decide) (Nat.lt_of_lt_of_eq (by decide : 3 < 10) rfl) (g := (mkF m 82 #[.val (.int p1), .val (.int p2), .val (.int p3), .val (.long q4), .second, .val (.int (own_pi (¬ ((p1 &&& (1 : Int32)) = (0 : Int32))))), .val (.int (own_pi (¬ ((p1 &&& (2 : Int32)) = (0 : Int32))))), .val (.int ((own_ushr p1 (2 : Int32)) &&& (3 : Int32))), .val (.ref a3), .val (.int ((p2 &&& (2147483647 : Int32)) % (10 : Int32))), .val (.int (own_ch p3)), .unset, .unset, .unset, .unset] [(.int (69 : Int32)), (.int (3 : Int32)), (.ref b5), (.ref b5)])) rfl rfl (hb hby at_82)
    refine Gl.pre (fun _ k => st9 _ k) ?_
    have CR9 := CR8.trans (CHr.wr W9 Sf_b5 CR8.1)
    have Sf_b5 := Safe.wr W9 Sf_b5 CR8.1 Sf_b5
    have O_ := O_.wr W9 g_b5
    have Va3 := Va3.other W9 (own_ne_b3_b5)
    have Es3 := Es3.wr W9
    have Fc3 := Fc3.other W9 (Or.inl (own_ne_a3_b5))
    have Fv3 := Fv3.other W9 (Or.inl (own_ne_a3_b5))
    have V_b3 := V_b3.other W9 (own_ne_b3_b5)
    have Z9 : n0 ≤ h9.size := by rw [W9.size]; exact Z8
    have hk9 := Nat.le_trans hk8 (Nat.le_of_eq W9.size.symm)
    have N9 := Fr.snoc X9 N8 g_b5
    have V_b5 : Bal Z h9 b5 .char [(nar .char (65 : Int32)), (nar .char (70 : Int32)), (nar .char (84 : Int32)), (nar .char (69 : Int32)), (0 : Int32), (0 : Int32), (0 : Int32), (0 : Int32), (0 : Int32), (0 : Int32)] := V9
    show Gl p.tables e below PP (T9.setTop (mkF m 83 #[.val (.int p1), .val (.int p2), .val (.int p3), .val (.long q4), .second, .val (.int (own_pi (¬ ((p1 &&& (1 : Int32)) = (0 : Int32))))), .val (.int (own_pi (¬ ((p1 &&& (2 : Int32)) = (0 : Int32))))), .val (.int ((own_ushr p1 (2 : Int32)) &&& (3 : Int32))), .val (.ref a3), .val (.int ((p2 &&& (2147483647 : Int32)) % (10 : Int32))), .val (.int (own_ch p3)), .unset, .unset, .unset, .unset] [(.ref b5)]))
    refine Gl.pre (fun _ k => XS.dup X9.here hx rfl (hb hby at_83) rfl rfl k) ?_
    refine Gl.pre (fun _ k => XS.iconst X9.here hx rfl (hb hby at_84) k) ?_
    refine Gl.pre (fun _ k => XS.bipush X9.here hx rfl (hb hby at_85) k) ?_
    show Gl p.tables e below PP (T9.setTop (mkF m 87 #[.val (.int p1), .val (.int p2), .val (.int p3), .val (.long q4), .second, .val (.int (own_pi (¬ ((p1 &&& (1 : Int32)) = (0 : Int32))))), .val (.int (own_pi (¬ ((p1 &&& (2 : Int32)) = (0 : Int32))))), .val (.int ((own_ushr p1 (2 : Int32)) &&& (3 : Int32))), .val (.ref a3), .val (.int ((p2 &&& (2147483647 : Int32)) % (10 : Int32))), .val (.int (own_ch p3)), .unset, .unset, .unset, .unset] [(.int (82 : Int32)), (.int (4 : Int32)), (.ref b5), (.ref b5)]))
    obtain ⟨T10, h10, X10, e10, W10, V10, st10⟩ := own_stC X9 hx hZ3 e9 V_b5 (j := (4 : Int32)) (i := 4) (by decide) (by decide) (Nat.lt_of_lt_of_eq (by decide : 4 < 10) rfl) (g := (mkF m 87 #[.val (.int p1), .val (.int p2), .val (.int p3), .val (.long q4), .second, .val (.int (own_pi (¬ ((p1 &&& (1 : Int32)) = (0 : Int32))))), .val (.int (own_pi (¬ ((p1 &&& (2 : Int32)) = (0 : Int32))))), .val (.int ((own_ushr p1 (2 : Int32)) &&& (3 : Int32))), .val (.ref a3), .val (.int ((p2 &&& (2147483647 : Int32)) % (10 : Int32))), .val (.int (own_ch p3)), .unset, .unset, .unset, .unset] [(.int (82 : Int32)), (.int (4 : Int32)), (.ref b5), (.ref b5)])) rfl rfl (hb hby at_87)
    refine Gl.pre (fun _ k => st10 _ k) ?_
    have CR10 := CR9.trans (CHr.wr W10 Sf_b5 CR9.1)
    have Sf_b5 := Safe.wr W10 Sf_b5 CR9.1 Sf_b5
    have O_ := O_.wr W10 g_b5
    have Va3 := Va3.other W10 (own_ne_b3_b5)
    have Es3 := Es3.wr W10
    have Fc3 := Fc3.other W10 (Or.inl (own_ne_a3_b5))
    have Fv3 := Fv3.other W10 (Or.inl (own_ne_a3_b5))
    have V_b3 := V_b3.other W10 (own_ne_b3_b5)
    have Z10 : n0 ≤ h10.size := by rw [W10.size]; exact Z9
    have hk10 := Nat.le_trans hk9 (Nat.le_of_eq W10.size.symm)
    have N10 := Fr.snoc X10 N9 g_b5
    have V_b5 : Bal Z h10 b5 .char [(nar .char (65 : Int32)), (nar .char (70 : Int32)), (nar .char (84 : Int32)), (nar .char (69 : Int32)), (nar .char (82 : Int32)), (0 : Int32), (0 : Int32), (0 : Int32), (0 : Int32), (0 : Int32)] := V10
    refine Gl.pre (fun _ k => XS.dup X10.here hx rfl (hb hby at_88) rfl rfl k) ?_
    refine Gl.pre (fun _ k => XS.iconst X10.here hx rfl (hb hby at_89) k) ?_
    show Gl p.tables e below PP (T10.setTop (mkF m 90 #[.val (.int p1), .val (.int p2), .val (.int p3), .val (.long q4), .second, .val (.int (own_pi (¬ ((p1 &&& (1 : Int32)) = (0 : Int32))))), .val (.int (own_pi (¬ ((p1 &&& (2 : Int32)) = (0 : Int32))))), .val (.int ((own_ushr p1 (2 : Int32)) &&& (3 : Int32))), .val (.ref a3), .val (.int ((p2 &&& (2147483647 : Int32)) % (10 : Int32))), .val (.int (own_ch p3)), .unset, .unset, .unset, .unset] [(.int (5 : Int32)), (.ref b5), (.ref b5)]))
    refine Gl.pre (fun _ k => XS.bipush X10.here hx rfl (hb hby at_90) k) ?_
    obtain ⟨T11, h11, X11, e11, W11, V11, st11⟩ := own_stC X10 hx hZ3 e10 V_b5 (j := (5 : Int32)) (i := 5) (by decide) (by decide) (Nat.lt_of_lt_of_eq (by decide : 5 < 10) rfl) (g := (mkF m 92 #[.val (.int p1), .val (.int p2), .val (.int p3), .val (.long q4), .second, .val (.int (own_pi (¬ ((p1 &&& (1 : Int32)) = (0 : Int32))))), .val (.int (own_pi (¬ ((p1 &&& (2 : Int32)) = (0 : Int32))))), .val (.int ((own_ushr p1 (2 : Int32)) &&& (3 : Int32))), .val (.ref a3), .val (.int ((p2 &&& (2147483647 : Int32)) % (10 : Int32))), .val (.int (own_ch p3)), .unset, .unset, .unset, .unset] [(.int (95 : Int32)), (.int (5 : Int32)), (.ref b5), (.ref b5)])) rfl rfl (hb hby at_92)
    refine Gl.pre (fun _ k => st11 _ k) ?_
    have CR11 := CR10.trans (CHr.wr W11 Sf_b5 CR10.1)
    have Sf_b5 := Safe.wr W11 Sf_b5 CR10.1 Sf_b5
    have O_ := O_.wr W11 g_b5
    have Va3 := Va3.other W11 (own_ne_b3_b5)
    have Es3 := Es3.wr W11
    have Fc3 := Fc3.other W11 (Or.inl (own_ne_a3_b5))
    have Fv3 := Fv3.other W11 (Or.inl (own_ne_a3_b5))
    have V_b3 := V_b3.other W11 (own_ne_b3_b5)
    have Z11 : n0 ≤ h11.size := by rw [W11.size]; exact Z10
    have hk11 := Nat.le_trans hk10 (Nat.le_of_eq W11.size.symm)
    have N11 := Fr.snoc X11 N10 g_b5
    have V_b5 : Bal Z h11 b5 .char [(nar .char (65 : Int32)), (nar .char (70 : Int32)), (nar .char (84 : Int32)), (nar .char (69 : Int32)), (nar .char (82 : Int32)), (nar .char (95 : Int32)), (0 : Int32), (0 : Int32), (0 : Int32), (0 : Int32)] := V11
    refine Gl.pre (fun _ k => XS.dup X11.here hx rfl (hb hby at_93) rfl rfl k) ?_
    show Gl p.tables e below PP (T11.setTop (mkF m 94 #[.val (.int p1), .val (.int p2), .val (.int p3), .val (.long q4), .second, .val (.int (own_pi (¬ ((p1 &&& (1 : Int32)) = (0 : Int32))))), .val (.int (own_pi (¬ ((p1 &&& (2 : Int32)) = (0 : Int32))))), .val (.int ((own_ushr p1 (2 : Int32)) &&& (3 : Int32))), .val (.ref a3), .val (.int ((p2 &&& (2147483647 : Int32)) % (10 : Int32))), .val (.int (own_ch p3)), .unset, .unset, .unset, .unset] [(.ref b5), (.ref b5)]))
    refine Gl.pre (fun _ k => XS.bipush X11.here hx rfl (hb hby at_94) k) ?_
    refine Gl.pre (fun _ k => XS.bipush X11.here hx rfl (hb hby at_96) k) ?_
    obtain ⟨T12, h12, X12, e12, W12, V12, st12⟩ := own_stC X11 hx hZ3 e11 V_b5 (j := (6 : Int32)) (i := 6) (by decide) (by decide) (Nat.lt_of_lt_of_eq (by decide : 6 < 10) rfl) (g := (mkF m 98 #[.val (.int p1), .val (.int p2), .val (.int p3), .val (.long q4), .second, .val (.int (own_pi (¬ ((p1 &&& (1 : Int32)) = (0 : Int32))))), .val (.int (own_pi (¬ ((p1 &&& (2 : Int32)) = (0 : Int32))))), .val (.int ((own_ushr p1 (2 : Int32)) &&& (3 : Int32))), .val (.ref a3), .val (.int ((p2 &&& (2147483647 : Int32)) % (10 : Int32))), .val (.int (own_ch p3)), .unset, .unset, .unset, .unset] [(.int (83 : Int32)), (.int (6 : Int32)), (.ref b5), (.ref b5)])) rfl rfl (hb hby at_98)
    refine Gl.pre (fun _ k => st12 _ k) ?_
    have CR12 := CR11.trans (CHr.wr W12 Sf_b5 CR11.1)
    have Sf_b5 := Safe.wr W12 Sf_b5 CR11.1 Sf_b5
    have O_ := O_.wr W12 g_b5
    have Va3 := Va3.other W12 (own_ne_b3_b5)
    have Es3 := Es3.wr W12
    have Fc3 := Fc3.other W12 (Or.inl (own_ne_a3_b5))
    have Fv3 := Fv3.other W12 (Or.inl (own_ne_a3_b5))
    have V_b3 := V_b3.other W12 (own_ne_b3_b5)
    have Z12 : n0 ≤ h12.size := by rw [W12.size]; exact Z11
    have hk12 := Nat.le_trans hk11 (Nat.le_of_eq W12.size.symm)
    have N12 := Fr.snoc X12 N11 g_b5
    have V_b5 : Bal Z h12 b5 .char [(nar .char (65 : Int32)), (nar .char (70 : Int32)), (nar .char (84 : Int32)), (nar .char (69 : Int32)), (nar .char (82 : Int32)), (nar .char (95 : Int32)), (nar .char (83 : Int32)), (0 : Int32), (0 : Int32), (0 : Int32)] := V12
    show Gl p.tables e below PP (T12.setTop (mkF m 99 #[.val (.int p1), .val (.int p2), .val (.int p3), .val (.long q4), .second, .val (.int (own_pi (¬ ((p1 &&& (1 : Int32)) = (0 : Int32))))), .val (.int (own_pi (¬ ((p1 &&& (2 : Int32)) = (0 : Int32))))), .val (.int ((own_ushr p1 (2 : Int32)) &&& (3 : Int32))), .val (.ref a3), .val (.int ((p2 &&& (2147483647 : Int32)) % (10 : Int32))), .val (.int (own_ch p3)), .unset, .unset, .unset, .unset] [(.ref b5)]))
    refine Gl.pre (fun _ k => XS.dup X12.here hx rfl (hb hby at_99) rfl rfl k) ?_
    refine Gl.pre (fun _ k => XS.bipush X12.here hx rfl (hb hby at_100) k) ?_
    refine Gl.pre (fun _ k => XS.bipush X12.here hx rfl (hb hby at_102) k) ?_
    show Gl p.tables e below PP (T12.setTop (mkF m 104 #[.val (.int p1), .val (.int p2), .val (.int p3), .val (.long q4), .second, .val (.int (own_pi (¬ ((p1 &&& (1 : Int32)) = (0 : Int32))))), .val (.int (own_pi (¬ ((p1 &&& (2 : Int32)) = (0 : Int32))))), .val (.int ((own_ushr p1 (2 : Int32)) &&& (3 : Int32))), .val (.ref a3), .val (.int ((p2 &&& (2147483647 : Int32)) % (10 : Int32))), .val (.int (own_ch p3)), .unset, .unset, .unset, .unset] [(.int (89 : Int32)), (.int (7 : Int32)), (.ref b5), (.ref b5)]))
    obtain ⟨T13, h13, X13, e13, W13, V13, st13⟩ := own_stC X12 hx hZ3 e12 V_b5 (j := (7 : Int32)) (i := 7) (by decide) (by decide) (Nat.lt_of_lt_of_eq (by decide : 7 < 10) rfl) (g := (mkF m 104 #[.val (.int p1), .val (.int p2), .val (.int p3), .val (.long q4), .second, .val (.int (own_pi (¬ ((p1 &&& (1 : Int32)) = (0 : Int32))))), .val (.int (own_pi (¬ ((p1 &&& (2 : Int32)) = (0 : Int32))))), .val (.int ((own_ushr p1 (2 : Int32)) &&& (3 : Int32))), .val (.ref a3), .val (.int ((p2 &&& (2147483647 : Int32)) % (10 : Int32))), .val (.int (own_ch p3)), .unset, .unset, .unset, .unset] [(.int (89 : Int32)), (.int (7 : Int32)), (.ref b5), (.ref b5)])) rfl rfl (hb hby at_104)
    refine Gl.pre (fun _ k => st13 _ k) ?_
    have CR13 := CR12.trans (CHr.wr W13 Sf_b5 CR12.1)
    have Sf_b5 := Safe.wr W13 Sf_b5 CR12.1 Sf_b5
    have O_ := O_.wr W13 g_b5
    have Va3 := Va3.other W13 (own_ne_b3_b5)
    have Es3 := Es3.wr W13
    have Fc3 := Fc3.other W13 (Or.inl (own_ne_a3_b5))
    have Fv3 := Fv3.other W13 (Or.inl (own_ne_a3_b5))
    have V_b3 := V_b3.other W13 (own_ne_b3_b5)
    have Z13 : n0 ≤ h13.size := by rw [W13.size]; exact Z12
    have hk13 := Nat.le_trans hk12 (Nat.le_of_eq W13.size.symm)
    have N13 := Fr.snoc X13 N12 g_b5
    have V_b5 : Bal Z h13 b5 .char [(nar .char (65 : Int32)), (nar .char (70 : Int32)), (nar .char (84 : Int32)), (nar .char (69 : Int32)), (nar .char (82 : Int32)), (nar .char (95 : Int32)), (nar .char (83 : Int32)), (nar .char (89 : Int32)), (0 : Int32), (0 : Int32)] := V13
    refine Gl.pre (fun _ k => XS.dup X13.here hx rfl (hb hby at_105) rfl rfl k) ?_
    refine Gl.pre (fun _ k => XS.bipush X13.here hx rfl (hb hby at_106) k) ?_
    show Gl p.tables e below PP (T13.setTop (mkF m 108 #[.val (.int p1), .val (.int p2), .val (.int p3), .val (.long q4), .second, .val (.int (own_pi (¬ ((p1 &&& (1 : Int32)) = (0 : Int32))))), .val (.int (own_pi (¬ ((p1 &&& (2 : Int32)) = (0 : Int32))))), .val (.int ((own_ushr p1 (2 : Int32)) &&& (3 : Int32))), .val (.ref a3), .val (.int ((p2 &&& (2147483647 : Int32)) % (10 : Int32))), .val (.int (own_ch p3)), .unset, .unset, .unset, .unset] [(.int (8 : Int32)), (.ref b5), (.ref b5)]))
    refine Gl.pre (fun _ k => XS.bipush X13.here hx rfl (hb hby at_108) k) ?_
    obtain ⟨T14, h14, X14, e14, W14, V14, st14⟩ := own_stC X13 hx hZ3 e13 V_b5 (j := (8 : Int32)) (i := 8) (by decide) (by decide) (Nat.lt_of_lt_of_eq (by decide : 8 < 10) rfl) (g := (mkF m 110 #[.val (.int p1), .val (.int p2), .val (.int p3), .val (.long q4), .second, .val (.int (own_pi (¬ ((p1 &&& (1 : Int32)) = (0 : Int32))))), .val (.int (own_pi (¬ ((p1 &&& (2 : Int32)) = (0 : Int32))))), .val (.int ((own_ushr p1 (2 : Int32)) &&& (3 : Int32))), .val (.ref a3), .val (.int ((p2 &&& (2147483647 : Int32)) % (10 : Int32))), .val (.int (own_ch p3)), .unset, .unset, .unset, .unset] [(.int (78 : Int32)), (.int (8 : Int32)), (.ref b5), (.ref b5)])) rfl rfl (hb hby at_110)
    refine Gl.pre (fun _ k => st14 _ k) ?_
    have CR14 := CR13.trans (CHr.wr W14 Sf_b5 CR13.1)
    have Sf_b5 := Safe.wr W14 Sf_b5 CR13.1 Sf_b5
    have O_ := O_.wr W14 g_b5
    have Va3 := Va3.other W14 (own_ne_b3_b5)
    have Es3 := Es3.wr W14
    have Fc3 := Fc3.other W14 (Or.inl (own_ne_a3_b5))
    have Fv3 := Fv3.other W14 (Or.inl (own_ne_a3_b5))
    have V_b3 := V_b3.other W14 (own_ne_b3_b5)
    have Z14 : n0 ≤ h14.size := by rw [W14.size]; exact Z13
    have hk14 := Nat.le_trans hk13 (Nat.le_of_eq W14.size.symm)
    have N14 := Fr.snoc X14 N13 g_b5
    have V_b5 : Bal Z h14 b5 .char [(nar .char (65 : Int32)), (nar .char (70 : Int32)), (nar .char (84 : Int32)), (nar .char (69 : Int32)), (nar .char (82 : Int32)), (nar .char (95 : Int32)), (nar .char (83 : Int32)), (nar .char (89 : Int32)), (nar .char (78 : Int32)), (0 : Int32)] := V14
    refine Gl.pre (fun _ k => XS.dup X14.here hx rfl (hb hby at_111) rfl rfl k) ?_
    show Gl p.tables e below PP (T14.setTop (mkF m 112 #[.val (.int p1), .val (.int p2), .val (.int p3), .val (.long q4), .second, .val (.int (own_pi (¬ ((p1 &&& (1 : Int32)) = (0 : Int32))))), .val (.int (own_pi (¬ ((p1 &&& (2 : Int32)) = (0 : Int32))))), .val (.int ((own_ushr p1 (2 : Int32)) &&& (3 : Int32))), .val (.ref a3), .val (.int ((p2 &&& (2147483647 : Int32)) % (10 : Int32))), .val (.int (own_ch p3)), .unset, .unset, .unset, .unset] [(.ref b5), (.ref b5)]))
    refine Gl.pre (fun _ k => XS.bipush X14.here hx rfl (hb hby at_112) k) ?_
    refine Gl.pre (fun _ k => XS.bipush X14.here hx rfl (hb hby at_114) k) ?_
    obtain ⟨T15, h15, X15, e15, W15, V15, st15⟩ := own_stC X14 hx hZ3 e14 V_b5 (j := (9 : Int32)) (i := 9) (by decide) (by decide) (Nat.lt_of_lt_of_eq (by decide : 9 < 10) rfl) (g := (mkF m 116 #[.val (.int p1), .val (.int p2), .val (.int p3), .val (.long q4), .second, .val (.int (own_pi (¬ ((p1 &&& (1 : Int32)) = (0 : Int32))))), .val (.int (own_pi (¬ ((p1 &&& (2 : Int32)) = (0 : Int32))))), .val (.int ((own_ushr p1 (2 : Int32)) &&& (3 : Int32))), .val (.ref a3), .val (.int ((p2 &&& (2147483647 : Int32)) % (10 : Int32))), .val (.int (own_ch p3)), .unset, .unset, .unset, .unset] [(.int (67 : Int32)), (.int (9 : Int32)), (.ref b5), (.ref b5)])) rfl rfl (hb hby at_116)
    refine Gl.pre (fun _ k => st15 _ k) ?_
    have CR15 := CR14.trans (CHr.wr W15 Sf_b5 CR14.1)
    have Sf_b5 := Safe.wr W15 Sf_b5 CR14.1 Sf_b5
    have O_ := O_.wr W15 g_b5
    have Va3 := Va3.other W15 (own_ne_b3_b5)
    have Es3 := Es3.wr W15
    have Fc3 := Fc3.other W15 (Or.inl (own_ne_a3_b5))
    have Fv3 := Fv3.other W15 (Or.inl (own_ne_a3_b5))
    have V_b3 := V_b3.other W15 (own_ne_b3_b5)
    have Z15 : n0 ≤ h15.size := by rw [W15.size]; exact Z14
    have hk15 := Nat.le_trans hk14 (Nat.le_of_eq W15.size.symm)
    have N15 := Fr.snoc X15 N14 g_b5
    have V_b5 : Bal Z h15 b5 .char [(nar .char (65 : Int32)), (nar .char (70 : Int32)), (nar .char (84 : Int32)), (nar .char (69 : Int32)), (nar .char (82 : Int32)), (nar .char (95 : Int32)), (nar .char (83 : Int32)), (nar .char (89 : Int32)), (nar .char (78 : Int32)), (nar .char (67 : Int32))] := V15
    show Gl p.tables e below PP (T15.setTop (mkF m 117 #[.val (.int p1), .val (.int p2), .val (.int p3), .val (.long q4), .second, .val (.int (own_pi (¬ ((p1 &&& (1 : Int32)) = (0 : Int32))))), .val (.int (own_pi (¬ ((p1 &&& (2 : Int32)) = (0 : Int32))))), .val (.int ((own_ushr p1 (2 : Int32)) &&& (3 : Int32))), .val (.ref a3), .val (.int ((p2 &&& (2147483647 : Int32)) % (10 : Int32))), .val (.int (own_ch p3)), .unset, .unset, .unset, .unset] [(.ref b5)]))
    refine Gl.pre (fun _ k => XS.astore X15.here hx rfl (hb hby at_117) rfl rfl (l' := #[.val (.int p1), .val (.int p2), .val (.int p3), .val (.long q4), .second, .val (.int (own_pi (¬ ((p1 &&& (1 : Int32)) = (0 : Int32))))), .val (.int (own_pi (¬ ((p1 &&& (2 : Int32)) = (0 : Int32))))), .val (.int ((own_ushr p1 (2 : Int32)) &&& (3 : Int32))), .val (.ref a3), .val (.int ((p2 &&& (2147483647 : Int32)) % (10 : Int32))), .val (.int (own_ch p3)), .unset, .unset, .val (.ref b5), .unset]) rfl k) ?_
    refine Gl.pre (fun _ k => XS.aload X15.here hx rfl (hb hby at_119) rfl rfl k) ?_
    refine Gl.pre (fun _ k => XS.iload X15.here hx rfl (hb hby at_121) rfl k) ?_
    show Gl p.tables e below PP (T15.setTop (mkF m 123 #[.val (.int p1), .val (.int p2), .val (.int p3), .val (.long q4), .second, .val (.int (own_pi (¬ ((p1 &&& (1 : Int32)) = (0 : Int32))))), .val (.int (own_pi (¬ ((p1 &&& (2 : Int32)) = (0 : Int32))))), .val (.int ((own_ushr p1 (2 : Int32)) &&& (3 : Int32))), .val (.ref a3), .val (.int ((p2 &&& (2147483647 : Int32)) % (10 : Int32))), .val (.int (own_ch p3)), .unset, .unset, .val (.ref b5), .unset] [(.int ((p2 &&& (2147483647 : Int32)) % (10 : Int32))), (.ref b5)]))
    refine Gl.pre (fun _ k => XS.iload X15.here hx rfl (hb hby at_123) rfl k) ?_
    obtain ⟨T16, h16, X16, e16, W16, V16, st16⟩ := own_stC X15 hx hZ3 e15 V_b5 (j := ((p2 &&& (2147483647 : Int32)) % (10 : Int32))) (i := (((p2 &&& (2147483647 : Int32)) % (10 : Int32))).toNatClampNeg) (own_ix p2).1 rfl (Nat.lt_of_lt_of_eq (own_ix p2).2 rfl) (g := (mkF m 125 #[.val (.int p1), .val (.int p2), .val (.int p3), .val (.long q4), .second, .val (.int (own_pi (¬ ((p1 &&& (1 : Int32)) = (0 : Int32))))), .val (.int (own_pi (¬ ((p1 &&& (2 : Int32)) = (0 : Int32))))), .val (.int ((own_ushr p1 (2 : Int32)) &&& (3 : Int32))), .val (.ref a3), .val (.int ((p2 &&& (2147483647 : Int32)) % (10 : Int32))), .val (.int (own_ch p3)), .unset, .unset, .val (.ref b5), .unset] [(.int (own_ch p3)), (.int ((p2 &&& (2147483647 : Int32)) % (10 : Int32))), (.ref b5)])) rfl rfl (hb hby at_125)
    refine Gl.pre (fun _ k => st16 _ k) ?_
    have CR16 := CR15.trans (CHr.wr W16 Sf_b5 CR15.1)
    have Sf_b5 := Safe.wr W16 Sf_b5 CR15.1 Sf_b5
    have O_ := O_.wr W16 g_b5
    have Va3 := Va3.other W16 (own_ne_b3_b5)
    have Es3 := Es3.wr W16
    have Fc3 := Fc3.other W16 (Or.inl (own_ne_a3_b5))
    have Fv3 := Fv3.other W16 (Or.inl (own_ne_a3_b5))
    have V_b3 := V_b3.other W16 (own_ne_b3_b5)
    have Z16 : n0 ≤ h16.size := by rw [W16.size]; exact Z15
    have hk16 := Nat.le_trans hk15 (Nat.le_of_eq W16.size.symm)
    have N16 := Fr.snoc X16 N15 g_b5
    have V_b5 := V16
    obtain ⟨T17, h17, X17, e17, E17, A17, D17, -, st17⟩ := newO X16 hx hZ3 hown3 (hw _ (List.mem_of_getElem? (i := 10) rfl)) (hw _ (List.mem_of_getElem? (i := 2) rfl)) (hw _ (List.mem_of_getElem? (i := 1) rfl)) e16 (g := (mkF m 126 #[.val (.int p1), .val (.int p2), .val (.int p3), .val (.long q4), .second, .val (.int (own_pi (¬ ((p1 &&& (1 : Int32)) = (0 : Int32))))), .val (.int (own_pi (¬ ((p1 &&& (2 : Int32)) = (0 : Int32))))), .val (.int ((own_ushr p1 (2 : Int32)) &&& (3 : Int32))), .val (.ref a3), .val (.int ((p2 &&& (2147483647 : Int32)) % (10 : Int32))), .val (.int (own_ch p3)), .unset, .unset, .val (.ref b5), .unset] [])) rfl (hb hby at_126) (by decide) (by decide)
    obtain ⟨b17, g17⟩ : ∃ z, z = h16.size := ⟨_, rfl⟩
    rw [← g17] at A17 D17 st17
    refine Gl.pre (fun _ k => st17 _ k) ?_
    have own_ne_b3_b17 : b3 ≠ b17 := by have q := Va3.lt; rw [g17]; exact Nat.ne_of_lt q
    have own_ne_b17_b3 : b17 ≠ b3 := own_ne_b3_b17.symm
    have own_ne_a3_b17 : a3 ≠ b17 := by have q := Es3.lt; rw [g17]; exact Nat.ne_of_lt q
    have own_ne_b17_a3 : b17 ≠ a3 := own_ne_a3_b17.symm
    have own_ne_b5_b17 : b5 ≠ b17 := by have q := V_b5.lt; rw [g17]; exact Nat.ne_of_lt q
    have own_ne_b17_b5 : b17 ≠ b5 := own_ne_b5_b17.symm
    have g_b17 : n0 ≤ b17 := Nat.le_trans Z16 (Nat.le_of_eq g17.symm)
    have Sf_b17 := Safe.ext E17 CR16.1 (Safe.new (Z := Z) (EL := own_EL) (vm := T3.vm) (Nat.le_of_eq g17.symm))
    have Sf_b5 := Safe.ext E17 CR16.1 Sf_b5
    have CR17 := CR16.trans (CHr.ext E17 CR16.1)
    have O_ := O_.ext E17
    have Va3 := Va3.ext E17
    have Es3 := Es3.ext E17
    have Fc3 := Fc3.ext E17
    have Fv3 := Fv3.ext E17
    have V_b3 := V_b3.ext E17
    have V_b5 := V_b5.ext E17
    have Z17 : n0 ≤ h17.size := Nat.le_trans Z16 E17.1
    have hk17 := Nat.le_trans hk16 E17.1
    have E_b17 := A17
    have F_value_b17 : Fld Z h17 b17 "java/lang/String" "value" "[B" .null := D17 (Or.inr (hw _ (List.mem_of_getElem? (i := 4) rfl))) (ty := (.array .byte)) (by decide)
    have F_coder_b17 : Fld Z h17 b17 "java/lang/String" "coder" "B" (.int (0 : Int32)) := D17 (Or.inr (hw _ (List.mem_of_getElem? (i := 5) rfl))) (ty := .byte) (by decide)
    show Gl p.tables e below PP (T17.setTop (mkF m 129 #[.val (.int p1), .val (.int p2), .val (.int p3), .val (.long q4), .second, .val (.int (own_pi (¬ ((p1 &&& (1 : Int32)) = (0 : Int32))))), .val (.int (own_pi (¬ ((p1 &&& (2 : Int32)) = (0 : Int32))))), .val (.int ((own_ushr p1 (2 : Int32)) &&& (3 : Int32))), .val (.ref a3), .val (.int ((p2 &&& (2147483647 : Int32)) % (10 : Int32))), .val (.int (own_ch p3)), .unset, .unset, .val (.ref b5), .unset] [(.ref b17)]))
    refine Gl.pre (fun _ k => XS.dup X17.here hx rfl (hb hby at_129) rfl rfl k) ?_
    refine Gl.pre (fun _ k => XS.aload X17.here hx rfl (hb hby at_130) rfl rfl k) ?_
    obtain ⟨kc18, KC18⟩ := own_arvC V_b5 (own_setall (by intro x hx; simp only [List.mem_cons, List.not_mem_nil, or_false] at hx; rcases hx with rfl | rfl | rfl | rfl | rfl | rfl | rfl | rfl | rfl | rfl <;> exact fits_nar_char _) (fits_nar_char _)) (by simp only [List.length_set, List.length_cons, List.length_nil]; decide)
    have hp18 : ∀ c ∈ ([(nar .char (65 : Int32)), (nar .char (70 : Int32)), (nar .char (84 : Int32)), (nar .char (69 : Int32)), (nar .char (82 : Int32)), (nar .char (95 : Int32)), (nar .char (83 : Int32)), (nar .char (89 : Int32)), (nar .char (78 : Int32)), (nar .char (67 : Int32))].set (((p2 &&& (2147483647 : Int32)) % (10 : Int32))).toNatClampNeg (nar .char (own_ch p3))), ¬ c < 0 ∧ ¬ (255 : Int32) < c := (own_setall (P := fun c => ¬ c < 0 ∧ ¬ (255 : Int32) < c) (by intro x hx; simp only [List.mem_cons, List.not_mem_nil, or_false] at hx; rcases hx with rfl | rfl | rfl | rfl | rfl | rfl | rfl | rfl | rfl | rfl <;> first | decide | exact own_ch255 _) (own_ch255 _))
    obtain ⟨_, _, ⟨T19, L19, k19, n19⟩, -, X19, ⟨Lc19, hQ19, l19, y19, z19⟩, st19⟩ := X17.specialBack hx (y := (⟨"java/lang/String", "<init>", "([C)V"⟩ : MethodName)) rfl hown3 (mvT hZ3 (hw _ (List.mem_of_getElem? (i := 11) rfl))) (mvT hZ3 (hw _ (List.mem_of_getElem? (i := 12) rfl))) (mvT hZ3 (hw _ (List.mem_of_getElem? (i := 13) rfl))) (by decide) (StrChars.Road.backV (W := 1) hZ3 hws (kI := 4) (hw _ (List.mem_of_getElem? (i := 2) rfl)) (cs := ([(nar .char (65 : Int32)), (nar .char (70 : Int32)), (nar .char (84 : Int32)), (nar .char (69 : Int32)), (nar .char (82 : Int32)), (nar .char (95 : Int32)), (nar .char (83 : Int32)), (nar .char (89 : Int32)), (nar .char (78 : Int32)), (nar .char (67 : Int32))].set (((p2 &&& (2147483647 : Int32)) % (10 : Int32))).toNatClampNeg (nar .char (own_ch p3)))) (n := 10) g_b17 Z17 E_b17 F_value_b17 F_coder_b17 KC18 (SBC.ext O_.2) hcs (by first | rfl | simp) (by first | rfl | simp) (by decide) (by decide) hp18 rfl (by decide) (by decide)) (g := (mkF m 132 #[.val (.int p1), .val (.int p2), .val (.int p3), .val (.long q4), .second, .val (.int (own_pi (¬ ((p1 &&& (1 : Int32)) = (0 : Int32))))), .val (.int (own_pi (¬ ((p1 &&& (2 : Int32)) = (0 : Int32))))), .val (.int ((own_ushr p1 (2 : Int32)) &&& (3 : Int32))), .val (.ref a3), .val (.int ((p2 &&& (2147483647 : Int32)) % (10 : Int32))), .val (.int (own_ch p3)), .unset, .unset, .val (.ref b5), .unset] [(.ref b5), (.ref b17), (.ref b17)])) rfl (by rw [hml]; rfl) (Steps.refl _) (a := b17) (argsL := [(.ref b5)]) (rest := [(.ref b17)]) (lenOf pd_2 rfl) rfl (by show 2 * 0 + _ ≤ _; exact Nat.le_of_eq rfl) (hb hby at_132) (fun _ _ => ⟨rfl, e17, (by decide : 4 + 1 ≤ _), (by decide : 58 + 10 ≤ _)⟩)
    dsimp only [Pt.U, Pt.locs, Pt.cells, Pt.slots] at X19 l19 y19 z19 st19 hQ19
    subst l19 y19 z19
    obtain ⟨rfl, N19q, K19, Ex19, Fc19, tv19, kt19, -, hz19, hnx19, Fv19, Kt19⟩ := hQ19
    have N19 := Fr.app N16 N19q
    refine Gl.pre (fun _ k => st19.trans k) ?_
    have own_ne_a3_tv19 : a3 ≠ tv19 := Nat.ne_of_lt (Nat.lt_of_lt_of_le Es3.lt hz19)
    have own_ne_tv19_a3 := own_ne_a3_tv19.symm
    have own_ne_b3_tv19 : b3 ≠ tv19 := Nat.ne_of_lt (Nat.lt_of_lt_of_le V_b3.lt hz19)
    have own_ne_tv19_b3 := own_ne_b3_tv19.symm
    have own_ne_b5_tv19 : b5 ≠ tv19 := Nat.ne_of_lt (Nat.lt_of_lt_of_le V_b5.lt hz19)
    have own_ne_tv19_b5 := own_ne_b5_tv19.symm
    have own_ne_b17_tv19 : b17 ≠ tv19 := Nat.ne_of_lt (Nat.lt_of_lt_of_le E_b17.lt hz19)
    have own_ne_tv19_b17 := own_ne_b17_tv19.symm
    have g_tv19 : n0 ≤ tv19 := Nat.le_trans Z17 hz19
    have Sf_tv190 := Safe.new (Z := Z) (EL := own_EL) (vm := T3.vm) hz19
    have hs19 : ∀ x ∈ [b17], Safe Z own_EL _ _ x := (allS Sf_b17 all0)
    have Sf_b5 := Safe.keep K19 hs19 CR17.1 Sf_b5
    have Sf_b17 := Safe.keep K19 hs19 CR17.1 Sf_b17
    have CR19 := CR17.trans (CHr.keep K19 hs19 CR17.1)
    have O_ := O_.keep K19 (allS g_b17 all0)
    have Va3 := Va3.keep K19 (ninS (own_ne_b3_b17) nin0)
    have Es3 := Es3.keep K19
    have Fc3 := Fc3.keep K19 (ninS (own_ne_a3_b17) nin0)
    have Fv3 := Fv3.keep K19 (ninS (own_ne_a3_b17) nin0)
    have V_b3 := V_b3.keep K19 (ninS (own_ne_b3_b17) nin0)
    have V_b5 := V_b5.keep K19 (ninS (own_ne_b5_b17) nin0)
    have E_b17 := E_b17.keep K19
    have hk19 := Nat.le_trans hk17 K19.1
    have Z19 : n0 ≤ T19.heap.size := Nat.le_trans Z17 K19.1
    have F_value_b17 := Fv19
    have F_coder_b17 := Fc19
    show Gl p.tables e below PP (T19.setTop (mkF m 135 #[.val (.int p1), .val (.int p2), .val (.int p3), .val (.long q4), .second, .val (.int (own_pi (¬ ((p1 &&& (1 : Int32)) = (0 : Int32))))), .val (.int (own_pi (¬ ((p1 &&& (2 : Int32)) = (0 : Int32))))), .val (.int ((own_ushr p1 (2 : Int32)) &&& (3 : Int32))), .val (.ref a3), .val (.int ((p2 &&& (2147483647 : Int32)) % (10 : Int32))), .val (.int (own_ch p3)), .unset, .unset, .val (.ref b5), .unset] [(.ref b17)]))
    refine Gl.pre (fun _ k => XS.astore X19.here hx rfl (hb hby at_135) rfl rfl (l' := #[.val (.int p1), .val (.int p2), .val (.int p3), .val (.long q4), .second, .val (.int (own_pi (¬ ((p1 &&& (1 : Int32)) = (0 : Int32))))), .val (.int (own_pi (¬ ((p1 &&& (2 : Int32)) = (0 : Int32))))), .val (.int ((own_ushr p1 (2 : Int32)) &&& (3 : Int32))), .val (.ref a3), .val (.int ((p2 &&& (2147483647 : Int32)) % (10 : Int32))), .val (.int (own_ch p3)), .val (.ref b17), .unset, .val (.ref b5), .unset]) rfl k) ?_
    refine Gl.pre (fun _ k => XS.iload X19.here hx rfl (hb hby at_137) rfl k) ?_
    refine Gl.pre (fun _ k => XS.aload X19.here hx rfl (hb hby at_139) rfl rfl k) ?_
    show Gl p.tables e below PP (T19.setTop (mkF m 141 #[.val (.int p1), .val (.int p2), .val (.int p3), .val (.long q4), .second, .val (.int (own_pi (¬ ((p1 &&& (1 : Int32)) = (0 : Int32))))), .val (.int (own_pi (¬ ((p1 &&& (2 : Int32)) = (0 : Int32))))), .val (.int ((own_ushr p1 (2 : Int32)) &&& (3 : Int32))), .val (.ref a3), .val (.int ((p2 &&& (2147483647 : Int32)) % (10 : Int32))), .val (.int (own_ch p3)), .val (.ref b17), .unset, .val (.ref b5), .unset] [(.ref a3), (.int (own_ch p3))]))
    refine Gl.pre (fun _ k => XS.iload X19.here hx rfl (hb hby at_141) rfl k) ?_
    obtain ⟨cq20, kq20, qa20, qb20, qc20⟩ := isOf hZ3 rfl Es3
    obtain ⟨_, _, ⟨T20, L20, k20, n20⟩, -, X20, ⟨Lc20, hQ20, l20, y20, z20⟩, st20⟩ := X19.virtualBack hx (y := (⟨"java/lang/String", "charAt", "(I)C"⟩ : MethodName)) (z := (⟨"java/lang/String", "charAt", "(I)C"⟩ : MethodName)) hown3 (mvT hZ3 (hw _ (List.mem_of_getElem? (i := 34) rfl))) (mvT hZ3 (hw _ (List.mem_of_getElem? (i := 35) rfl))) (notFace_of_selects (args := #[]) (mvT hZ3 (hw _ (List.mem_of_getElem? (i := 37) rfl)))) (mvT hZ3 (hw _ (List.mem_of_getElem? (i := 37) rfl))) (mvT hZ3 (hw _ (List.mem_of_getElem? (i := 36) rfl))) (by decide) (StrChars.Road.chN (W := 1) hZ3 hch (kI := 4) (hw _ (List.mem_of_getElem? (i := 2) rfl)) (i := (((p2 &&& (2147483647 : Int32)) % (10 : Int32))).toNatClampNeg) Es3 Fv3 Fc3 Va3 own_ASc own_ASb (SBC.ext O_.2) hcs (SFO.ext O_.2) hfo (by decide) (own_ix p2).2 (back32 (own_ix p2).1).1.symm (by decide) (by decide)) qa20 qc20 (g := (mkF m 143 #[.val (.int p1), .val (.int p2), .val (.int p3), .val (.long q4), .second, .val (.int (own_pi (¬ ((p1 &&& (1 : Int32)) = (0 : Int32))))), .val (.int (own_pi (¬ ((p1 &&& (2 : Int32)) = (0 : Int32))))), .val (.int ((own_ushr p1 (2 : Int32)) &&& (3 : Int32))), .val (.ref a3), .val (.int ((p2 &&& (2147483647 : Int32)) % (10 : Int32))), .val (.int (own_ch p3)), .val (.ref b17), .unset, .val (.ref b5), .unset] [(.int ((p2 &&& (2147483647 : Int32)) % (10 : Int32))), (.ref a3), (.int (own_ch p3))])) rfl (by rw [hml]; rfl) (Steps.refl _) (argsL := [(.int ((p2 &&& (2147483647 : Int32)) % (10 : Int32)))]) (rest := [(.int (own_ch p3))]) (lenOf pd_3 rfl) rfl (by show 2 * 0 + _ ≤ _; exact Nat.le_of_eq rfl) (hb hby at_143) (fun _ _ => ⟨rfl, rfl, (by decide : 5 + 0 ≤ _), (by decide : 68 + 0 ≤ _)⟩)
    dsimp only [Pt.U, Pt.locs, Pt.cells, Pt.slots] at X20 l20 y20 z20 st20 hQ20
    subst l20 y20 z20
    obtain ⟨rfl, rfl, e20⟩ := hQ20
    have N20 := Fr.app N19 (Fr.nil n0)
    refine Gl.pre (fun _ k => st20.trans k) ?_
    suffices J21 : Gl p.tables e below PP (T20.setTop (mkF m 154 #[.val (.int p1), .val (.int p2), .val (.int p3), .val (.long q4), .second, .val (.int (own_pi (¬ ((p1 &&& (1 : Int32)) = (0 : Int32))))), .val (.int (own_pi (¬ ((p1 &&& (2 : Int32)) = (0 : Int32))))), .val (.int ((own_ushr p1 (2 : Int32)) &&& (3 : Int32))), .val (.ref a3), .val (.int ((p2 &&& (2147483647 : Int32)) % (10 : Int32))), .val (.int (own_ch p3)), .val (.ref b17), .unset, .val (.ref b5), .unset] [(.int (own_pi ((own_ch p3) = (own_AS.getD (((p2 &&& (2147483647 : Int32)) % (10 : Int32))).toNatClampNeg 0))))])) by
      by_cases hd21 : (own_ch p3) = (own_AS.getD (((p2 &&& (2147483647 : Int32)) % (10 : Int32))).toNatClampNeg 0)
      · rw [own_pi_t hd21] at J21
        refine Gl.pre (fun _ k => XS.icmpNo X20.here hx rfl (hb hby at_146) rfl (teq hd21).2 k) ?_
        show Gl p.tables e below PP (T20.setTop (mkF m 149 #[.val (.int p1), .val (.int p2), .val (.int p3), .val (.long q4), .second, .val (.int (own_pi (¬ ((p1 &&& (1 : Int32)) = (0 : Int32))))), .val (.int (own_pi (¬ ((p1 &&& (2 : Int32)) = (0 : Int32))))), .val (.int ((own_ushr p1 (2 : Int32)) &&& (3 : Int32))), .val (.ref a3), .val (.int ((p2 &&& (2147483647 : Int32)) % (10 : Int32))), .val (.int (own_ch p3)), .val (.ref b17), .unset, .val (.ref b5), .unset] []))
        refine Gl.pre (fun _ k => XS.iconst X20.here hx rfl (hb hby at_149) k) ?_
        show Gl p.tables e below PP (T20.setTop (mkF m 150 #[.val (.int p1), .val (.int p2), .val (.int p3), .val (.long q4), .second, .val (.int (own_pi (¬ ((p1 &&& (1 : Int32)) = (0 : Int32))))), .val (.int (own_pi (¬ ((p1 &&& (2 : Int32)) = (0 : Int32))))), .val (.int ((own_ushr p1 (2 : Int32)) &&& (3 : Int32))), .val (.ref a3), .val (.int ((p2 &&& (2147483647 : Int32)) % (10 : Int32))), .val (.int (own_ch p3)), .val (.ref b17), .unset, .val (.ref b5), .unset] [(.int (1 : Int32))]))
        refine Gl.pre (fun _ k => XS.goto X20.here hx rfl (pc0 := 150) (pc' := 154) rfl (hb hby at_150) (by decide) (by decide) k) ?_
        show Gl p.tables e below PP (T20.setTop (mkF m 154 #[.val (.int p1), .val (.int p2), .val (.int p3), .val (.long q4), .second, .val (.int (own_pi (¬ ((p1 &&& (1 : Int32)) = (0 : Int32))))), .val (.int (own_pi (¬ ((p1 &&& (2 : Int32)) = (0 : Int32))))), .val (.int ((own_ushr p1 (2 : Int32)) &&& (3 : Int32))), .val (.ref a3), .val (.int ((p2 &&& (2147483647 : Int32)) % (10 : Int32))), .val (.int (own_ch p3)), .val (.ref b17), .unset, .val (.ref b5), .unset] [(.int (1 : Int32))]))
        exact J21
      · rw [own_pi_f hd21] at J21
        refine Gl.pre (fun _ k => XS.icmpYes X20.here hx rfl (pc0 := 146) (pc' := 153) rfl (hb hby at_146) rfl (feq hd21).2 (by decide) (by decide) k) ?_
        show Gl p.tables e below PP (T20.setTop (mkF m 153 #[.val (.int p1), .val (.int p2), .val (.int p3), .val (.long q4), .second, .val (.int (own_pi (¬ ((p1 &&& (1 : Int32)) = (0 : Int32))))), .val (.int (own_pi (¬ ((p1 &&& (2 : Int32)) = (0 : Int32))))), .val (.int ((own_ushr p1 (2 : Int32)) &&& (3 : Int32))), .val (.ref a3), .val (.int ((p2 &&& (2147483647 : Int32)) % (10 : Int32))), .val (.int (own_ch p3)), .val (.ref b17), .unset, .val (.ref b5), .unset] []))
        refine Gl.pre (fun _ k => XS.iconst X20.here hx rfl (hb hby at_153) k) ?_
        show Gl p.tables e below PP (T20.setTop (mkF m 154 #[.val (.int p1), .val (.int p2), .val (.int p3), .val (.long q4), .second, .val (.int (own_pi (¬ ((p1 &&& (1 : Int32)) = (0 : Int32))))), .val (.int (own_pi (¬ ((p1 &&& (2 : Int32)) = (0 : Int32))))), .val (.int ((own_ushr p1 (2 : Int32)) &&& (3 : Int32))), .val (.ref a3), .val (.int ((p2 &&& (2147483647 : Int32)) % (10 : Int32))), .val (.int (own_ch p3)), .val (.ref b17), .unset, .val (.ref b5), .unset] [(.int (0 : Int32))]))
        exact J21
    show Gl p.tables e below PP (T20.setTop (mkF m 154 #[.val (.int p1), .val (.int p2), .val (.int p3), .val (.long q4), .second, .val (.int (own_pi (¬ ((p1 &&& (1 : Int32)) = (0 : Int32))))), .val (.int (own_pi (¬ ((p1 &&& (2 : Int32)) = (0 : Int32))))), .val (.int ((own_ushr p1 (2 : Int32)) &&& (3 : Int32))), .val (.ref a3), .val (.int ((p2 &&& (2147483647 : Int32)) % (10 : Int32))), .val (.int (own_ch p3)), .val (.ref b17), .unset, .val (.ref b5), .unset] [(.int (own_pi ((own_ch p3) = (own_AS.getD (((p2 &&& (2147483647 : Int32)) % (10 : Int32))).toNatClampNeg 0))))]))
    refine Gl.pre (fun _ k => XS.istore X20.here hx rfl (hb hby at_154) rfl (l' := #[.val (.int p1), .val (.int p2), .val (.int p3), .val (.long q4), .second, .val (.int (own_pi (¬ ((p1 &&& (1 : Int32)) = (0 : Int32))))), .val (.int (own_pi (¬ ((p1 &&& (2 : Int32)) = (0 : Int32))))), .val (.int ((own_ushr p1 (2 : Int32)) &&& (3 : Int32))), .val (.ref a3), .val (.int ((p2 &&& (2147483647 : Int32)) % (10 : Int32))), .val (.int (own_ch p3)), .val (.ref b17), .val (.int (own_pi ((own_ch p3) = (own_AS.getD (((p2 &&& (2147483647 : Int32)) % (10 : Int32))).toNatClampNeg 0)))), .val (.ref b5), .unset]) rfl k) ?_
    show Gl p.tables e below PP (T20.setTop (mkF m 156 #[.val (.int p1), .val (.int p2), .val (.int p3), .val (.long q4), .second, .val (.int (own_pi (¬ ((p1 &&& (1 : Int32)) = (0 : Int32))))), .val (.int (own_pi (¬ ((p1 &&& (2 : Int32)) = (0 : Int32))))), .val (.int ((own_ushr p1 (2 : Int32)) &&& (3 : Int32))), .val (.ref a3), .val (.int ((p2 &&& (2147483647 : Int32)) % (10 : Int32))), .val (.int (own_ch p3)), .val (.ref b17), .val (.int (own_pi ((own_ch p3) = (own_AS.getD (((p2 &&& (2147483647 : Int32)) % (10 : Int32))).toNatClampNeg 0)))), .val (.ref b5), .unset] []))
    refine Gl.pre (fun _ k => XS.goto X20.here hx rfl (pc0 := 156) (pc' := 413) rfl (hb hby at_156) (by decide) (by decide) k) ?_
    refine Gl.pre (fun _ k => XS.iconst X20.here hx rfl (hb hby at_413) k) ?_
    refine Gl.pre (fun _ k => XS.istore X20.here hx rfl (hb hby at_414) rfl (l' := #[.val (.int p1), .val (.int p2), .val (.int p3), .val (.long q4), .second, .val (.int (own_pi (¬ ((p1 &&& (1 : Int32)) = (0 : Int32))))), .val (.int (own_pi (¬ ((p1 &&& (2 : Int32)) = (0 : Int32))))), .val (.int ((own_ushr p1 (2 : Int32)) &&& (3 : Int32))), .val (.ref a3), .val (.int ((p2 &&& (2147483647 : Int32)) % (10 : Int32))), .val (.int (own_ch p3)), .val (.ref b17), .val (.int (own_pi ((own_ch p3) = (own_AS.getD (((p2 &&& (2147483647 : Int32)) % (10 : Int32))).toNatClampNeg 0)))), .val (.int (0 : Int32)), .unset]) rfl k) ?_
    show Gl p.tables e below PP (T20.setTop (mkF m 416 #[.val (.int p1), .val (.int p2), .val (.int p3), .val (.long q4), .second, .val (.int (own_pi (¬ ((p1 &&& (1 : Int32)) = (0 : Int32))))), .val (.int (own_pi (¬ ((p1 &&& (2 : Int32)) = (0 : Int32))))), .val (.int ((own_ushr p1 (2 : Int32)) &&& (3 : Int32))), .val (.ref a3), .val (.int ((p2 &&& (2147483647 : Int32)) % (10 : Int32))), .val (.int (own_ch p3)), .val (.ref b17), .val (.int (own_pi ((own_ch p3) = (own_AS.getD (((p2 &&& (2147483647 : Int32)) % (10 : Int32))).toNatClampNeg 0)))), .val (.int (0 : Int32)), .unset] []))
    suffices J22 : ∀ e13 : Int32, e13 = own_pi (¬ ((p1 &&& (1 : Int32)) = (0 : Int32)) ∧ ¬ ((p1 &&& (2 : Int32)) = (0 : Int32)) ∧ ((own_ch p3) = (own_AS.getD (((p2 &&& (2147483647 : Int32)) % (10 : Int32))).toNatClampNeg 0)) ∧ ¬ (q4 < (1 : Int64))) → Gl p.tables e below PP (T20.setTop (mkF m 444 #[.val (.int p1), .val (.int p2), .val (.int p3), .val (.long q4), .second, .val (.int (own_pi (¬ ((p1 &&& (1 : Int32)) = (0 : Int32))))), .val (.int (own_pi (¬ ((p1 &&& (2 : Int32)) = (0 : Int32))))), .val (.int ((own_ushr p1 (2 : Int32)) &&& (3 : Int32))), .val (.ref a3), .val (.int ((p2 &&& (2147483647 : Int32)) % (10 : Int32))), .val (.int (own_ch p3)), .val (.ref b17), .val (.int (own_pi ((own_ch p3) = (own_AS.getD (((p2 &&& (2147483647 : Int32)) % (10 : Int32))).toNatClampNeg 0)))), .val (.int e13), .unset] [])) by
      refine Gl.pre (fun _ k => XS.iload X20.here hx rfl (hb hby at_416) rfl k) ?_
      by_cases hc23 : ¬ ((p1 &&& (1 : Int32)) = (0 : Int32))
      · refine Gl.pre (fun _ k => XS.ifNo X20.here hx rfl (hb hby at_418) rfl ((if0 _ _).trans (feq (fun q => (own_pi0 (P := ¬ ((p1 &&& (1 : Int32)) = (0 : Int32)))).mp q hc23)).1) k) ?_
        show Gl p.tables e below PP (T20.setTop (mkF m 421 #[.val (.int p1), .val (.int p2), .val (.int p3), .val (.long q4), .second, .val (.int (own_pi (¬ ((p1 &&& (1 : Int32)) = (0 : Int32))))), .val (.int (own_pi (¬ ((p1 &&& (2 : Int32)) = (0 : Int32))))), .val (.int ((own_ushr p1 (2 : Int32)) &&& (3 : Int32))), .val (.ref a3), .val (.int ((p2 &&& (2147483647 : Int32)) % (10 : Int32))), .val (.int (own_ch p3)), .val (.ref b17), .val (.int (own_pi ((own_ch p3) = (own_AS.getD (((p2 &&& (2147483647 : Int32)) % (10 : Int32))).toNatClampNeg 0)))), .val (.int (0 : Int32)), .unset] []))
        refine Gl.pre (fun _ k => XS.iload X20.here hx rfl (hb hby at_421) rfl k) ?_
        by_cases hc24 : ¬ ((p1 &&& (2 : Int32)) = (0 : Int32))
        · refine Gl.pre (fun _ k => XS.ifNo X20.here hx rfl (hb hby at_423) rfl ((if0 _ _).trans (feq (fun q => (own_pi0 (P := ¬ ((p1 &&& (2 : Int32)) = (0 : Int32)))).mp q hc24)).1) k) ?_
          show Gl p.tables e below PP (T20.setTop (mkF m 426 #[.val (.int p1), .val (.int p2), .val (.int p3), .val (.long q4), .second, .val (.int (own_pi (¬ ((p1 &&& (1 : Int32)) = (0 : Int32))))), .val (.int (own_pi (¬ ((p1 &&& (2 : Int32)) = (0 : Int32))))), .val (.int ((own_ushr p1 (2 : Int32)) &&& (3 : Int32))), .val (.ref a3), .val (.int ((p2 &&& (2147483647 : Int32)) % (10 : Int32))), .val (.int (own_ch p3)), .val (.ref b17), .val (.int (own_pi ((own_ch p3) = (own_AS.getD (((p2 &&& (2147483647 : Int32)) % (10 : Int32))).toNatClampNeg 0)))), .val (.int (0 : Int32)), .unset] []))
          refine Gl.pre (fun _ k => XS.iload X20.here hx rfl (hb hby at_426) rfl k) ?_
          show Gl p.tables e below PP (T20.setTop (mkF m 428 #[.val (.int p1), .val (.int p2), .val (.int p3), .val (.long q4), .second, .val (.int (own_pi (¬ ((p1 &&& (1 : Int32)) = (0 : Int32))))), .val (.int (own_pi (¬ ((p1 &&& (2 : Int32)) = (0 : Int32))))), .val (.int ((own_ushr p1 (2 : Int32)) &&& (3 : Int32))), .val (.ref a3), .val (.int ((p2 &&& (2147483647 : Int32)) % (10 : Int32))), .val (.int (own_ch p3)), .val (.ref b17), .val (.int (own_pi ((own_ch p3) = (own_AS.getD (((p2 &&& (2147483647 : Int32)) % (10 : Int32))).toNatClampNeg 0)))), .val (.int (0 : Int32)), .unset] [(.int (own_pi ((own_ch p3) = (own_AS.getD (((p2 &&& (2147483647 : Int32)) % (10 : Int32))).toNatClampNeg 0))))]))
          by_cases hc25 : (own_ch p3) = (own_AS.getD (((p2 &&& (2147483647 : Int32)) % (10 : Int32))).toNatClampNeg 0)
          · refine Gl.pre (fun _ k => XS.ifNo X20.here hx rfl (hb hby at_428) rfl ((if0 _ _).trans (feq (fun q => (own_pi0 (P := (own_ch p3) = (own_AS.getD (((p2 &&& (2147483647 : Int32)) % (10 : Int32))).toNatClampNeg 0))).mp q hc25)).1) k) ?_
            show Gl p.tables e below PP (T20.setTop (mkF m 431 #[.val (.int p1), .val (.int p2), .val (.int p3), .val (.long q4), .second, .val (.int (own_pi (¬ ((p1 &&& (1 : Int32)) = (0 : Int32))))), .val (.int (own_pi (¬ ((p1 &&& (2 : Int32)) = (0 : Int32))))), .val (.int ((own_ushr p1 (2 : Int32)) &&& (3 : Int32))), .val (.ref a3), .val (.int ((p2 &&& (2147483647 : Int32)) % (10 : Int32))), .val (.int (own_ch p3)), .val (.ref b17), .val (.int (own_pi ((own_ch p3) = (own_AS.getD (((p2 &&& (2147483647 : Int32)) % (10 : Int32))).toNatClampNeg 0)))), .val (.int (0 : Int32)), .unset] []))
            refine Gl.pre (fun _ k => XS.lloadN X20.here hx rfl (hb hby at_431) rfl k) ?_
            refine Gl.pre (fun _ k => XS.lconst X20.here hx rfl (hb hby at_432) k) ?_
            refine Gl.pre (fun _ k => XS.lcmp X20.here hx rfl (hb hby at_433) rfl k) ?_
            show Gl p.tables e below PP (T20.setTop (mkF m 434 #[.val (.int p1), .val (.int p2), .val (.int p3), .val (.long q4), .second, .val (.int (own_pi (¬ ((p1 &&& (1 : Int32)) = (0 : Int32))))), .val (.int (own_pi (¬ ((p1 &&& (2 : Int32)) = (0 : Int32))))), .val (.int ((own_ushr p1 (2 : Int32)) &&& (3 : Int32))), .val (.ref a3), .val (.int ((p2 &&& (2147483647 : Int32)) % (10 : Int32))), .val (.int (own_ch p3)), .val (.ref b17), .val (.int (own_pi ((own_ch p3) = (own_AS.getD (((p2 &&& (2147483647 : Int32)) % (10 : Int32))).toNatClampNeg 0)))), .val (.int (0 : Int32)), .unset] [(.int (lcmpW q4 (1 : Int64)))]))
            suffices J26 : Gl p.tables e below PP (T20.setTop (mkF m 442 #[.val (.int p1), .val (.int p2), .val (.int p3), .val (.long q4), .second, .val (.int (own_pi (¬ ((p1 &&& (1 : Int32)) = (0 : Int32))))), .val (.int (own_pi (¬ ((p1 &&& (2 : Int32)) = (0 : Int32))))), .val (.int ((own_ushr p1 (2 : Int32)) &&& (3 : Int32))), .val (.ref a3), .val (.int ((p2 &&& (2147483647 : Int32)) % (10 : Int32))), .val (.int (own_ch p3)), .val (.ref b17), .val (.int (own_pi ((own_ch p3) = (own_AS.getD (((p2 &&& (2147483647 : Int32)) % (10 : Int32))).toNatClampNeg 0)))), .val (.int (0 : Int32)), .unset] [(.int (own_pi (¬ (q4 < (1 : Int64)))))])) by
              by_cases hd26 : q4 < (1 : Int64)
              · rw [own_pi_nt hd26] at J26
                refine Gl.pre (fun _ k => XS.ifYes X20.here hx rfl (pc0 := 434) (pc' := 441) rfl (hb hby at_434) rfl ((if0 _ _).trans (tlt ((lw_lt q4 (1 : Int64)).mpr hd26)).1) (by decide) (by decide) k) ?_
                show Gl p.tables e below PP (T20.setTop (mkF m 441 #[.val (.int p1), .val (.int p2), .val (.int p3), .val (.long q4), .second, .val (.int (own_pi (¬ ((p1 &&& (1 : Int32)) = (0 : Int32))))), .val (.int (own_pi (¬ ((p1 &&& (2 : Int32)) = (0 : Int32))))), .val (.int ((own_ushr p1 (2 : Int32)) &&& (3 : Int32))), .val (.ref a3), .val (.int ((p2 &&& (2147483647 : Int32)) % (10 : Int32))), .val (.int (own_ch p3)), .val (.ref b17), .val (.int (own_pi ((own_ch p3) = (own_AS.getD (((p2 &&& (2147483647 : Int32)) % (10 : Int32))).toNatClampNeg 0)))), .val (.int (0 : Int32)), .unset] []))
                refine Gl.pre (fun _ k => XS.iconst X20.here hx rfl (hb hby at_441) k) ?_
                show Gl p.tables e below PP (T20.setTop (mkF m 442 #[.val (.int p1), .val (.int p2), .val (.int p3), .val (.long q4), .second, .val (.int (own_pi (¬ ((p1 &&& (1 : Int32)) = (0 : Int32))))), .val (.int (own_pi (¬ ((p1 &&& (2 : Int32)) = (0 : Int32))))), .val (.int ((own_ushr p1 (2 : Int32)) &&& (3 : Int32))), .val (.ref a3), .val (.int ((p2 &&& (2147483647 : Int32)) % (10 : Int32))), .val (.int (own_ch p3)), .val (.ref b17), .val (.int (own_pi ((own_ch p3) = (own_AS.getD (((p2 &&& (2147483647 : Int32)) % (10 : Int32))).toNatClampNeg 0)))), .val (.int (0 : Int32)), .unset] [(.int (0 : Int32))]))
                exact J26
              · rw [own_pi_nf hd26] at J26
                refine Gl.pre (fun _ k => XS.ifNo X20.here hx rfl (hb hby at_434) rfl ((if0 _ _).trans (flt (mt (lw_lt q4 (1 : Int64)).mp hd26)).1) k) ?_
                show Gl p.tables e below PP (T20.setTop (mkF m 437 #[.val (.int p1), .val (.int p2), .val (.int p3), .val (.long q4), .second, .val (.int (own_pi (¬ ((p1 &&& (1 : Int32)) = (0 : Int32))))), .val (.int (own_pi (¬ ((p1 &&& (2 : Int32)) = (0 : Int32))))), .val (.int ((own_ushr p1 (2 : Int32)) &&& (3 : Int32))), .val (.ref a3), .val (.int ((p2 &&& (2147483647 : Int32)) % (10 : Int32))), .val (.int (own_ch p3)), .val (.ref b17), .val (.int (own_pi ((own_ch p3) = (own_AS.getD (((p2 &&& (2147483647 : Int32)) % (10 : Int32))).toNatClampNeg 0)))), .val (.int (0 : Int32)), .unset] []))
                refine Gl.pre (fun _ k => XS.iconst X20.here hx rfl (hb hby at_437) k) ?_
                show Gl p.tables e below PP (T20.setTop (mkF m 438 #[.val (.int p1), .val (.int p2), .val (.int p3), .val (.long q4), .second, .val (.int (own_pi (¬ ((p1 &&& (1 : Int32)) = (0 : Int32))))), .val (.int (own_pi (¬ ((p1 &&& (2 : Int32)) = (0 : Int32))))), .val (.int ((own_ushr p1 (2 : Int32)) &&& (3 : Int32))), .val (.ref a3), .val (.int ((p2 &&& (2147483647 : Int32)) % (10 : Int32))), .val (.int (own_ch p3)), .val (.ref b17), .val (.int (own_pi ((own_ch p3) = (own_AS.getD (((p2 &&& (2147483647 : Int32)) % (10 : Int32))).toNatClampNeg 0)))), .val (.int (0 : Int32)), .unset] [(.int (1 : Int32))]))
                refine Gl.pre (fun _ k => XS.goto X20.here hx rfl (pc0 := 438) (pc' := 442) rfl (hb hby at_438) (by decide) (by decide) k) ?_
                show Gl p.tables e below PP (T20.setTop (mkF m 442 #[.val (.int p1), .val (.int p2), .val (.int p3), .val (.long q4), .second, .val (.int (own_pi (¬ ((p1 &&& (1 : Int32)) = (0 : Int32))))), .val (.int (own_pi (¬ ((p1 &&& (2 : Int32)) = (0 : Int32))))), .val (.int ((own_ushr p1 (2 : Int32)) &&& (3 : Int32))), .val (.ref a3), .val (.int ((p2 &&& (2147483647 : Int32)) % (10 : Int32))), .val (.int (own_ch p3)), .val (.ref b17), .val (.int (own_pi ((own_ch p3) = (own_AS.getD (((p2 &&& (2147483647 : Int32)) % (10 : Int32))).toNatClampNeg 0)))), .val (.int (0 : Int32)), .unset] [(.int (1 : Int32))]))
                exact J26
            show Gl p.tables e below PP (T20.setTop (mkF m 442 #[.val (.int p1), .val (.int p2), .val (.int p3), .val (.long q4), .second, .val (.int (own_pi (¬ ((p1 &&& (1 : Int32)) = (0 : Int32))))), .val (.int (own_pi (¬ ((p1 &&& (2 : Int32)) = (0 : Int32))))), .val (.int ((own_ushr p1 (2 : Int32)) &&& (3 : Int32))), .val (.ref a3), .val (.int ((p2 &&& (2147483647 : Int32)) % (10 : Int32))), .val (.int (own_ch p3)), .val (.ref b17), .val (.int (own_pi ((own_ch p3) = (own_AS.getD (((p2 &&& (2147483647 : Int32)) % (10 : Int32))).toNatClampNeg 0)))), .val (.int (0 : Int32)), .unset] [(.int (own_pi (¬ (q4 < (1 : Int64)))))]))
            refine Gl.pre (fun _ k => XS.istore X20.here hx rfl (hb hby at_442) rfl (l' := #[.val (.int p1), .val (.int p2), .val (.int p3), .val (.long q4), .second, .val (.int (own_pi (¬ ((p1 &&& (1 : Int32)) = (0 : Int32))))), .val (.int (own_pi (¬ ((p1 &&& (2 : Int32)) = (0 : Int32))))), .val (.int ((own_ushr p1 (2 : Int32)) &&& (3 : Int32))), .val (.ref a3), .val (.int ((p2 &&& (2147483647 : Int32)) % (10 : Int32))), .val (.int (own_ch p3)), .val (.ref b17), .val (.int (own_pi ((own_ch p3) = (own_AS.getD (((p2 &&& (2147483647 : Int32)) % (10 : Int32))).toNatClampNeg 0)))), .val (.int (own_pi (¬ (q4 < (1 : Int64))))), .unset]) rfl k) ?_
            exact J22 _ (own_pi_eq ⟨fun z => ⟨hc23, hc24, hc25, z⟩, fun z => z.2.2.2⟩)
          · refine Gl.pre (fun _ k => XS.ifYes X20.here hx rfl (pc0 := 428) (pc' := 444) rfl (hb hby at_428) rfl ((if0 _ _).trans (teq ((own_pi0 (P := (own_ch p3) = (own_AS.getD (((p2 &&& (2147483647 : Int32)) % (10 : Int32))).toNatClampNeg 0))).mpr hc25)).1) (by decide) (by decide) k) ?_
            show Gl p.tables e below PP (T20.setTop (mkF m 444 #[.val (.int p1), .val (.int p2), .val (.int p3), .val (.long q4), .second, .val (.int (own_pi (¬ ((p1 &&& (1 : Int32)) = (0 : Int32))))), .val (.int (own_pi (¬ ((p1 &&& (2 : Int32)) = (0 : Int32))))), .val (.int ((own_ushr p1 (2 : Int32)) &&& (3 : Int32))), .val (.ref a3), .val (.int ((p2 &&& (2147483647 : Int32)) % (10 : Int32))), .val (.int (own_ch p3)), .val (.ref b17), .val (.int (own_pi ((own_ch p3) = (own_AS.getD (((p2 &&& (2147483647 : Int32)) % (10 : Int32))).toNatClampNeg 0)))), .val (.int (0 : Int32)), .unset] []))
            exact J22 _ ((own_pi_f (fun q => hc25 q.2.2.1)).symm)
        · refine Gl.pre (fun _ k => XS.ifYes X20.here hx rfl (pc0 := 423) (pc' := 444) rfl (hb hby at_423) rfl ((if0 _ _).trans (teq ((own_pi0 (P := ¬ ((p1 &&& (2 : Int32)) = (0 : Int32)))).mpr hc24)).1) (by decide) (by decide) k) ?_
          show Gl p.tables e below PP (T20.setTop (mkF m 444 #[.val (.int p1), .val (.int p2), .val (.int p3), .val (.long q4), .second, .val (.int (own_pi (¬ ((p1 &&& (1 : Int32)) = (0 : Int32))))), .val (.int (own_pi (¬ ((p1 &&& (2 : Int32)) = (0 : Int32))))), .val (.int ((own_ushr p1 (2 : Int32)) &&& (3 : Int32))), .val (.ref a3), .val (.int ((p2 &&& (2147483647 : Int32)) % (10 : Int32))), .val (.int (own_ch p3)), .val (.ref b17), .val (.int (own_pi ((own_ch p3) = (own_AS.getD (((p2 &&& (2147483647 : Int32)) % (10 : Int32))).toNatClampNeg 0)))), .val (.int (0 : Int32)), .unset] []))
          exact J22 _ ((own_pi_f (fun q => hc24 q.2.1)).symm)
      · refine Gl.pre (fun _ k => XS.ifYes X20.here hx rfl (pc0 := 418) (pc' := 444) rfl (hb hby at_418) rfl ((if0 _ _).trans (teq ((own_pi0 (P := ¬ ((p1 &&& (1 : Int32)) = (0 : Int32)))).mpr hc23)).1) (by decide) (by decide) k) ?_
        show Gl p.tables e below PP (T20.setTop (mkF m 444 #[.val (.int p1), .val (.int p2), .val (.int p3), .val (.long q4), .second, .val (.int (own_pi (¬ ((p1 &&& (1 : Int32)) = (0 : Int32))))), .val (.int (own_pi (¬ ((p1 &&& (2 : Int32)) = (0 : Int32))))), .val (.int ((own_ushr p1 (2 : Int32)) &&& (3 : Int32))), .val (.ref a3), .val (.int ((p2 &&& (2147483647 : Int32)) % (10 : Int32))), .val (.int (own_ch p3)), .val (.ref b17), .val (.int (own_pi ((own_ch p3) = (own_AS.getD (((p2 &&& (2147483647 : Int32)) % (10 : Int32))).toNatClampNeg 0)))), .val (.int (0 : Int32)), .unset] []))
        exact J22 _ ((own_pi_f (fun q => hc23 q.1)).symm)
    intro e13 he13
    show Gl p.tables e below PP (T20.setTop (mkF m 444 #[.val (.int p1), .val (.int p2), .val (.int p3), .val (.long q4), .second, .val (.int (own_pi (¬ ((p1 &&& (1 : Int32)) = (0 : Int32))))), .val (.int (own_pi (¬ ((p1 &&& (2 : Int32)) = (0 : Int32))))), .val (.int ((own_ushr p1 (2 : Int32)) &&& (3 : Int32))), .val (.ref a3), .val (.int ((p2 &&& (2147483647 : Int32)) % (10 : Int32))), .val (.int (own_ch p3)), .val (.ref b17), .val (.int (own_pi ((own_ch p3) = (own_AS.getD (((p2 &&& (2147483647 : Int32)) % (10 : Int32))).toNatClampNeg 0)))), .val (.int e13), .unset] []))
    obtain ⟨T27, h27, X27, e27, E27, A27, D27, -, st27⟩ := newO X20 hx hZ3 hown3 (hw _ (List.mem_of_getElem? (i := 56) rfl)) (hw _ (List.mem_of_getElem? (i := 57) rfl)) (hw _ (List.mem_of_getElem? (i := 58) rfl)) e20 (g := (mkF m 444 #[.val (.int p1), .val (.int p2), .val (.int p3), .val (.long q4), .second, .val (.int (own_pi (¬ ((p1 &&& (1 : Int32)) = (0 : Int32))))), .val (.int (own_pi (¬ ((p1 &&& (2 : Int32)) = (0 : Int32))))), .val (.int ((own_ushr p1 (2 : Int32)) &&& (3 : Int32))), .val (.ref a3), .val (.int ((p2 &&& (2147483647 : Int32)) % (10 : Int32))), .val (.int (own_ch p3)), .val (.ref b17), .val (.int (own_pi ((own_ch p3) = (own_AS.getD (((p2 &&& (2147483647 : Int32)) % (10 : Int32))).toNatClampNeg 0)))), .val (.int e13), .unset] [])) rfl (hb hby at_444) (by decide) (by decide)
    obtain ⟨b27, g27⟩ : ∃ z, z = T19.heap.size := ⟨_, rfl⟩
    rw [← g27] at A27 D27 st27
    refine Gl.pre (fun _ k => st27 _ k) ?_
    have own_ne_b3_b27 : b3 ≠ b27 := by have q := Va3.lt; rw [g27]; exact Nat.ne_of_lt q
    have own_ne_b27_b3 : b27 ≠ b3 := own_ne_b3_b27.symm
    have own_ne_a3_b27 : a3 ≠ b27 := by have q := Es3.lt; rw [g27]; exact Nat.ne_of_lt q
    have own_ne_b27_a3 : b27 ≠ a3 := own_ne_a3_b27.symm
    have own_ne_b5_b27 : b5 ≠ b27 := by have q := V_b5.lt; rw [g27]; exact Nat.ne_of_lt q
    have own_ne_b27_b5 : b27 ≠ b5 := own_ne_b5_b27.symm
    have own_ne_b17_b27 : b17 ≠ b27 := by have q := E_b17.lt; rw [g27]; exact Nat.ne_of_lt q
    have own_ne_b27_b17 : b27 ≠ b17 := own_ne_b17_b27.symm
    have own_ne_tv19_b27 : tv19 ≠ b27 := by have q := Kt19.lt; rw [g27]; exact Nat.ne_of_lt q
    have own_ne_b27_tv19 : b27 ≠ tv19 := own_ne_tv19_b27.symm
    have g_b27 : n0 ≤ b27 := Nat.le_trans Z19 (Nat.le_of_eq g27.symm)
    have Sf_b27 := Safe.ext E27 CR19.1 (Safe.new (Z := Z) (EL := own_EL) (vm := T3.vm) (Nat.le_of_eq g27.symm))
    have Sf_b5 := Safe.ext E27 CR19.1 Sf_b5
    have Sf_b17 := Safe.ext E27 CR19.1 Sf_b17
    have CR27 := CR19.trans (CHr.ext E27 CR19.1)
    have O_ := O_.ext E27
    have Va3 := Va3.ext E27
    have Es3 := Es3.ext E27
    have Fc3 := Fc3.ext E27
    have Fv3 := Fv3.ext E27
    have V_b3 := V_b3.ext E27
    have V_b5 := V_b5.ext E27
    have E_b17 := E_b17.ext E27
    have F_value_b17 := F_value_b17.ext E27
    have F_coder_b17 := F_coder_b17.ext E27
    have Kt19 := Kt19.ext E27
    have Z27 : n0 ≤ h27.size := Nat.le_trans Z19 E27.1
    have hk27 := Nat.le_trans hk19 E27.1
    have E_b27 := A27
    have F_enabled_b27 : Fld Z h27 b27 "com/example/anchorwatch/anchorwatch/model/SemiSync" "enabled" "Z" (.int (0 : Int32)) := D27 (Or.inr (hw _ (List.mem_of_getElem? (i := 69) rfl))) (ty := .boolean) (by decide)
    have F_waitPoint_b27 : Fld Z h27 b27 "com/example/anchorwatch/anchorwatch/model/SemiSync" "waitPoint" "Ljava/lang/String;" .null := D27 (Or.inr (hw _ (List.mem_of_getElem? (i := 71) rfl))) (ty := (.object "java/lang/String")) (by decide)
    have F_active_b27 : Fld Z h27 b27 "com/example/anchorwatch/anchorwatch/model/SemiSync" "active" "Z" (.int (0 : Int32)) := D27 (Or.inr (hw _ (List.mem_of_getElem? (i := 73) rfl))) (ty := .boolean) (by decide)
    have F_clients_b27 : Fld Z h27 b27 "com/example/anchorwatch/anchorwatch/model/SemiSync" "clients" "J" (.long (0 : Int64)) := D27 (Or.inr (hw _ (List.mem_of_getElem? (i := 75) rfl))) (ty := .long) (by decide)
    refine Gl.pre (fun _ k => XS.dup X27.here hx rfl (hb hby at_447) rfl rfl k) ?_
    show Gl p.tables e below PP (T27.setTop (mkF m 448 #[.val (.int p1), .val (.int p2), .val (.int p3), .val (.long q4), .second, .val (.int (own_pi (¬ ((p1 &&& (1 : Int32)) = (0 : Int32))))), .val (.int (own_pi (¬ ((p1 &&& (2 : Int32)) = (0 : Int32))))), .val (.int ((own_ushr p1 (2 : Int32)) &&& (3 : Int32))), .val (.ref a3), .val (.int ((p2 &&& (2147483647 : Int32)) % (10 : Int32))), .val (.int (own_ch p3)), .val (.ref b17), .val (.int (own_pi ((own_ch p3) = (own_AS.getD (((p2 &&& (2147483647 : Int32)) % (10 : Int32))).toNatClampNeg 0)))), .val (.int e13), .unset] [(.ref b27), (.ref b27)]))
    refine Gl.pre (fun _ k => XS.iload X27.here hx rfl (hb hby at_448) rfl k) ?_
    refine Gl.pre (fun _ k => XS.aload X27.here hx rfl (hb hby at_450) rfl rfl k) ?_
    refine Gl.pre (fun _ k => XS.iload X27.here hx rfl (hb hby at_452) rfl k) ?_
    show Gl p.tables e below PP (T27.setTop (mkF m 454 #[.val (.int p1), .val (.int p2), .val (.int p3), .val (.long q4), .second, .val (.int (own_pi (¬ ((p1 &&& (1 : Int32)) = (0 : Int32))))), .val (.int (own_pi (¬ ((p1 &&& (2 : Int32)) = (0 : Int32))))), .val (.int ((own_ushr p1 (2 : Int32)) &&& (3 : Int32))), .val (.ref a3), .val (.int ((p2 &&& (2147483647 : Int32)) % (10 : Int32))), .val (.int (own_ch p3)), .val (.ref b17), .val (.int (own_pi ((own_ch p3) = (own_AS.getD (((p2 &&& (2147483647 : Int32)) % (10 : Int32))).toNatClampNeg 0)))), .val (.int e13), .unset] [(.int (own_pi (¬ ((p1 &&& (2 : Int32)) = (0 : Int32))))), (.ref b17), (.int (own_pi (¬ ((p1 &&& (1 : Int32)) = (0 : Int32))))), (.ref b27), (.ref b27)]))
    refine Gl.pre (fun _ k => XS.lloadN X27.here hx rfl (hb hby at_454) rfl k) ?_
    obtain ⟨_, _, ⟨T28, L28, k28, n28⟩, -, X28, ⟨Lc28, hQ28, l28, y28, z28⟩, st28⟩ := X27.specialBack hx (y := (⟨"com/example/anchorwatch/anchorwatch/model/SemiSync", "<init>", "(ZLjava/lang/String;ZJ)V"⟩ : MethodName)) rfl hown3 (mvT hZ3 (hw _ (List.mem_of_getElem? (i := 59) rfl))) (mvT hZ3 (hw _ (List.mem_of_getElem? (i := 60) rfl))) (mvT hZ3 (hw _ (List.mem_of_getElem? (i := 61) rfl))) (by decide) (backOf (W := 1) (rmssS l Z a0 hw [] b27 (own_pi (¬ ((p1 &&& (1 : Int32)) = (0 : Int32)))) b17 (own_pi (¬ ((p1 &&& (2 : Int32)) = (0 : Int32)))) q4 h27 n0 Z27 E_b27 F_enabled_b27 F_waitPoint_b27 F_active_b27 F_clients_b27 g_b27 (own_pi01 _) (own_pi01 _)) hZ3 (hw _ (List.mem_of_getElem? (i := 61) rfl)) (hw _ (List.mem_of_getElem? (i := 58) rfl)) (by decide) (by decide)) (g := (mkF m 455 #[.val (.int p1), .val (.int p2), .val (.int p3), .val (.long q4), .second, .val (.int (own_pi (¬ ((p1 &&& (1 : Int32)) = (0 : Int32))))), .val (.int (own_pi (¬ ((p1 &&& (2 : Int32)) = (0 : Int32))))), .val (.int ((own_ushr p1 (2 : Int32)) &&& (3 : Int32))), .val (.ref a3), .val (.int ((p2 &&& (2147483647 : Int32)) % (10 : Int32))), .val (.int (own_ch p3)), .val (.ref b17), .val (.int (own_pi ((own_ch p3) = (own_AS.getD (((p2 &&& (2147483647 : Int32)) % (10 : Int32))).toNatClampNeg 0)))), .val (.int e13), .unset] [(.long q4), (.int (own_pi (¬ ((p1 &&& (2 : Int32)) = (0 : Int32))))), (.ref b17), (.int (own_pi (¬ ((p1 &&& (1 : Int32)) = (0 : Int32))))), (.ref b27), (.ref b27)])) rfl (by rw [hml]; rfl) (Steps.refl _) (a := b27) (argsL := [(.int (own_pi (¬ ((p1 &&& (1 : Int32)) = (0 : Int32))))), (.ref b17), (.int (own_pi (¬ ((p1 &&& (2 : Int32)) = (0 : Int32))))), (.long q4)]) (rest := [(.ref b27)]) (lenOf pd_4 rfl) rfl (by show 2 * 0 + _ ≤ _; exact Nat.le_of_eq rfl) (hb hby at_455) (fun _ _ => ⟨rfl, e27, (by decide : 6 + 0 ≤ _), (by decide : 72 + 0 ≤ _)⟩)
    dsimp only [Pt.U, Pt.locs, Pt.cells, Pt.slots] at X28 l28 y28 z28 st28 hQ28
    subst l28 y28 z28
    obtain ⟨rfl, N28q, K28, Fenabled28, FwaitPoint28, Factive28, Fclients28⟩ := hQ28
    have N28 := Fr.app N20 N28q
    refine Gl.pre (fun _ k => st28.trans k) ?_
    have hs28 : ∀ x ∈ [b27], Safe Z own_EL _ _ x := (allS Sf_b27 all0)
    have Sf_b5 := Safe.keep K28 hs28 CR27.1 Sf_b5
    have Sf_b17 := Safe.keep K28 hs28 CR27.1 Sf_b17
    have Sf_b27 := Safe.keep K28 hs28 CR27.1 Sf_b27
    have CR28 := CR27.trans (CHr.keep K28 hs28 CR27.1)
    have O_ := O_.keep K28 (allS g_b27 all0)
    have Va3 := Va3.keep K28 (ninS (own_ne_b3_b27) nin0)
    have Es3 := Es3.keep K28
    have Fc3 := Fc3.keep K28 (ninS (own_ne_a3_b27) nin0)
    have Fv3 := Fv3.keep K28 (ninS (own_ne_a3_b27) nin0)
    have V_b3 := V_b3.keep K28 (ninS (own_ne_b3_b27) nin0)
    have V_b5 := V_b5.keep K28 (ninS (own_ne_b5_b27) nin0)
    have E_b17 := E_b17.keep K28
    have F_value_b17 := F_value_b17.keep K28 (ninS (own_ne_b17_b27) nin0)
    have F_coder_b17 := F_coder_b17.keep K28 (ninS (own_ne_b17_b27) nin0)
    have Kt19 := Kt19.keep K28 (ninS (own_ne_tv19_b27) nin0)
    have E_b27 := E_b27.keep K28
    have hk28 := Nat.le_trans hk27 K28.1
    have Z28 : n0 ≤ T28.heap.size := Nat.le_trans Z27 K28.1
    have F_enabled_b27 := Fenabled28
    have F_waitPoint_b27 := FwaitPoint28
    have F_active_b27 := Factive28
    have F_clients_b27 := Fclients28
    refine Gl.pre (fun _ k => XS.astore X28.here hx rfl (hb hby at_458) rfl rfl (l' := #[.val (.int p1), .val (.int p2), .val (.int p3), .val (.long q4), .second, .val (.int (own_pi (¬ ((p1 &&& (1 : Int32)) = (0 : Int32))))), .val (.int (own_pi (¬ ((p1 &&& (2 : Int32)) = (0 : Int32))))), .val (.int ((own_ushr p1 (2 : Int32)) &&& (3 : Int32))), .val (.ref a3), .val (.int ((p2 &&& (2147483647 : Int32)) % (10 : Int32))), .val (.int (own_ch p3)), .val (.ref b17), .val (.int (own_pi ((own_ch p3) = (own_AS.getD (((p2 &&& (2147483647 : Int32)) % (10 : Int32))).toNatClampNeg 0)))), .val (.int e13), .val (.ref b27)]) rfl k) ?_
    show Gl p.tables e below PP (T28.setTop (mkF m 460 #[.val (.int p1), .val (.int p2), .val (.int p3), .val (.long q4), .second, .val (.int (own_pi (¬ ((p1 &&& (1 : Int32)) = (0 : Int32))))), .val (.int (own_pi (¬ ((p1 &&& (2 : Int32)) = (0 : Int32))))), .val (.int ((own_ushr p1 (2 : Int32)) &&& (3 : Int32))), .val (.ref a3), .val (.int ((p2 &&& (2147483647 : Int32)) % (10 : Int32))), .val (.int (own_ch p3)), .val (.ref b17), .val (.int (own_pi ((own_ch p3) = (own_AS.getD (((p2 &&& (2147483647 : Int32)) % (10 : Int32))).toNatClampNeg 0)))), .val (.int e13), .val (.ref b27)] []))
    refine Gl.pre (fun _ k => XS.aload X28.here hx rfl (hb hby at_460) rfl rfl k) ?_
    obtain ⟨cq29, kq29, qa29, qb29, qc29⟩ := isOf hZ3 rfl E_b27
    obtain ⟨_, _, ⟨T29, L29, k29, n29⟩, -, X29, hS29c, hg29, ⟨Lc29, hQ29, l29, y29, z29, CR29c⟩, st29⟩ := X28.virtualBackS hx (y := (⟨"com/example/anchorwatch/anchorwatch/model/SemiSync", "lossless", "()Z"⟩ : MethodName)) (z := (⟨"com/example/anchorwatch/anchorwatch/model/SemiSync", "lossless", "()Z"⟩ : MethodName)) hown3 (mvT hZ3 (hw _ (List.mem_of_getElem? (i := 76) rfl))) (mvT hZ3 (hw _ (List.mem_of_getElem? (i := 77) rfl))) (notFace_of_selects (args := #[]) (mvT hZ3 (hw _ (List.mem_of_getElem? (i := 79) rfl)))) (mvT hZ3 (hw _ (List.mem_of_getElem? (i := 79) rfl))) (mvT hZ3 (hw _ (List.mem_of_getElem? (i := 78) rfl))) (by decide) (own_backH (W := 0) (rmloS l Z a0 hw [] b27 (own_pi (¬ ((p1 &&& (1 : Int32)) = (0 : Int32)))) (own_pi (¬ ((p1 &&& (2 : Int32)) = (0 : Int32)))) q4 cs b17 tv19 kt19 ([(nar .char (65 : Int32)), (nar .char (70 : Int32)), (nar .char (84 : Int32)), (nar .char (69 : Int32)), (nar .char (82 : Int32)), (nar .char (95 : Int32)), (nar .char (83 : Int32)), (nar .char (89 : Int32)), (nar .char (78 : Int32)), (nar .char (67 : Int32))].set (((p2 &&& (2147483647 : Int32)) % (10 : Int32))).toNatClampNeg (nar .char (own_ch p3))) _ T28.heap n0 Z28 F_enabled_b27 F_waitPoint_b27 F_active_b27 F_clients_b27 SBC hcs O_ E_b17 F_value_b17 F_coder_b17 Kt19 (by first | rfl | simp) hp18 (by simp only [List.length_set, List.length_cons, List.length_nil]; decide) hEL) hZ3 (hw _ (List.mem_of_getElem? (i := 80) rfl)) (hw _ (List.mem_of_getElem? (i := 58) rfl)) (by decide) (by decide) hEL CR28.1 all0) qa29 qc29 (g := (mkF m 462 #[.val (.int p1), .val (.int p2), .val (.int p3), .val (.long q4), .second, .val (.int (own_pi (¬ ((p1 &&& (1 : Int32)) = (0 : Int32))))), .val (.int (own_pi (¬ ((p1 &&& (2 : Int32)) = (0 : Int32))))), .val (.int ((own_ushr p1 (2 : Int32)) &&& (3 : Int32))), .val (.ref a3), .val (.int ((p2 &&& (2147483647 : Int32)) % (10 : Int32))), .val (.int (own_ch p3)), .val (.ref b17), .val (.int (own_pi ((own_ch p3) = (own_AS.getD (((p2 &&& (2147483647 : Int32)) % (10 : Int32))).toNatClampNeg 0)))), .val (.int e13), .val (.ref b27)] [(.ref b27)])) rfl (by rw [hml]; rfl) (Steps.refl _) (argsL := []) (rest := []) (lenOf pd_5 rfl) rfl (by show 2 * 0 + _ ≤ _; exact Nat.le_of_eq rfl) (hb hby at_462) (fun _ _ => ⟨rfl, rfl, (by decide : 6 + 2 ≤ _), (by decide : 72 + 44 ≤ _)⟩)
    dsimp only [Pt.U, Pt.locs, Pt.cells, Pt.slots] at X29 l29 y29 z29 st29 hQ29 hS29c hg29 CR29c
    subst l29 y29 z29
    have X29 : Stand p l e room_1 (s.setVm T29.vm) m #[(.int p1), (.int p2), (.int p3), (.long q4)] below meth c T29 _ _ _ := X29
    have hS29 := foldS hS3 hk28 hS29c hg29
    have hZ29 : Z.Warmed39 (s.setVm T29.vm).vm := State.Warmed39.trans (t := s.setVm T3.vm) hZ3 hS29c.1
    have hown29 : (s.setVm T29.vm).vm.findClass "com/example/anchorwatch/anchorwatch/model/SemiSyncLosslessPinLaw" = some m.cls := by rw [show (s.setVm T29.vm).vm = T29.vm from rfl, hS29c.1.alike.findClass]; exact hown3
    have Sf_b5 := CR29c.safe V_b5.lt Sf_b5
    have Sf_b17 := CR29c.safe E_b17.lt Sf_b17
    have Sf_b27 := CR29c.safe E_b27.lt Sf_b27
    have CR29 := CR28.trans CR29c
    obtain ⟨rfl, N29q, K29⟩ := hQ29
    have N29 := Fr.app N28 N29q
    refine Gl.pre (fun _ k => st29.trans k) ?_
    have O_ := O_.keep K29 all0
    have Va3 := Va3.keep K29 nin0
    have Es3 := Es3.keep K29
    have Fc3 := Fc3.keep K29 nin0
    have Fv3 := Fv3.keep K29 nin0
    have V_b3 := V_b3.keep K29 nin0
    have V_b5 := V_b5.keep K29 nin0
    have E_b17 := E_b17.keep K29
    have F_value_b17 := F_value_b17.keep K29 nin0
    have F_coder_b17 := F_coder_b17.keep K29 nin0
    have Kt19 := Kt19.keep K29 nin0
    have E_b27 := E_b27.keep K29
    have F_enabled_b27 := F_enabled_b27.keep K29 nin0
    have F_waitPoint_b27 := F_waitPoint_b27.keep K29 nin0
    have F_active_b27 := F_active_b27.keep K29 nin0
    have F_clients_b27 := F_clients_b27.keep K29 nin0
    have Z29 : n0 ≤ T29.heap.size := Nat.le_trans Z28 K29.1
    refine Gl.pre (fun _ k => XS.iload X29.here hx rfl (hb hby at_465) rfl k) ?_
    show Gl p.tables e below PP (T29.setTop (mkF m 467 #[.val (.int p1), .val (.int p2), .val (.int p3), .val (.long q4), .second, .val (.int (own_pi (¬ ((p1 &&& (1 : Int32)) = (0 : Int32))))), .val (.int (own_pi (¬ ((p1 &&& (2 : Int32)) = (0 : Int32))))), .val (.int ((own_ushr p1 (2 : Int32)) &&& (3 : Int32))), .val (.ref a3), .val (.int ((p2 &&& (2147483647 : Int32)) % (10 : Int32))), .val (.int (own_ch p3)), .val (.ref b17), .val (.int (own_pi ((own_ch p3) = (own_AS.getD (((p2 &&& (2147483647 : Int32)) % (10 : Int32))).toNatClampNeg 0)))), .val (.int e13), .val (.ref b27)] [(.int e13), (.int (own_pi (¬ ((own_pi (¬ ((p1 &&& (1 : Int32)) = (0 : Int32)))) = (0 : Int32)) ∧ own_AS = ([(nar .char (65 : Int32)), (nar .char (70 : Int32)), (nar .char (84 : Int32)), (nar .char (69 : Int32)), (nar .char (82 : Int32)), (nar .char (95 : Int32)), (nar .char (83 : Int32)), (nar .char (89 : Int32)), (nar .char (78 : Int32)), (nar .char (67 : Int32))].set (((p2 &&& (2147483647 : Int32)) % (10 : Int32))).toNatClampNeg (nar .char (own_ch p3))) ∧ ¬ ((own_pi (¬ ((p1 &&& (2 : Int32)) = (0 : Int32)))) = (0 : Int32)) ∧ ¬ (q4 < (1 : Int64)))))]))
    refine Gl.pre (fun _ k => XS.icmpNo X29.here hx rfl (hb hby at_467) rfl (teq (show (own_pi (¬ ((own_pi (¬ ((p1 &&& (1 : Int32)) = (0 : Int32)))) = (0 : Int32)) ∧ own_AS = ([(nar .char (65 : Int32)), (nar .char (70 : Int32)), (nar .char (84 : Int32)), (nar .char (69 : Int32)), (nar .char (82 : Int32)), (nar .char (95 : Int32)), (nar .char (83 : Int32)), (nar .char (89 : Int32)), (nar .char (78 : Int32)), (nar .char (67 : Int32))].set (((p2 &&& (2147483647 : Int32)) % (10 : Int32))).toNatClampNeg (nar .char (own_ch p3))) ∧ ¬ ((own_pi (¬ ((p1 &&& (2 : Int32)) = (0 : Int32)))) = (0 : Int32)) ∧ ¬ (q4 < (1 : Int64)))) = e13 from (by rw [he13]; exact own_pi_eq (own_finP (own_pset p2 p3))))).2 k) ?_
    show Gl p.tables e below PP (T29.setTop (mkF m 470 #[.val (.int p1), .val (.int p2), .val (.int p3), .val (.long q4), .second, .val (.int (own_pi (¬ ((p1 &&& (1 : Int32)) = (0 : Int32))))), .val (.int (own_pi (¬ ((p1 &&& (2 : Int32)) = (0 : Int32))))), .val (.int ((own_ushr p1 (2 : Int32)) &&& (3 : Int32))), .val (.ref a3), .val (.int ((p2 &&& (2147483647 : Int32)) % (10 : Int32))), .val (.int (own_ch p3)), .val (.ref b17), .val (.int (own_pi ((own_ch p3) = (own_AS.getD (((p2 &&& (2147483647 : Int32)) % (10 : Int32))).toNatClampNeg 0)))), .val (.int e13), .val (.ref b27)] []))
    refine Gl.pre (fun _ k => XS.iconst X29.here hx rfl (hb hby at_470) k) ?_
    refine Gl.pre (fun _ k => XS.goto X29.here hx rfl (pc0 := 471) (pc' := 475) rfl (hb hby at_471) (by decide) (by decide) k) ?_
    rw [hPP]
    refine own_finNW (Q := (Q0 Z p1 p2 p3 q4 cs fo h0 n0)) (Z := Z) (EL := own_EL) X29 hx hlk hS29 (Nat.le_refl _) Bd.returns (t := .boolean) (z' := (1 : Int32)) (by simp) (by decide) (hb hby at_475) ?_ (by rw [hh]; exact CR29.trans (CHv.at X29 hZ29 hEL CR29.1)) (by decide) (by decide)
    show Q0 Z p1 p2 p3 q4 cs fo h0 n0 _ T29.heap _
    exact ⟨rfl, N29⟩
  · refine Gl.pre (fun _ k => XS.ifYes X3.here hx rfl (pc0 := 56) (pc' := 159) rfl (hb hby at_56) rfl ((if0 _ _).trans (feq hc4).2) (by decide) (by decide) k) ?_
    show Gl p.tables e below PP (T3.setTop (mkF m 159 #[.val (.int p1), .val (.int p2), .val (.int p3), .val (.long q4), .second, .val (.int (own_pi (¬ ((p1 &&& (1 : Int32)) = (0 : Int32))))), .val (.int (own_pi (¬ ((p1 &&& (2 : Int32)) = (0 : Int32))))), .val (.int ((own_ushr p1 (2 : Int32)) &&& (3 : Int32))), .val (.ref a3), .val (.int ((p2 &&& (2147483647 : Int32)) % (10 : Int32))), .val (.int (own_ch p3)), .unset, .unset, .unset, .unset] []))
    refine Gl.pre (fun _ k => XS.iload X3.here hx rfl (hb hby at_159) rfl k) ?_
    show Gl p.tables e below PP (T3.setTop (mkF m 161 #[.val (.int p1), .val (.int p2), .val (.int p3), .val (.long q4), .second, .val (.int (own_pi (¬ ((p1 &&& (1 : Int32)) = (0 : Int32))))), .val (.int (own_pi (¬ ((p1 &&& (2 : Int32)) = (0 : Int32))))), .val (.int ((own_ushr p1 (2 : Int32)) &&& (3 : Int32))), .val (.ref a3), .val (.int ((p2 &&& (2147483647 : Int32)) % (10 : Int32))), .val (.int (own_ch p3)), .unset, .unset, .unset, .unset] [(.int ((own_ushr p1 (2 : Int32)) &&& (3 : Int32)))]))
    refine Gl.pre (fun _ k => XS.iconst X3.here hx rfl (hb hby at_161) k) ?_
    by_cases hc30 : ((own_ushr p1 (2 : Int32)) &&& (3 : Int32)) = (1 : Int32)
    · refine Gl.pre (fun _ k => XS.icmpNo X3.here hx rfl (hb hby at_162) rfl (teq hc30).2 k) ?_
      show Gl p.tables e below PP (T3.setTop (mkF m 165 #[.val (.int p1), .val (.int p2), .val (.int p3), .val (.long q4), .second, .val (.int (own_pi (¬ ((p1 &&& (1 : Int32)) = (0 : Int32))))), .val (.int (own_pi (¬ ((p1 &&& (2 : Int32)) = (0 : Int32))))), .val (.int ((own_ushr p1 (2 : Int32)) &&& (3 : Int32))), .val (.ref a3), .val (.int ((p2 &&& (2147483647 : Int32)) % (10 : Int32))), .val (.int (own_ch p3)), .unset, .unset, .unset, .unset] []))
      refine Gl.pre (fun _ k => XS.bipush X3.here hx rfl (hb hby at_165) k) ?_
      obtain ⟨T31, h31, k31, X31, e31, E31, A31, st31⟩ := newP X3 hx hZ3 (hw _ (List.mem_of_getElem? (i := 9) rfl)) e3 (g := (mkF m 167 #[.val (.int p1), .val (.int p2), .val (.int p3), .val (.long q4), .second, .val (.int (own_pi (¬ ((p1 &&& (1 : Int32)) = (0 : Int32))))), .val (.int (own_pi (¬ ((p1 &&& (2 : Int32)) = (0 : Int32))))), .val (.int ((own_ushr p1 (2 : Int32)) &&& (3 : Int32))), .val (.ref a3), .val (.int ((p2 &&& (2147483647 : Int32)) % (10 : Int32))), .val (.int (own_ch p3)), .unset, .unset, .unset, .unset] [(.int (10 : Int32))])) rfl (hb hby at_167) rfl (by decide) (cap := 10) (by decide) (by decide) (by decide) (by decide)
      obtain ⟨b31, g31⟩ : ∃ z, z = h3.size := ⟨_, rfl⟩
      rw [← g31] at A31 st31
      refine Gl.pre (fun _ k => st31 _ k) ?_
      have own_ne_b3_b31 : b3 ≠ b31 := by have q := Va3.lt; rw [g31]; exact Nat.ne_of_lt q
      have own_ne_b31_b3 : b31 ≠ b3 := own_ne_b3_b31.symm
      have own_ne_a3_b31 : a3 ≠ b31 := by have q := Es3.lt; rw [g31]; exact Nat.ne_of_lt q
      have own_ne_b31_a3 : b31 ≠ a3 := own_ne_a3_b31.symm
      have g_b31 : n0 ≤ b31 := Nat.le_trans Z3 (Nat.le_of_eq g31.symm)
      have Sf_b31 := Safe.ext E31 CR3.1 (Safe.new (Z := Z) (EL := own_EL) (vm := T3.vm) (Nat.le_of_eq g31.symm))
      have CR31 := CR3.trans (CHr.ext E31 CR3.1)
      have O_ := O_.ext E31
      have Va3 := Va3.ext E31
      have Es3 := Es3.ext E31
      have Fc3 := Fc3.ext E31
      have Fv3 := Fv3.ext E31
      have V_b3 := V_b3.ext E31
      have Z31 : n0 ≤ h31.size := Nat.le_trans Z3 E31.1
      have hk31 := Nat.le_trans hk3 E31.1
      have V_b31 : Bal Z h31 b31 .char [(0 : Int32), (0 : Int32), (0 : Int32), (0 : Int32), (0 : Int32), (0 : Int32), (0 : Int32), (0 : Int32), (0 : Int32), (0 : Int32)] := Bal.new (ty := .char) A31 (n := 10) (by decide) rfl
      show Gl p.tables e below PP (T31.setTop (mkF m 169 #[.val (.int p1), .val (.int p2), .val (.int p3), .val (.long q4), .second, .val (.int (own_pi (¬ ((p1 &&& (1 : Int32)) = (0 : Int32))))), .val (.int (own_pi (¬ ((p1 &&& (2 : Int32)) = (0 : Int32))))), .val (.int ((own_ushr p1 (2 : Int32)) &&& (3 : Int32))), .val (.ref a3), .val (.int ((p2 &&& (2147483647 : Int32)) % (10 : Int32))), .val (.int (own_ch p3)), .unset, .unset, .unset, .unset] [(.ref b31)]))
      refine Gl.pre (fun _ k => XS.dup X31.here hx rfl (hb hby at_169) rfl rfl k) ?_
      refine Gl.pre (fun _ k => XS.iconst X31.here hx rfl (hb hby at_170) k) ?_
      refine Gl.pre (fun _ k => XS.bipush X31.here hx rfl (hb hby at_171) k) ?_
      show Gl p.tables e below PP (T31.setTop (mkF m 173 #[.val (.int p1), .val (.int p2), .val (.int p3), .val (.long q4), .second, .val (.int (own_pi (¬ ((p1 &&& (1 : Int32)) = (0 : Int32))))), .val (.int (own_pi (¬ ((p1 &&& (2 : Int32)) = (0 : Int32))))), .val (.int ((own_ushr p1 (2 : Int32)) &&& (3 : Int32))), .val (.ref a3), .val (.int ((p2 &&& (2147483647 : Int32)) % (10 : Int32))), .val (.int (own_ch p3)), .unset, .unset, .unset, .unset] [(.int (65 : Int32)), (.int (0 : Int32)), (.ref b31), (.ref b31)]))
      obtain ⟨T32, h32, X32, e32, W32, V32, st32⟩ := own_stC X31 hx hZ3 e31 V_b31 (j := (0 : Int32)) (i := 0) (by decide) (by decide) (Nat.lt_of_lt_of_eq (by decide : 0 < 10) rfl) (g := (mkF m 173 #[.val (.int p1), .val (.int p2), .val (.int p3), .val (.long q4), .second, .val (.int (own_pi (¬ ((p1 &&& (1 : Int32)) = (0 : Int32))))), .val (.int (own_pi (¬ ((p1 &&& (2 : Int32)) = (0 : Int32))))), .val (.int ((own_ushr p1 (2 : Int32)) &&& (3 : Int32))), .val (.ref a3), .val (.int ((p2 &&& (2147483647 : Int32)) % (10 : Int32))), .val (.int (own_ch p3)), .unset, .unset, .unset, .unset] [(.int (65 : Int32)), (.int (0 : Int32)), (.ref b31), (.ref b31)])) rfl rfl (hb hby at_173)
      refine Gl.pre (fun _ k => st32 _ k) ?_
      have CR32 := CR31.trans (CHr.wr W32 Sf_b31 CR31.1)
      have Sf_b31 := Safe.wr W32 Sf_b31 CR31.1 Sf_b31
      have O_ := O_.wr W32 g_b31
      have Va3 := Va3.other W32 (own_ne_b3_b31)
      have Es3 := Es3.wr W32
      have Fc3 := Fc3.other W32 (Or.inl (own_ne_a3_b31))
      have Fv3 := Fv3.other W32 (Or.inl (own_ne_a3_b31))
      have V_b3 := V_b3.other W32 (own_ne_b3_b31)
      have Z32 : n0 ≤ h32.size := by rw [W32.size]; exact Z31
      have hk32 := Nat.le_trans hk31 (Nat.le_of_eq W32.size.symm)
      have N32 := Fr.snoc X32 N0 g_b31
      have V_b31 : Bal Z h32 b31 .char [(nar .char (65 : Int32)), (0 : Int32), (0 : Int32), (0 : Int32), (0 : Int32), (0 : Int32), (0 : Int32), (0 : Int32), (0 : Int32), (0 : Int32)] := V32
      refine Gl.pre (fun _ k => XS.dup X32.here hx rfl (hb hby at_174) rfl rfl k) ?_
      refine Gl.pre (fun _ k => XS.iconst X32.here hx rfl (hb hby at_175) k) ?_
      show Gl p.tables e below PP (T32.setTop (mkF m 176 #[.val (.int p1), .val (.int p2), .val (.int p3), .val (.long q4), .second, .val (.int (own_pi (¬ ((p1 &&& (1 : Int32)) = (0 : Int32))))), .val (.int (own_pi (¬ ((p1 &&& (2 : Int32)) = (0 : Int32))))), .val (.int ((own_ushr p1 (2 : Int32)) &&& (3 : Int32))), .val (.ref a3), .val (.int ((p2 &&& (2147483647 : Int32)) % (10 : Int32))), .val (.int (own_ch p3)), .unset, .unset, .unset, .unset] [(.int (1 : Int32)), (.ref b31), (.ref b31)]))
      refine Gl.pre (fun _ k => XS.bipush X32.here hx rfl (hb hby at_176) k) ?_
      obtain ⟨T33, h33, X33, e33, W33, V33, st33⟩ := own_stC X32 hx hZ3 e32 V_b31 (j := (1 : Int32)) (i := 1) (by decide) (by decide) (Nat.lt_of_lt_of_eq (by decide : 1 < 10) rfl) (g := (mkF m 178 #[.val (.int p1), .val (.int p2), .val (.int p3), .val (.long q4), .second, .val (.int (own_pi (¬ ((p1 &&& (1 : Int32)) = (0 : Int32))))), .val (.int (own_pi (¬ ((p1 &&& (2 : Int32)) = (0 : Int32))))), .val (.int ((own_ushr p1 (2 : Int32)) &&& (3 : Int32))), .val (.ref a3), .val (.int ((p2 &&& (2147483647 : Int32)) % (10 : Int32))), .val (.int (own_ch p3)), .unset, .unset, .unset, .unset] [(.int (70 : Int32)), (.int (1 : Int32)), (.ref b31), (.ref b31)])) rfl rfl (hb hby at_178)
      refine Gl.pre (fun _ k => st33 _ k) ?_
      have CR33 := CR32.trans (CHr.wr W33 Sf_b31 CR32.1)
      have Sf_b31 := Safe.wr W33 Sf_b31 CR32.1 Sf_b31
      have O_ := O_.wr W33 g_b31
      have Va3 := Va3.other W33 (own_ne_b3_b31)
      have Es3 := Es3.wr W33
      have Fc3 := Fc3.other W33 (Or.inl (own_ne_a3_b31))
      have Fv3 := Fv3.other W33 (Or.inl (own_ne_a3_b31))
      have V_b3 := V_b3.other W33 (own_ne_b3_b31)
      have Z33 : n0 ≤ h33.size := by rw [W33.size]; exact Z32
      have hk33 := Nat.le_trans hk32 (Nat.le_of_eq W33.size.symm)
      have N33 := Fr.snoc X33 N32 g_b31
      have V_b31 : Bal Z h33 b31 .char [(nar .char (65 : Int32)), (nar .char (70 : Int32)), (0 : Int32), (0 : Int32), (0 : Int32), (0 : Int32), (0 : Int32), (0 : Int32), (0 : Int32), (0 : Int32)] := V33
      refine Gl.pre (fun _ k => XS.dup X33.here hx rfl (hb hby at_179) rfl rfl k) ?_
      show Gl p.tables e below PP (T33.setTop (mkF m 180 #[.val (.int p1), .val (.int p2), .val (.int p3), .val (.long q4), .second, .val (.int (own_pi (¬ ((p1 &&& (1 : Int32)) = (0 : Int32))))), .val (.int (own_pi (¬ ((p1 &&& (2 : Int32)) = (0 : Int32))))), .val (.int ((own_ushr p1 (2 : Int32)) &&& (3 : Int32))), .val (.ref a3), .val (.int ((p2 &&& (2147483647 : Int32)) % (10 : Int32))), .val (.int (own_ch p3)), .unset, .unset, .unset, .unset] [(.ref b31), (.ref b31)]))
      refine Gl.pre (fun _ k => XS.iconst X33.here hx rfl (hb hby at_180) k) ?_
      refine Gl.pre (fun _ k => XS.bipush X33.here hx rfl (hb hby at_181) k) ?_
      obtain ⟨T34, h34, X34, e34, W34, V34, st34⟩ := own_stC X33 hx hZ3 e33 V_b31 (j := (2 : Int32)) (i := 2) (by decide) (by decide) (Nat.lt_of_lt_of_eq (by decide : 2 < 10) rfl) (g := (mkF m 183 #[.val (.int p1), .val (.int p2), .val (.int p3), .val (.long q4), .second, .val (.int (own_pi (¬ ((p1 &&& (1 : Int32)) = (0 : Int32))))), .val (.int (own_pi (¬ ((p1 &&& (2 : Int32)) = (0 : Int32))))), .val (.int ((own_ushr p1 (2 : Int32)) &&& (3 : Int32))), .val (.ref a3), .val (.int ((p2 &&& (2147483647 : Int32)) % (10 : Int32))), .val (.int (own_ch p3)), .unset, .unset, .unset, .unset] [(.int (84 : Int32)), (.int (2 : Int32)), (.ref b31), (.ref b31)])) rfl rfl (hb hby at_183)
      refine Gl.pre (fun _ k => st34 _ k) ?_
      have CR34 := CR33.trans (CHr.wr W34 Sf_b31 CR33.1)
      have Sf_b31 := Safe.wr W34 Sf_b31 CR33.1 Sf_b31
      have O_ := O_.wr W34 g_b31
      have Va3 := Va3.other W34 (own_ne_b3_b31)
      have Es3 := Es3.wr W34
      have Fc3 := Fc3.other W34 (Or.inl (own_ne_a3_b31))
      have Fv3 := Fv3.other W34 (Or.inl (own_ne_a3_b31))
      have V_b3 := V_b3.other W34 (own_ne_b3_b31)
      have Z34 : n0 ≤ h34.size := by rw [W34.size]; exact Z33
      have hk34 := Nat.le_trans hk33 (Nat.le_of_eq W34.size.symm)
      have N34 := Fr.snoc X34 N33 g_b31
      have V_b31 : Bal Z h34 b31 .char [(nar .char (65 : Int32)), (nar .char (70 : Int32)), (nar .char (84 : Int32)), (0 : Int32), (0 : Int32), (0 : Int32), (0 : Int32), (0 : Int32), (0 : Int32), (0 : Int32)] := V34
      show Gl p.tables e below PP (T34.setTop (mkF m 184 #[.val (.int p1), .val (.int p2), .val (.int p3), .val (.long q4), .second, .val (.int (own_pi (¬ ((p1 &&& (1 : Int32)) = (0 : Int32))))), .val (.int (own_pi (¬ ((p1 &&& (2 : Int32)) = (0 : Int32))))), .val (.int ((own_ushr p1 (2 : Int32)) &&& (3 : Int32))), .val (.ref a3), .val (.int ((p2 &&& (2147483647 : Int32)) % (10 : Int32))), .val (.int (own_ch p3)), .unset, .unset, .unset, .unset] [(.ref b31)]))
      refine Gl.pre (fun _ k => XS.dup X34.here hx rfl (hb hby at_184) rfl rfl k) ?_
      refine Gl.pre (fun _ k => XS.iconst X34.here hx rfl (hb hby at_185) k) ?_
      refine Gl.pre (fun _ k => XS.bipush X34.here hx rfl (hb hby at_186) k) ?_
      show Gl p.tables e below PP (T34.setTop (mkF m 188 #[.val (.int p1), .val (.int p2), .val (.int p3), .val (.long q4), .second, .val (.int (own_pi (¬ ((p1 &&& (1 : Int32)) = (0 : Int32))))), .val (.int (own_pi (¬ ((p1 &&& (2 : Int32)) = (0 : Int32))))), .val (.int ((own_ushr p1 (2 : Int32)) &&& (3 : Int32))), .val (.ref a3), .val (.int ((p2 &&& (2147483647 : Int32)) % (10 : Int32))), .val (.int (own_ch p3)), .unset, .unset, .unset, .unset] [(.int (69 : Int32)), (.int (3 : Int32)), (.ref b31), (.ref b31)]))
      obtain ⟨T35, h35, X35, e35, W35, V35, st35⟩ := own_stC X34 hx hZ3 e34 V_b31 (j := (3 : Int32)) (i := 3) (by decide) (by decide) (Nat.lt_of_lt_of_eq (by decide : 3 < 10) rfl) (g := (mkF m 188 #[.val (.int p1), .val (.int p2), .val (.int p3), .val (.long q4), .second, .val (.int (own_pi (¬ ((p1 &&& (1 : Int32)) = (0 : Int32))))), .val (.int (own_pi (¬ ((p1 &&& (2 : Int32)) = (0 : Int32))))), .val (.int ((own_ushr p1 (2 : Int32)) &&& (3 : Int32))), .val (.ref a3), .val (.int ((p2 &&& (2147483647 : Int32)) % (10 : Int32))), .val (.int (own_ch p3)), .unset, .unset, .unset, .unset] [(.int (69 : Int32)), (.int (3 : Int32)), (.ref b31), (.ref b31)])) rfl rfl (hb hby at_188)
      refine Gl.pre (fun _ k => st35 _ k) ?_
      have CR35 := CR34.trans (CHr.wr W35 Sf_b31 CR34.1)
      have Sf_b31 := Safe.wr W35 Sf_b31 CR34.1 Sf_b31
      have O_ := O_.wr W35 g_b31
      have Va3 := Va3.other W35 (own_ne_b3_b31)
      have Es3 := Es3.wr W35
      have Fc3 := Fc3.other W35 (Or.inl (own_ne_a3_b31))
      have Fv3 := Fv3.other W35 (Or.inl (own_ne_a3_b31))
      have V_b3 := V_b3.other W35 (own_ne_b3_b31)
      have Z35 : n0 ≤ h35.size := by rw [W35.size]; exact Z34
      have hk35 := Nat.le_trans hk34 (Nat.le_of_eq W35.size.symm)
      have N35 := Fr.snoc X35 N34 g_b31
      have V_b31 : Bal Z h35 b31 .char [(nar .char (65 : Int32)), (nar .char (70 : Int32)), (nar .char (84 : Int32)), (nar .char (69 : Int32)), (0 : Int32), (0 : Int32), (0 : Int32), (0 : Int32), (0 : Int32), (0 : Int32)] := V35
      refine Gl.pre (fun _ k => XS.dup X35.here hx rfl (hb hby at_189) rfl rfl k) ?_
      refine Gl.pre (fun _ k => XS.iconst X35.here hx rfl (hb hby at_190) k) ?_
      show Gl p.tables e below PP (T35.setTop (mkF m 191 #[.val (.int p1), .val (.int p2), .val (.int p3), .val (.long q4), .second, .val (.int (own_pi (¬ ((p1 &&& (1 : Int32)) = (0 : Int32))))), .val (.int (own_pi (¬ ((p1 &&& (2 : Int32)) = (0 : Int32))))), .val (.int ((own_ushr p1 (2 : Int32)) &&& (3 : Int32))), .val (.ref a3), .val (.int ((p2 &&& (2147483647 : Int32)) % (10 : Int32))), .val (.int (own_ch p3)), .unset, .unset, .unset, .unset] [(.int (4 : Int32)), (.ref b31), (.ref b31)]))
      refine Gl.pre (fun _ k => XS.bipush X35.here hx rfl (hb hby at_191) k) ?_
      obtain ⟨T36, h36, X36, e36, W36, V36, st36⟩ := own_stC X35 hx hZ3 e35 V_b31 (j := (4 : Int32)) (i := 4) (by decide) (by decide) (Nat.lt_of_lt_of_eq (by decide : 4 < 10) rfl) (g := (mkF m 193 #[.val (.int p1), .val (.int p2), .val (.int p3), .val (.long q4), .second, .val (.int (own_pi (¬ ((p1 &&& (1 : Int32)) = (0 : Int32))))), .val (.int (own_pi (¬ ((p1 &&& (2 : Int32)) = (0 : Int32))))), .val (.int ((own_ushr p1 (2 : Int32)) &&& (3 : Int32))), .val (.ref a3), .val (.int ((p2 &&& (2147483647 : Int32)) % (10 : Int32))), .val (.int (own_ch p3)), .unset, .unset, .unset, .unset] [(.int (82 : Int32)), (.int (4 : Int32)), (.ref b31), (.ref b31)])) rfl rfl (hb hby at_193)
      refine Gl.pre (fun _ k => st36 _ k) ?_
      have CR36 := CR35.trans (CHr.wr W36 Sf_b31 CR35.1)
      have Sf_b31 := Safe.wr W36 Sf_b31 CR35.1 Sf_b31
      have O_ := O_.wr W36 g_b31
      have Va3 := Va3.other W36 (own_ne_b3_b31)
      have Es3 := Es3.wr W36
      have Fc3 := Fc3.other W36 (Or.inl (own_ne_a3_b31))
      have Fv3 := Fv3.other W36 (Or.inl (own_ne_a3_b31))
      have V_b3 := V_b3.other W36 (own_ne_b3_b31)
      have Z36 : n0 ≤ h36.size := by rw [W36.size]; exact Z35
      have hk36 := Nat.le_trans hk35 (Nat.le_of_eq W36.size.symm)
      have N36 := Fr.snoc X36 N35 g_b31
      have V_b31 : Bal Z h36 b31 .char [(nar .char (65 : Int32)), (nar .char (70 : Int32)), (nar .char (84 : Int32)), (nar .char (69 : Int32)), (nar .char (82 : Int32)), (0 : Int32), (0 : Int32), (0 : Int32), (0 : Int32), (0 : Int32)] := V36
      refine Gl.pre (fun _ k => XS.dup X36.here hx rfl (hb hby at_194) rfl rfl k) ?_
      show Gl p.tables e below PP (T36.setTop (mkF m 195 #[.val (.int p1), .val (.int p2), .val (.int p3), .val (.long q4), .second, .val (.int (own_pi (¬ ((p1 &&& (1 : Int32)) = (0 : Int32))))), .val (.int (own_pi (¬ ((p1 &&& (2 : Int32)) = (0 : Int32))))), .val (.int ((own_ushr p1 (2 : Int32)) &&& (3 : Int32))), .val (.ref a3), .val (.int ((p2 &&& (2147483647 : Int32)) % (10 : Int32))), .val (.int (own_ch p3)), .unset, .unset, .unset, .unset] [(.ref b31), (.ref b31)]))
      refine Gl.pre (fun _ k => XS.iconst X36.here hx rfl (hb hby at_195) k) ?_
      refine Gl.pre (fun _ k => XS.bipush X36.here hx rfl (hb hby at_196) k) ?_
      obtain ⟨T37, h37, X37, e37, W37, V37, st37⟩ := own_stC X36 hx hZ3 e36 V_b31 (j := (5 : Int32)) (i := 5) (by decide) (by decide) (Nat.lt_of_lt_of_eq (by decide : 5 < 10) rfl) (g := (mkF m 198 #[.val (.int p1), .val (.int p2), .val (.int p3), .val (.long q4), .second, .val (.int (own_pi (¬ ((p1 &&& (1 : Int32)) = (0 : Int32))))), .val (.int (own_pi (¬ ((p1 &&& (2 : Int32)) = (0 : Int32))))), .val (.int ((own_ushr p1 (2 : Int32)) &&& (3 : Int32))), .val (.ref a3), .val (.int ((p2 &&& (2147483647 : Int32)) % (10 : Int32))), .val (.int (own_ch p3)), .unset, .unset, .unset, .unset] [(.int (95 : Int32)), (.int (5 : Int32)), (.ref b31), (.ref b31)])) rfl rfl (hb hby at_198)
      refine Gl.pre (fun _ k => st37 _ k) ?_
      have CR37 := CR36.trans (CHr.wr W37 Sf_b31 CR36.1)
      have Sf_b31 := Safe.wr W37 Sf_b31 CR36.1 Sf_b31
      have O_ := O_.wr W37 g_b31
      have Va3 := Va3.other W37 (own_ne_b3_b31)
      have Es3 := Es3.wr W37
      have Fc3 := Fc3.other W37 (Or.inl (own_ne_a3_b31))
      have Fv3 := Fv3.other W37 (Or.inl (own_ne_a3_b31))
      have V_b3 := V_b3.other W37 (own_ne_b3_b31)
      have Z37 : n0 ≤ h37.size := by rw [W37.size]; exact Z36
      have hk37 := Nat.le_trans hk36 (Nat.le_of_eq W37.size.symm)
      have N37 := Fr.snoc X37 N36 g_b31
      have V_b31 : Bal Z h37 b31 .char [(nar .char (65 : Int32)), (nar .char (70 : Int32)), (nar .char (84 : Int32)), (nar .char (69 : Int32)), (nar .char (82 : Int32)), (nar .char (95 : Int32)), (0 : Int32), (0 : Int32), (0 : Int32), (0 : Int32)] := V37
      show Gl p.tables e below PP (T37.setTop (mkF m 199 #[.val (.int p1), .val (.int p2), .val (.int p3), .val (.long q4), .second, .val (.int (own_pi (¬ ((p1 &&& (1 : Int32)) = (0 : Int32))))), .val (.int (own_pi (¬ ((p1 &&& (2 : Int32)) = (0 : Int32))))), .val (.int ((own_ushr p1 (2 : Int32)) &&& (3 : Int32))), .val (.ref a3), .val (.int ((p2 &&& (2147483647 : Int32)) % (10 : Int32))), .val (.int (own_ch p3)), .unset, .unset, .unset, .unset] [(.ref b31)]))
      refine Gl.pre (fun _ k => XS.dup X37.here hx rfl (hb hby at_199) rfl rfl k) ?_
      refine Gl.pre (fun _ k => XS.bipush X37.here hx rfl (hb hby at_200) k) ?_
      refine Gl.pre (fun _ k => XS.bipush X37.here hx rfl (hb hby at_202) k) ?_
      show Gl p.tables e below PP (T37.setTop (mkF m 204 #[.val (.int p1), .val (.int p2), .val (.int p3), .val (.long q4), .second, .val (.int (own_pi (¬ ((p1 &&& (1 : Int32)) = (0 : Int32))))), .val (.int (own_pi (¬ ((p1 &&& (2 : Int32)) = (0 : Int32))))), .val (.int ((own_ushr p1 (2 : Int32)) &&& (3 : Int32))), .val (.ref a3), .val (.int ((p2 &&& (2147483647 : Int32)) % (10 : Int32))), .val (.int (own_ch p3)), .unset, .unset, .unset, .unset] [(.int (83 : Int32)), (.int (6 : Int32)), (.ref b31), (.ref b31)]))
      obtain ⟨T38, h38, X38, e38, W38, V38, st38⟩ := own_stC X37 hx hZ3 e37 V_b31 (j := (6 : Int32)) (i := 6) (by decide) (by decide) (Nat.lt_of_lt_of_eq (by decide : 6 < 10) rfl) (g := (mkF m 204 #[.val (.int p1), .val (.int p2), .val (.int p3), .val (.long q4), .second, .val (.int (own_pi (¬ ((p1 &&& (1 : Int32)) = (0 : Int32))))), .val (.int (own_pi (¬ ((p1 &&& (2 : Int32)) = (0 : Int32))))), .val (.int ((own_ushr p1 (2 : Int32)) &&& (3 : Int32))), .val (.ref a3), .val (.int ((p2 &&& (2147483647 : Int32)) % (10 : Int32))), .val (.int (own_ch p3)), .unset, .unset, .unset, .unset] [(.int (83 : Int32)), (.int (6 : Int32)), (.ref b31), (.ref b31)])) rfl rfl (hb hby at_204)
      refine Gl.pre (fun _ k => st38 _ k) ?_
      have CR38 := CR37.trans (CHr.wr W38 Sf_b31 CR37.1)
      have Sf_b31 := Safe.wr W38 Sf_b31 CR37.1 Sf_b31
      have O_ := O_.wr W38 g_b31
      have Va3 := Va3.other W38 (own_ne_b3_b31)
      have Es3 := Es3.wr W38
      have Fc3 := Fc3.other W38 (Or.inl (own_ne_a3_b31))
      have Fv3 := Fv3.other W38 (Or.inl (own_ne_a3_b31))
      have V_b3 := V_b3.other W38 (own_ne_b3_b31)
      have Z38 : n0 ≤ h38.size := by rw [W38.size]; exact Z37
      have hk38 := Nat.le_trans hk37 (Nat.le_of_eq W38.size.symm)
      have N38 := Fr.snoc X38 N37 g_b31
      have V_b31 : Bal Z h38 b31 .char [(nar .char (65 : Int32)), (nar .char (70 : Int32)), (nar .char (84 : Int32)), (nar .char (69 : Int32)), (nar .char (82 : Int32)), (nar .char (95 : Int32)), (nar .char (83 : Int32)), (0 : Int32), (0 : Int32), (0 : Int32)] := V38
      refine Gl.pre (fun _ k => XS.dup X38.here hx rfl (hb hby at_205) rfl rfl k) ?_
      refine Gl.pre (fun _ k => XS.bipush X38.here hx rfl (hb hby at_206) k) ?_
      show Gl p.tables e below PP (T38.setTop (mkF m 208 #[.val (.int p1), .val (.int p2), .val (.int p3), .val (.long q4), .second, .val (.int (own_pi (¬ ((p1 &&& (1 : Int32)) = (0 : Int32))))), .val (.int (own_pi (¬ ((p1 &&& (2 : Int32)) = (0 : Int32))))), .val (.int ((own_ushr p1 (2 : Int32)) &&& (3 : Int32))), .val (.ref a3), .val (.int ((p2 &&& (2147483647 : Int32)) % (10 : Int32))), .val (.int (own_ch p3)), .unset, .unset, .unset, .unset] [(.int (7 : Int32)), (.ref b31), (.ref b31)]))
      refine Gl.pre (fun _ k => XS.bipush X38.here hx rfl (hb hby at_208) k) ?_
      obtain ⟨T39, h39, X39, e39, W39, V39, st39⟩ := own_stC X38 hx hZ3 e38 V_b31 (j := (7 : Int32)) (i := 7) (by decide) (by decide) (Nat.lt_of_lt_of_eq (by decide : 7 < 10) rfl) (g := (mkF m 210 #[.val (.int p1), .val (.int p2), .val (.int p3), .val (.long q4), .second, .val (.int (own_pi (¬ ((p1 &&& (1 : Int32)) = (0 : Int32))))), .val (.int (own_pi (¬ ((p1 &&& (2 : Int32)) = (0 : Int32))))), .val (.int ((own_ushr p1 (2 : Int32)) &&& (3 : Int32))), .val (.ref a3), .val (.int ((p2 &&& (2147483647 : Int32)) % (10 : Int32))), .val (.int (own_ch p3)), .unset, .unset, .unset, .unset] [(.int (89 : Int32)), (.int (7 : Int32)), (.ref b31), (.ref b31)])) rfl rfl (hb hby at_210)
      refine Gl.pre (fun _ k => st39 _ k) ?_
      have CR39 := CR38.trans (CHr.wr W39 Sf_b31 CR38.1)
      have Sf_b31 := Safe.wr W39 Sf_b31 CR38.1 Sf_b31
      have O_ := O_.wr W39 g_b31
      have Va3 := Va3.other W39 (own_ne_b3_b31)
      have Es3 := Es3.wr W39
      have Fc3 := Fc3.other W39 (Or.inl (own_ne_a3_b31))
      have Fv3 := Fv3.other W39 (Or.inl (own_ne_a3_b31))
      have V_b3 := V_b3.other W39 (own_ne_b3_b31)
      have Z39 : n0 ≤ h39.size := by rw [W39.size]; exact Z38
      have hk39 := Nat.le_trans hk38 (Nat.le_of_eq W39.size.symm)
      have N39 := Fr.snoc X39 N38 g_b31
      have V_b31 : Bal Z h39 b31 .char [(nar .char (65 : Int32)), (nar .char (70 : Int32)), (nar .char (84 : Int32)), (nar .char (69 : Int32)), (nar .char (82 : Int32)), (nar .char (95 : Int32)), (nar .char (83 : Int32)), (nar .char (89 : Int32)), (0 : Int32), (0 : Int32)] := V39
      refine Gl.pre (fun _ k => XS.dup X39.here hx rfl (hb hby at_211) rfl rfl k) ?_
      show Gl p.tables e below PP (T39.setTop (mkF m 212 #[.val (.int p1), .val (.int p2), .val (.int p3), .val (.long q4), .second, .val (.int (own_pi (¬ ((p1 &&& (1 : Int32)) = (0 : Int32))))), .val (.int (own_pi (¬ ((p1 &&& (2 : Int32)) = (0 : Int32))))), .val (.int ((own_ushr p1 (2 : Int32)) &&& (3 : Int32))), .val (.ref a3), .val (.int ((p2 &&& (2147483647 : Int32)) % (10 : Int32))), .val (.int (own_ch p3)), .unset, .unset, .unset, .unset] [(.ref b31), (.ref b31)]))
      refine Gl.pre (fun _ k => XS.bipush X39.here hx rfl (hb hby at_212) k) ?_
      refine Gl.pre (fun _ k => XS.bipush X39.here hx rfl (hb hby at_214) k) ?_
      obtain ⟨T40, h40, X40, e40, W40, V40, st40⟩ := own_stC X39 hx hZ3 e39 V_b31 (j := (8 : Int32)) (i := 8) (by decide) (by decide) (Nat.lt_of_lt_of_eq (by decide : 8 < 10) rfl) (g := (mkF m 216 #[.val (.int p1), .val (.int p2), .val (.int p3), .val (.long q4), .second, .val (.int (own_pi (¬ ((p1 &&& (1 : Int32)) = (0 : Int32))))), .val (.int (own_pi (¬ ((p1 &&& (2 : Int32)) = (0 : Int32))))), .val (.int ((own_ushr p1 (2 : Int32)) &&& (3 : Int32))), .val (.ref a3), .val (.int ((p2 &&& (2147483647 : Int32)) % (10 : Int32))), .val (.int (own_ch p3)), .unset, .unset, .unset, .unset] [(.int (78 : Int32)), (.int (8 : Int32)), (.ref b31), (.ref b31)])) rfl rfl (hb hby at_216)
      refine Gl.pre (fun _ k => st40 _ k) ?_
      have CR40 := CR39.trans (CHr.wr W40 Sf_b31 CR39.1)
      have Sf_b31 := Safe.wr W40 Sf_b31 CR39.1 Sf_b31
      have O_ := O_.wr W40 g_b31
      have Va3 := Va3.other W40 (own_ne_b3_b31)
      have Es3 := Es3.wr W40
      have Fc3 := Fc3.other W40 (Or.inl (own_ne_a3_b31))
      have Fv3 := Fv3.other W40 (Or.inl (own_ne_a3_b31))
      have V_b3 := V_b3.other W40 (own_ne_b3_b31)
      have Z40 : n0 ≤ h40.size := by rw [W40.size]; exact Z39
      have hk40 := Nat.le_trans hk39 (Nat.le_of_eq W40.size.symm)
      have N40 := Fr.snoc X40 N39 g_b31
      have V_b31 : Bal Z h40 b31 .char [(nar .char (65 : Int32)), (nar .char (70 : Int32)), (nar .char (84 : Int32)), (nar .char (69 : Int32)), (nar .char (82 : Int32)), (nar .char (95 : Int32)), (nar .char (83 : Int32)), (nar .char (89 : Int32)), (nar .char (78 : Int32)), (0 : Int32)] := V40
      show Gl p.tables e below PP (T40.setTop (mkF m 217 #[.val (.int p1), .val (.int p2), .val (.int p3), .val (.long q4), .second, .val (.int (own_pi (¬ ((p1 &&& (1 : Int32)) = (0 : Int32))))), .val (.int (own_pi (¬ ((p1 &&& (2 : Int32)) = (0 : Int32))))), .val (.int ((own_ushr p1 (2 : Int32)) &&& (3 : Int32))), .val (.ref a3), .val (.int ((p2 &&& (2147483647 : Int32)) % (10 : Int32))), .val (.int (own_ch p3)), .unset, .unset, .unset, .unset] [(.ref b31)]))
      refine Gl.pre (fun _ k => XS.dup X40.here hx rfl (hb hby at_217) rfl rfl k) ?_
      refine Gl.pre (fun _ k => XS.bipush X40.here hx rfl (hb hby at_218) k) ?_
      refine Gl.pre (fun _ k => XS.bipush X40.here hx rfl (hb hby at_220) k) ?_
      show Gl p.tables e below PP (T40.setTop (mkF m 222 #[.val (.int p1), .val (.int p2), .val (.int p3), .val (.long q4), .second, .val (.int (own_pi (¬ ((p1 &&& (1 : Int32)) = (0 : Int32))))), .val (.int (own_pi (¬ ((p1 &&& (2 : Int32)) = (0 : Int32))))), .val (.int ((own_ushr p1 (2 : Int32)) &&& (3 : Int32))), .val (.ref a3), .val (.int ((p2 &&& (2147483647 : Int32)) % (10 : Int32))), .val (.int (own_ch p3)), .unset, .unset, .unset, .unset] [(.int (67 : Int32)), (.int (9 : Int32)), (.ref b31), (.ref b31)]))
      obtain ⟨T41, h41, X41, e41, W41, V41, st41⟩ := own_stC X40 hx hZ3 e40 V_b31 (j := (9 : Int32)) (i := 9) (by decide) (by decide) (Nat.lt_of_lt_of_eq (by decide : 9 < 10) rfl) (g := (mkF m 222 #[.val (.int p1), .val (.int p2), .val (.int p3), .val (.long q4), .second, .val (.int (own_pi (¬ ((p1 &&& (1 : Int32)) = (0 : Int32))))), .val (.int (own_pi (¬ ((p1 &&& (2 : Int32)) = (0 : Int32))))), .val (.int ((own_ushr p1 (2 : Int32)) &&& (3 : Int32))), .val (.ref a3), .val (.int ((p2 &&& (2147483647 : Int32)) % (10 : Int32))), .val (.int (own_ch p3)), .unset, .unset, .unset, .unset] [(.int (67 : Int32)), (.int (9 : Int32)), (.ref b31), (.ref b31)])) rfl rfl (hb hby at_222)
      refine Gl.pre (fun _ k => st41 _ k) ?_
      have CR41 := CR40.trans (CHr.wr W41 Sf_b31 CR40.1)
      have Sf_b31 := Safe.wr W41 Sf_b31 CR40.1 Sf_b31
      have O_ := O_.wr W41 g_b31
      have Va3 := Va3.other W41 (own_ne_b3_b31)
      have Es3 := Es3.wr W41
      have Fc3 := Fc3.other W41 (Or.inl (own_ne_a3_b31))
      have Fv3 := Fv3.other W41 (Or.inl (own_ne_a3_b31))
      have V_b3 := V_b3.other W41 (own_ne_b3_b31)
      have Z41 : n0 ≤ h41.size := by rw [W41.size]; exact Z40
      have hk41 := Nat.le_trans hk40 (Nat.le_of_eq W41.size.symm)
      have N41 := Fr.snoc X41 N40 g_b31
      have V_b31 : Bal Z h41 b31 .char [(nar .char (65 : Int32)), (nar .char (70 : Int32)), (nar .char (84 : Int32)), (nar .char (69 : Int32)), (nar .char (82 : Int32)), (nar .char (95 : Int32)), (nar .char (83 : Int32)), (nar .char (89 : Int32)), (nar .char (78 : Int32)), (nar .char (67 : Int32))] := V41
      refine Gl.pre (fun _ k => XS.astore X41.here hx rfl (hb hby at_223) rfl rfl (l' := #[.val (.int p1), .val (.int p2), .val (.int p3), .val (.long q4), .second, .val (.int (own_pi (¬ ((p1 &&& (1 : Int32)) = (0 : Int32))))), .val (.int (own_pi (¬ ((p1 &&& (2 : Int32)) = (0 : Int32))))), .val (.int ((own_ushr p1 (2 : Int32)) &&& (3 : Int32))), .val (.ref a3), .val (.int ((p2 &&& (2147483647 : Int32)) % (10 : Int32))), .val (.int (own_ch p3)), .unset, .unset, .val (.ref b31), .unset]) rfl k) ?_
      obtain ⟨T42, h42, X42, e42, E42, A42, D42, -, st42⟩ := newO X41 hx hZ3 hown3 (hw _ (List.mem_of_getElem? (i := 10) rfl)) (hw _ (List.mem_of_getElem? (i := 2) rfl)) (hw _ (List.mem_of_getElem? (i := 1) rfl)) e41 (g := (mkF m 225 #[.val (.int p1), .val (.int p2), .val (.int p3), .val (.long q4), .second, .val (.int (own_pi (¬ ((p1 &&& (1 : Int32)) = (0 : Int32))))), .val (.int (own_pi (¬ ((p1 &&& (2 : Int32)) = (0 : Int32))))), .val (.int ((own_ushr p1 (2 : Int32)) &&& (3 : Int32))), .val (.ref a3), .val (.int ((p2 &&& (2147483647 : Int32)) % (10 : Int32))), .val (.int (own_ch p3)), .unset, .unset, .val (.ref b31), .unset] [])) rfl (hb hby at_225) (by decide) (by decide)
      obtain ⟨b42, g42⟩ : ∃ z, z = h41.size := ⟨_, rfl⟩
      rw [← g42] at A42 D42 st42
      refine Gl.pre (fun _ k => st42 _ k) ?_
      have own_ne_b3_b42 : b3 ≠ b42 := by have q := Va3.lt; rw [g42]; exact Nat.ne_of_lt q
      have own_ne_b42_b3 : b42 ≠ b3 := own_ne_b3_b42.symm
      have own_ne_a3_b42 : a3 ≠ b42 := by have q := Es3.lt; rw [g42]; exact Nat.ne_of_lt q
      have own_ne_b42_a3 : b42 ≠ a3 := own_ne_a3_b42.symm
      have own_ne_b31_b42 : b31 ≠ b42 := by have q := V_b31.lt; rw [g42]; exact Nat.ne_of_lt q
      have own_ne_b42_b31 : b42 ≠ b31 := own_ne_b31_b42.symm
      have g_b42 : n0 ≤ b42 := Nat.le_trans Z41 (Nat.le_of_eq g42.symm)
      have Sf_b42 := Safe.ext E42 CR41.1 (Safe.new (Z := Z) (EL := own_EL) (vm := T3.vm) (Nat.le_of_eq g42.symm))
      have Sf_b31 := Safe.ext E42 CR41.1 Sf_b31
      have CR42 := CR41.trans (CHr.ext E42 CR41.1)
      have O_ := O_.ext E42
      have Va3 := Va3.ext E42
      have Es3 := Es3.ext E42
      have Fc3 := Fc3.ext E42
      have Fv3 := Fv3.ext E42
      have V_b3 := V_b3.ext E42
      have V_b31 := V_b31.ext E42
      have Z42 : n0 ≤ h42.size := Nat.le_trans Z41 E42.1
      have hk42 := Nat.le_trans hk41 E42.1
      have E_b42 := A42
      have F_value_b42 : Fld Z h42 b42 "java/lang/String" "value" "[B" .null := D42 (Or.inr (hw _ (List.mem_of_getElem? (i := 4) rfl))) (ty := (.array .byte)) (by decide)
      have F_coder_b42 : Fld Z h42 b42 "java/lang/String" "coder" "B" (.int (0 : Int32)) := D42 (Or.inr (hw _ (List.mem_of_getElem? (i := 5) rfl))) (ty := .byte) (by decide)
      show Gl p.tables e below PP (T42.setTop (mkF m 228 #[.val (.int p1), .val (.int p2), .val (.int p3), .val (.long q4), .second, .val (.int (own_pi (¬ ((p1 &&& (1 : Int32)) = (0 : Int32))))), .val (.int (own_pi (¬ ((p1 &&& (2 : Int32)) = (0 : Int32))))), .val (.int ((own_ushr p1 (2 : Int32)) &&& (3 : Int32))), .val (.ref a3), .val (.int ((p2 &&& (2147483647 : Int32)) % (10 : Int32))), .val (.int (own_ch p3)), .unset, .unset, .val (.ref b31), .unset] [(.ref b42)]))
      refine Gl.pre (fun _ k => XS.dup X42.here hx rfl (hb hby at_228) rfl rfl k) ?_
      refine Gl.pre (fun _ k => XS.aload X42.here hx rfl (hb hby at_229) rfl rfl k) ?_
      obtain ⟨kc43, KC43⟩ := own_arvC V_b31 (by intro x hx; simp only [List.mem_cons, List.not_mem_nil, or_false] at hx; rcases hx with rfl | rfl | rfl | rfl | rfl | rfl | rfl | rfl | rfl | rfl <;> exact fits_nar_char _) (by simp only [List.length_set, List.length_cons, List.length_nil]; decide)
      have hp43 : ∀ c ∈ [(nar .char (65 : Int32)), (nar .char (70 : Int32)), (nar .char (84 : Int32)), (nar .char (69 : Int32)), (nar .char (82 : Int32)), (nar .char (95 : Int32)), (nar .char (83 : Int32)), (nar .char (89 : Int32)), (nar .char (78 : Int32)), (nar .char (67 : Int32))], ¬ c < 0 ∧ ¬ (255 : Int32) < c := (by intro x hx; simp only [List.mem_cons, List.not_mem_nil, or_false] at hx; rcases hx with rfl | rfl | rfl | rfl | rfl | rfl | rfl | rfl | rfl | rfl <;> first | decide | exact own_ch255 _)
      obtain ⟨_, _, ⟨T44, L44, k44, n44⟩, -, X44, ⟨Lc44, hQ44, l44, y44, z44⟩, st44⟩ := X42.specialBack hx (y := (⟨"java/lang/String", "<init>", "([C)V"⟩ : MethodName)) rfl hown3 (mvT hZ3 (hw _ (List.mem_of_getElem? (i := 11) rfl))) (mvT hZ3 (hw _ (List.mem_of_getElem? (i := 12) rfl))) (mvT hZ3 (hw _ (List.mem_of_getElem? (i := 13) rfl))) (by decide) (StrChars.Road.backV (W := 1) hZ3 hws (kI := 4) (hw _ (List.mem_of_getElem? (i := 2) rfl)) (cs := [(nar .char (65 : Int32)), (nar .char (70 : Int32)), (nar .char (84 : Int32)), (nar .char (69 : Int32)), (nar .char (82 : Int32)), (nar .char (95 : Int32)), (nar .char (83 : Int32)), (nar .char (89 : Int32)), (nar .char (78 : Int32)), (nar .char (67 : Int32))]) (n := 10) g_b42 Z42 E_b42 F_value_b42 F_coder_b42 KC43 (SBC.ext O_.2) hcs (by first | rfl | simp) (by first | rfl | simp) (by decide) (by decide) hp43 rfl (by decide) (by decide)) (g := (mkF m 231 #[.val (.int p1), .val (.int p2), .val (.int p3), .val (.long q4), .second, .val (.int (own_pi (¬ ((p1 &&& (1 : Int32)) = (0 : Int32))))), .val (.int (own_pi (¬ ((p1 &&& (2 : Int32)) = (0 : Int32))))), .val (.int ((own_ushr p1 (2 : Int32)) &&& (3 : Int32))), .val (.ref a3), .val (.int ((p2 &&& (2147483647 : Int32)) % (10 : Int32))), .val (.int (own_ch p3)), .unset, .unset, .val (.ref b31), .unset] [(.ref b31), (.ref b42), (.ref b42)])) rfl (by rw [hml]; rfl) (Steps.refl _) (a := b42) (argsL := [(.ref b31)]) (rest := [(.ref b42)]) (lenOf pd_2 rfl) rfl (by show 2 * 0 + _ ≤ _; exact Nat.le_of_eq rfl) (hb hby at_231) (fun _ _ => ⟨rfl, e42, (by decide : 4 + 1 ≤ _), (by decide : 58 + 10 ≤ _)⟩)
      dsimp only [Pt.U, Pt.locs, Pt.cells, Pt.slots] at X44 l44 y44 z44 st44 hQ44
      subst l44 y44 z44
      obtain ⟨rfl, N44q, K44, Ex44, Fc44, tv44, kt44, -, hz44, hnx44, Fv44, Kt44⟩ := hQ44
      have N44 := Fr.app N41 N44q
      refine Gl.pre (fun _ k => st44.trans k) ?_
      have own_ne_a3_tv44 : a3 ≠ tv44 := Nat.ne_of_lt (Nat.lt_of_lt_of_le Es3.lt hz44)
      have own_ne_tv44_a3 := own_ne_a3_tv44.symm
      have own_ne_b3_tv44 : b3 ≠ tv44 := Nat.ne_of_lt (Nat.lt_of_lt_of_le V_b3.lt hz44)
      have own_ne_tv44_b3 := own_ne_b3_tv44.symm
      have own_ne_b31_tv44 : b31 ≠ tv44 := Nat.ne_of_lt (Nat.lt_of_lt_of_le V_b31.lt hz44)
      have own_ne_tv44_b31 := own_ne_b31_tv44.symm
      have own_ne_b42_tv44 : b42 ≠ tv44 := Nat.ne_of_lt (Nat.lt_of_lt_of_le E_b42.lt hz44)
      have own_ne_tv44_b42 := own_ne_b42_tv44.symm
      have g_tv44 : n0 ≤ tv44 := Nat.le_trans Z42 hz44
      have Sf_tv440 := Safe.new (Z := Z) (EL := own_EL) (vm := T3.vm) hz44
      have hs44 : ∀ x ∈ [b42], Safe Z own_EL _ _ x := (allS Sf_b42 all0)
      have Sf_b31 := Safe.keep K44 hs44 CR42.1 Sf_b31
      have Sf_b42 := Safe.keep K44 hs44 CR42.1 Sf_b42
      have CR44 := CR42.trans (CHr.keep K44 hs44 CR42.1)
      have O_ := O_.keep K44 (allS g_b42 all0)
      have Va3 := Va3.keep K44 (ninS (own_ne_b3_b42) nin0)
      have Es3 := Es3.keep K44
      have Fc3 := Fc3.keep K44 (ninS (own_ne_a3_b42) nin0)
      have Fv3 := Fv3.keep K44 (ninS (own_ne_a3_b42) nin0)
      have V_b3 := V_b3.keep K44 (ninS (own_ne_b3_b42) nin0)
      have V_b31 := V_b31.keep K44 (ninS (own_ne_b31_b42) nin0)
      have E_b42 := E_b42.keep K44
      have hk44 := Nat.le_trans hk42 K44.1
      have Z44 : n0 ≤ T44.heap.size := Nat.le_trans Z42 K44.1
      have F_value_b42 := Fv44
      have F_coder_b42 := Fc44
      show Gl p.tables e below PP (T44.setTop (mkF m 234 #[.val (.int p1), .val (.int p2), .val (.int p3), .val (.long q4), .second, .val (.int (own_pi (¬ ((p1 &&& (1 : Int32)) = (0 : Int32))))), .val (.int (own_pi (¬ ((p1 &&& (2 : Int32)) = (0 : Int32))))), .val (.int ((own_ushr p1 (2 : Int32)) &&& (3 : Int32))), .val (.ref a3), .val (.int ((p2 &&& (2147483647 : Int32)) % (10 : Int32))), .val (.int (own_ch p3)), .unset, .unset, .val (.ref b31), .unset] [(.ref b42)]))
      refine Gl.pre (fun _ k => XS.astore X44.here hx rfl (hb hby at_234) rfl rfl (l' := #[.val (.int p1), .val (.int p2), .val (.int p3), .val (.long q4), .second, .val (.int (own_pi (¬ ((p1 &&& (1 : Int32)) = (0 : Int32))))), .val (.int (own_pi (¬ ((p1 &&& (2 : Int32)) = (0 : Int32))))), .val (.int ((own_ushr p1 (2 : Int32)) &&& (3 : Int32))), .val (.ref a3), .val (.int ((p2 &&& (2147483647 : Int32)) % (10 : Int32))), .val (.int (own_ch p3)), .val (.ref b42), .unset, .val (.ref b31), .unset]) rfl k) ?_
      refine Gl.pre (fun _ k => XS.iconst X44.here hx rfl (hb hby at_236) k) ?_
      refine Gl.pre (fun _ k => XS.istore X44.here hx rfl (hb hby at_237) rfl (l' := #[.val (.int p1), .val (.int p2), .val (.int p3), .val (.long q4), .second, .val (.int (own_pi (¬ ((p1 &&& (1 : Int32)) = (0 : Int32))))), .val (.int (own_pi (¬ ((p1 &&& (2 : Int32)) = (0 : Int32))))), .val (.int ((own_ushr p1 (2 : Int32)) &&& (3 : Int32))), .val (.ref a3), .val (.int ((p2 &&& (2147483647 : Int32)) % (10 : Int32))), .val (.int (own_ch p3)), .val (.ref b42), .val (.int (1 : Int32)), .val (.ref b31), .unset]) rfl k) ?_
      show Gl p.tables e below PP (T44.setTop (mkF m 239 #[.val (.int p1), .val (.int p2), .val (.int p3), .val (.long q4), .second, .val (.int (own_pi (¬ ((p1 &&& (1 : Int32)) = (0 : Int32))))), .val (.int (own_pi (¬ ((p1 &&& (2 : Int32)) = (0 : Int32))))), .val (.int ((own_ushr p1 (2 : Int32)) &&& (3 : Int32))), .val (.ref a3), .val (.int ((p2 &&& (2147483647 : Int32)) % (10 : Int32))), .val (.int (own_ch p3)), .val (.ref b42), .val (.int (1 : Int32)), .val (.ref b31), .unset] []))
      refine Gl.pre (fun _ k => XS.goto X44.here hx rfl (pc0 := 239) (pc' := 413) rfl (hb hby at_239) (by decide) (by decide) k) ?_
      refine Gl.pre (fun _ k => XS.iconst X44.here hx rfl (hb hby at_413) k) ?_
      refine Gl.pre (fun _ k => XS.istore X44.here hx rfl (hb hby at_414) rfl (l' := #[.val (.int p1), .val (.int p2), .val (.int p3), .val (.long q4), .second, .val (.int (own_pi (¬ ((p1 &&& (1 : Int32)) = (0 : Int32))))), .val (.int (own_pi (¬ ((p1 &&& (2 : Int32)) = (0 : Int32))))), .val (.int ((own_ushr p1 (2 : Int32)) &&& (3 : Int32))), .val (.ref a3), .val (.int ((p2 &&& (2147483647 : Int32)) % (10 : Int32))), .val (.int (own_ch p3)), .val (.ref b42), .val (.int (1 : Int32)), .val (.int (0 : Int32)), .unset]) rfl k) ?_
      show Gl p.tables e below PP (T44.setTop (mkF m 416 #[.val (.int p1), .val (.int p2), .val (.int p3), .val (.long q4), .second, .val (.int (own_pi (¬ ((p1 &&& (1 : Int32)) = (0 : Int32))))), .val (.int (own_pi (¬ ((p1 &&& (2 : Int32)) = (0 : Int32))))), .val (.int ((own_ushr p1 (2 : Int32)) &&& (3 : Int32))), .val (.ref a3), .val (.int ((p2 &&& (2147483647 : Int32)) % (10 : Int32))), .val (.int (own_ch p3)), .val (.ref b42), .val (.int (1 : Int32)), .val (.int (0 : Int32)), .unset] []))
      suffices J45 : ∀ e13 : Int32, e13 = own_pi (¬ ((p1 &&& (1 : Int32)) = (0 : Int32)) ∧ ¬ ((p1 &&& (2 : Int32)) = (0 : Int32)) ∧ (True) ∧ ¬ (q4 < (1 : Int64))) → Gl p.tables e below PP (T44.setTop (mkF m 444 #[.val (.int p1), .val (.int p2), .val (.int p3), .val (.long q4), .second, .val (.int (own_pi (¬ ((p1 &&& (1 : Int32)) = (0 : Int32))))), .val (.int (own_pi (¬ ((p1 &&& (2 : Int32)) = (0 : Int32))))), .val (.int ((own_ushr p1 (2 : Int32)) &&& (3 : Int32))), .val (.ref a3), .val (.int ((p2 &&& (2147483647 : Int32)) % (10 : Int32))), .val (.int (own_ch p3)), .val (.ref b42), .val (.int (1 : Int32)), .val (.int e13), .unset] [])) by
        refine Gl.pre (fun _ k => XS.iload X44.here hx rfl (hb hby at_416) rfl k) ?_
        by_cases hc46 : ¬ ((p1 &&& (1 : Int32)) = (0 : Int32))
        · refine Gl.pre (fun _ k => XS.ifNo X44.here hx rfl (hb hby at_418) rfl ((if0 _ _).trans (feq (fun q => (own_pi0 (P := ¬ ((p1 &&& (1 : Int32)) = (0 : Int32)))).mp q hc46)).1) k) ?_
          show Gl p.tables e below PP (T44.setTop (mkF m 421 #[.val (.int p1), .val (.int p2), .val (.int p3), .val (.long q4), .second, .val (.int (own_pi (¬ ((p1 &&& (1 : Int32)) = (0 : Int32))))), .val (.int (own_pi (¬ ((p1 &&& (2 : Int32)) = (0 : Int32))))), .val (.int ((own_ushr p1 (2 : Int32)) &&& (3 : Int32))), .val (.ref a3), .val (.int ((p2 &&& (2147483647 : Int32)) % (10 : Int32))), .val (.int (own_ch p3)), .val (.ref b42), .val (.int (1 : Int32)), .val (.int (0 : Int32)), .unset] []))
          refine Gl.pre (fun _ k => XS.iload X44.here hx rfl (hb hby at_421) rfl k) ?_
          by_cases hc47 : ¬ ((p1 &&& (2 : Int32)) = (0 : Int32))
          · refine Gl.pre (fun _ k => XS.ifNo X44.here hx rfl (hb hby at_423) rfl ((if0 _ _).trans (feq (fun q => (own_pi0 (P := ¬ ((p1 &&& (2 : Int32)) = (0 : Int32)))).mp q hc47)).1) k) ?_
            show Gl p.tables e below PP (T44.setTop (mkF m 426 #[.val (.int p1), .val (.int p2), .val (.int p3), .val (.long q4), .second, .val (.int (own_pi (¬ ((p1 &&& (1 : Int32)) = (0 : Int32))))), .val (.int (own_pi (¬ ((p1 &&& (2 : Int32)) = (0 : Int32))))), .val (.int ((own_ushr p1 (2 : Int32)) &&& (3 : Int32))), .val (.ref a3), .val (.int ((p2 &&& (2147483647 : Int32)) % (10 : Int32))), .val (.int (own_ch p3)), .val (.ref b42), .val (.int (1 : Int32)), .val (.int (0 : Int32)), .unset] []))
            refine Gl.pre (fun _ k => XS.iload X44.here hx rfl (hb hby at_426) rfl k) ?_
            show Gl p.tables e below PP (T44.setTop (mkF m 428 #[.val (.int p1), .val (.int p2), .val (.int p3), .val (.long q4), .second, .val (.int (own_pi (¬ ((p1 &&& (1 : Int32)) = (0 : Int32))))), .val (.int (own_pi (¬ ((p1 &&& (2 : Int32)) = (0 : Int32))))), .val (.int ((own_ushr p1 (2 : Int32)) &&& (3 : Int32))), .val (.ref a3), .val (.int ((p2 &&& (2147483647 : Int32)) % (10 : Int32))), .val (.int (own_ch p3)), .val (.ref b42), .val (.int (1 : Int32)), .val (.int (0 : Int32)), .unset] [(.int (1 : Int32))]))
            refine Gl.pre (fun _ k => XS.ifNo X44.here hx rfl (hb hby at_428) rfl ((if0 _ _).trans (feq (show ¬ ((1 : Int32) = (0 : Int32)) from (by decide))).1) k) ?_
            show Gl p.tables e below PP (T44.setTop (mkF m 431 #[.val (.int p1), .val (.int p2), .val (.int p3), .val (.long q4), .second, .val (.int (own_pi (¬ ((p1 &&& (1 : Int32)) = (0 : Int32))))), .val (.int (own_pi (¬ ((p1 &&& (2 : Int32)) = (0 : Int32))))), .val (.int ((own_ushr p1 (2 : Int32)) &&& (3 : Int32))), .val (.ref a3), .val (.int ((p2 &&& (2147483647 : Int32)) % (10 : Int32))), .val (.int (own_ch p3)), .val (.ref b42), .val (.int (1 : Int32)), .val (.int (0 : Int32)), .unset] []))
            refine Gl.pre (fun _ k => XS.lloadN X44.here hx rfl (hb hby at_431) rfl k) ?_
            refine Gl.pre (fun _ k => XS.lconst X44.here hx rfl (hb hby at_432) k) ?_
            refine Gl.pre (fun _ k => XS.lcmp X44.here hx rfl (hb hby at_433) rfl k) ?_
            show Gl p.tables e below PP (T44.setTop (mkF m 434 #[.val (.int p1), .val (.int p2), .val (.int p3), .val (.long q4), .second, .val (.int (own_pi (¬ ((p1 &&& (1 : Int32)) = (0 : Int32))))), .val (.int (own_pi (¬ ((p1 &&& (2 : Int32)) = (0 : Int32))))), .val (.int ((own_ushr p1 (2 : Int32)) &&& (3 : Int32))), .val (.ref a3), .val (.int ((p2 &&& (2147483647 : Int32)) % (10 : Int32))), .val (.int (own_ch p3)), .val (.ref b42), .val (.int (1 : Int32)), .val (.int (0 : Int32)), .unset] [(.int (lcmpW q4 (1 : Int64)))]))
            suffices J48 : Gl p.tables e below PP (T44.setTop (mkF m 442 #[.val (.int p1), .val (.int p2), .val (.int p3), .val (.long q4), .second, .val (.int (own_pi (¬ ((p1 &&& (1 : Int32)) = (0 : Int32))))), .val (.int (own_pi (¬ ((p1 &&& (2 : Int32)) = (0 : Int32))))), .val (.int ((own_ushr p1 (2 : Int32)) &&& (3 : Int32))), .val (.ref a3), .val (.int ((p2 &&& (2147483647 : Int32)) % (10 : Int32))), .val (.int (own_ch p3)), .val (.ref b42), .val (.int (1 : Int32)), .val (.int (0 : Int32)), .unset] [(.int (own_pi (¬ (q4 < (1 : Int64)))))])) by
              by_cases hd48 : q4 < (1 : Int64)
              · rw [own_pi_nt hd48] at J48
                refine Gl.pre (fun _ k => XS.ifYes X44.here hx rfl (pc0 := 434) (pc' := 441) rfl (hb hby at_434) rfl ((if0 _ _).trans (tlt ((lw_lt q4 (1 : Int64)).mpr hd48)).1) (by decide) (by decide) k) ?_
                show Gl p.tables e below PP (T44.setTop (mkF m 441 #[.val (.int p1), .val (.int p2), .val (.int p3), .val (.long q4), .second, .val (.int (own_pi (¬ ((p1 &&& (1 : Int32)) = (0 : Int32))))), .val (.int (own_pi (¬ ((p1 &&& (2 : Int32)) = (0 : Int32))))), .val (.int ((own_ushr p1 (2 : Int32)) &&& (3 : Int32))), .val (.ref a3), .val (.int ((p2 &&& (2147483647 : Int32)) % (10 : Int32))), .val (.int (own_ch p3)), .val (.ref b42), .val (.int (1 : Int32)), .val (.int (0 : Int32)), .unset] []))
                refine Gl.pre (fun _ k => XS.iconst X44.here hx rfl (hb hby at_441) k) ?_
                show Gl p.tables e below PP (T44.setTop (mkF m 442 #[.val (.int p1), .val (.int p2), .val (.int p3), .val (.long q4), .second, .val (.int (own_pi (¬ ((p1 &&& (1 : Int32)) = (0 : Int32))))), .val (.int (own_pi (¬ ((p1 &&& (2 : Int32)) = (0 : Int32))))), .val (.int ((own_ushr p1 (2 : Int32)) &&& (3 : Int32))), .val (.ref a3), .val (.int ((p2 &&& (2147483647 : Int32)) % (10 : Int32))), .val (.int (own_ch p3)), .val (.ref b42), .val (.int (1 : Int32)), .val (.int (0 : Int32)), .unset] [(.int (0 : Int32))]))
                exact J48
              · rw [own_pi_nf hd48] at J48
                refine Gl.pre (fun _ k => XS.ifNo X44.here hx rfl (hb hby at_434) rfl ((if0 _ _).trans (flt (mt (lw_lt q4 (1 : Int64)).mp hd48)).1) k) ?_
                show Gl p.tables e below PP (T44.setTop (mkF m 437 #[.val (.int p1), .val (.int p2), .val (.int p3), .val (.long q4), .second, .val (.int (own_pi (¬ ((p1 &&& (1 : Int32)) = (0 : Int32))))), .val (.int (own_pi (¬ ((p1 &&& (2 : Int32)) = (0 : Int32))))), .val (.int ((own_ushr p1 (2 : Int32)) &&& (3 : Int32))), .val (.ref a3), .val (.int ((p2 &&& (2147483647 : Int32)) % (10 : Int32))), .val (.int (own_ch p3)), .val (.ref b42), .val (.int (1 : Int32)), .val (.int (0 : Int32)), .unset] []))
                refine Gl.pre (fun _ k => XS.iconst X44.here hx rfl (hb hby at_437) k) ?_
                show Gl p.tables e below PP (T44.setTop (mkF m 438 #[.val (.int p1), .val (.int p2), .val (.int p3), .val (.long q4), .second, .val (.int (own_pi (¬ ((p1 &&& (1 : Int32)) = (0 : Int32))))), .val (.int (own_pi (¬ ((p1 &&& (2 : Int32)) = (0 : Int32))))), .val (.int ((own_ushr p1 (2 : Int32)) &&& (3 : Int32))), .val (.ref a3), .val (.int ((p2 &&& (2147483647 : Int32)) % (10 : Int32))), .val (.int (own_ch p3)), .val (.ref b42), .val (.int (1 : Int32)), .val (.int (0 : Int32)), .unset] [(.int (1 : Int32))]))
                refine Gl.pre (fun _ k => XS.goto X44.here hx rfl (pc0 := 438) (pc' := 442) rfl (hb hby at_438) (by decide) (by decide) k) ?_
                show Gl p.tables e below PP (T44.setTop (mkF m 442 #[.val (.int p1), .val (.int p2), .val (.int p3), .val (.long q4), .second, .val (.int (own_pi (¬ ((p1 &&& (1 : Int32)) = (0 : Int32))))), .val (.int (own_pi (¬ ((p1 &&& (2 : Int32)) = (0 : Int32))))), .val (.int ((own_ushr p1 (2 : Int32)) &&& (3 : Int32))), .val (.ref a3), .val (.int ((p2 &&& (2147483647 : Int32)) % (10 : Int32))), .val (.int (own_ch p3)), .val (.ref b42), .val (.int (1 : Int32)), .val (.int (0 : Int32)), .unset] [(.int (1 : Int32))]))
                exact J48
            show Gl p.tables e below PP (T44.setTop (mkF m 442 #[.val (.int p1), .val (.int p2), .val (.int p3), .val (.long q4), .second, .val (.int (own_pi (¬ ((p1 &&& (1 : Int32)) = (0 : Int32))))), .val (.int (own_pi (¬ ((p1 &&& (2 : Int32)) = (0 : Int32))))), .val (.int ((own_ushr p1 (2 : Int32)) &&& (3 : Int32))), .val (.ref a3), .val (.int ((p2 &&& (2147483647 : Int32)) % (10 : Int32))), .val (.int (own_ch p3)), .val (.ref b42), .val (.int (1 : Int32)), .val (.int (0 : Int32)), .unset] [(.int (own_pi (¬ (q4 < (1 : Int64)))))]))
            refine Gl.pre (fun _ k => XS.istore X44.here hx rfl (hb hby at_442) rfl (l' := #[.val (.int p1), .val (.int p2), .val (.int p3), .val (.long q4), .second, .val (.int (own_pi (¬ ((p1 &&& (1 : Int32)) = (0 : Int32))))), .val (.int (own_pi (¬ ((p1 &&& (2 : Int32)) = (0 : Int32))))), .val (.int ((own_ushr p1 (2 : Int32)) &&& (3 : Int32))), .val (.ref a3), .val (.int ((p2 &&& (2147483647 : Int32)) % (10 : Int32))), .val (.int (own_ch p3)), .val (.ref b42), .val (.int (1 : Int32)), .val (.int (own_pi (¬ (q4 < (1 : Int64))))), .unset]) rfl k) ?_
            exact J45 _ (own_pi_eq ⟨fun z => ⟨hc46, hc47, trivial, z⟩, fun z => z.2.2.2⟩)
          · refine Gl.pre (fun _ k => XS.ifYes X44.here hx rfl (pc0 := 423) (pc' := 444) rfl (hb hby at_423) rfl ((if0 _ _).trans (teq ((own_pi0 (P := ¬ ((p1 &&& (2 : Int32)) = (0 : Int32)))).mpr hc47)).1) (by decide) (by decide) k) ?_
            show Gl p.tables e below PP (T44.setTop (mkF m 444 #[.val (.int p1), .val (.int p2), .val (.int p3), .val (.long q4), .second, .val (.int (own_pi (¬ ((p1 &&& (1 : Int32)) = (0 : Int32))))), .val (.int (own_pi (¬ ((p1 &&& (2 : Int32)) = (0 : Int32))))), .val (.int ((own_ushr p1 (2 : Int32)) &&& (3 : Int32))), .val (.ref a3), .val (.int ((p2 &&& (2147483647 : Int32)) % (10 : Int32))), .val (.int (own_ch p3)), .val (.ref b42), .val (.int (1 : Int32)), .val (.int (0 : Int32)), .unset] []))
            exact J45 _ ((own_pi_f (fun q => hc47 q.2.1)).symm)
        · refine Gl.pre (fun _ k => XS.ifYes X44.here hx rfl (pc0 := 418) (pc' := 444) rfl (hb hby at_418) rfl ((if0 _ _).trans (teq ((own_pi0 (P := ¬ ((p1 &&& (1 : Int32)) = (0 : Int32)))).mpr hc46)).1) (by decide) (by decide) k) ?_
          show Gl p.tables e below PP (T44.setTop (mkF m 444 #[.val (.int p1), .val (.int p2), .val (.int p3), .val (.long q4), .second, .val (.int (own_pi (¬ ((p1 &&& (1 : Int32)) = (0 : Int32))))), .val (.int (own_pi (¬ ((p1 &&& (2 : Int32)) = (0 : Int32))))), .val (.int ((own_ushr p1 (2 : Int32)) &&& (3 : Int32))), .val (.ref a3), .val (.int ((p2 &&& (2147483647 : Int32)) % (10 : Int32))), .val (.int (own_ch p3)), .val (.ref b42), .val (.int (1 : Int32)), .val (.int (0 : Int32)), .unset] []))
          exact J45 _ ((own_pi_f (fun q => hc46 q.1)).symm)
      intro e13 he13
      show Gl p.tables e below PP (T44.setTop (mkF m 444 #[.val (.int p1), .val (.int p2), .val (.int p3), .val (.long q4), .second, .val (.int (own_pi (¬ ((p1 &&& (1 : Int32)) = (0 : Int32))))), .val (.int (own_pi (¬ ((p1 &&& (2 : Int32)) = (0 : Int32))))), .val (.int ((own_ushr p1 (2 : Int32)) &&& (3 : Int32))), .val (.ref a3), .val (.int ((p2 &&& (2147483647 : Int32)) % (10 : Int32))), .val (.int (own_ch p3)), .val (.ref b42), .val (.int (1 : Int32)), .val (.int e13), .unset] []))
      obtain ⟨T49, h49, X49, e49, E49, A49, D49, -, st49⟩ := newO X44 hx hZ3 hown3 (hw _ (List.mem_of_getElem? (i := 56) rfl)) (hw _ (List.mem_of_getElem? (i := 57) rfl)) (hw _ (List.mem_of_getElem? (i := 58) rfl)) rfl (g := (mkF m 444 #[.val (.int p1), .val (.int p2), .val (.int p3), .val (.long q4), .second, .val (.int (own_pi (¬ ((p1 &&& (1 : Int32)) = (0 : Int32))))), .val (.int (own_pi (¬ ((p1 &&& (2 : Int32)) = (0 : Int32))))), .val (.int ((own_ushr p1 (2 : Int32)) &&& (3 : Int32))), .val (.ref a3), .val (.int ((p2 &&& (2147483647 : Int32)) % (10 : Int32))), .val (.int (own_ch p3)), .val (.ref b42), .val (.int (1 : Int32)), .val (.int e13), .unset] [])) rfl (hb hby at_444) (by decide) (by decide)
      obtain ⟨b49, g49⟩ : ∃ z, z = T44.heap.size := ⟨_, rfl⟩
      rw [← g49] at A49 D49 st49
      refine Gl.pre (fun _ k => st49 _ k) ?_
      have own_ne_b3_b49 : b3 ≠ b49 := by have q := Va3.lt; rw [g49]; exact Nat.ne_of_lt q
      have own_ne_b49_b3 : b49 ≠ b3 := own_ne_b3_b49.symm
      have own_ne_a3_b49 : a3 ≠ b49 := by have q := Es3.lt; rw [g49]; exact Nat.ne_of_lt q
      have own_ne_b49_a3 : b49 ≠ a3 := own_ne_a3_b49.symm
      have own_ne_b31_b49 : b31 ≠ b49 := by have q := V_b31.lt; rw [g49]; exact Nat.ne_of_lt q
      have own_ne_b49_b31 : b49 ≠ b31 := own_ne_b31_b49.symm
      have own_ne_b42_b49 : b42 ≠ b49 := by have q := E_b42.lt; rw [g49]; exact Nat.ne_of_lt q
      have own_ne_b49_b42 : b49 ≠ b42 := own_ne_b42_b49.symm
      have own_ne_tv44_b49 : tv44 ≠ b49 := by have q := Kt44.lt; rw [g49]; exact Nat.ne_of_lt q
      have own_ne_b49_tv44 : b49 ≠ tv44 := own_ne_tv44_b49.symm
      have g_b49 : n0 ≤ b49 := Nat.le_trans Z44 (Nat.le_of_eq g49.symm)
      have Sf_b49 := Safe.ext E49 CR44.1 (Safe.new (Z := Z) (EL := own_EL) (vm := T3.vm) (Nat.le_of_eq g49.symm))
      have Sf_b31 := Safe.ext E49 CR44.1 Sf_b31
      have Sf_b42 := Safe.ext E49 CR44.1 Sf_b42
      have CR49 := CR44.trans (CHr.ext E49 CR44.1)
      have O_ := O_.ext E49
      have Va3 := Va3.ext E49
      have Es3 := Es3.ext E49
      have Fc3 := Fc3.ext E49
      have Fv3 := Fv3.ext E49
      have V_b3 := V_b3.ext E49
      have V_b31 := V_b31.ext E49
      have E_b42 := E_b42.ext E49
      have F_value_b42 := F_value_b42.ext E49
      have F_coder_b42 := F_coder_b42.ext E49
      have Kt44 := Kt44.ext E49
      have Z49 : n0 ≤ h49.size := Nat.le_trans Z44 E49.1
      have hk49 := Nat.le_trans hk44 E49.1
      have E_b49 := A49
      have F_enabled_b49 : Fld Z h49 b49 "com/example/anchorwatch/anchorwatch/model/SemiSync" "enabled" "Z" (.int (0 : Int32)) := D49 (Or.inr (hw _ (List.mem_of_getElem? (i := 69) rfl))) (ty := .boolean) (by decide)
      have F_waitPoint_b49 : Fld Z h49 b49 "com/example/anchorwatch/anchorwatch/model/SemiSync" "waitPoint" "Ljava/lang/String;" .null := D49 (Or.inr (hw _ (List.mem_of_getElem? (i := 71) rfl))) (ty := (.object "java/lang/String")) (by decide)
      have F_active_b49 : Fld Z h49 b49 "com/example/anchorwatch/anchorwatch/model/SemiSync" "active" "Z" (.int (0 : Int32)) := D49 (Or.inr (hw _ (List.mem_of_getElem? (i := 73) rfl))) (ty := .boolean) (by decide)
      have F_clients_b49 : Fld Z h49 b49 "com/example/anchorwatch/anchorwatch/model/SemiSync" "clients" "J" (.long (0 : Int64)) := D49 (Or.inr (hw _ (List.mem_of_getElem? (i := 75) rfl))) (ty := .long) (by decide)
      refine Gl.pre (fun _ k => XS.dup X49.here hx rfl (hb hby at_447) rfl rfl k) ?_
      show Gl p.tables e below PP (T49.setTop (mkF m 448 #[.val (.int p1), .val (.int p2), .val (.int p3), .val (.long q4), .second, .val (.int (own_pi (¬ ((p1 &&& (1 : Int32)) = (0 : Int32))))), .val (.int (own_pi (¬ ((p1 &&& (2 : Int32)) = (0 : Int32))))), .val (.int ((own_ushr p1 (2 : Int32)) &&& (3 : Int32))), .val (.ref a3), .val (.int ((p2 &&& (2147483647 : Int32)) % (10 : Int32))), .val (.int (own_ch p3)), .val (.ref b42), .val (.int (1 : Int32)), .val (.int e13), .unset] [(.ref b49), (.ref b49)]))
      refine Gl.pre (fun _ k => XS.iload X49.here hx rfl (hb hby at_448) rfl k) ?_
      refine Gl.pre (fun _ k => XS.aload X49.here hx rfl (hb hby at_450) rfl rfl k) ?_
      refine Gl.pre (fun _ k => XS.iload X49.here hx rfl (hb hby at_452) rfl k) ?_
      show Gl p.tables e below PP (T49.setTop (mkF m 454 #[.val (.int p1), .val (.int p2), .val (.int p3), .val (.long q4), .second, .val (.int (own_pi (¬ ((p1 &&& (1 : Int32)) = (0 : Int32))))), .val (.int (own_pi (¬ ((p1 &&& (2 : Int32)) = (0 : Int32))))), .val (.int ((own_ushr p1 (2 : Int32)) &&& (3 : Int32))), .val (.ref a3), .val (.int ((p2 &&& (2147483647 : Int32)) % (10 : Int32))), .val (.int (own_ch p3)), .val (.ref b42), .val (.int (1 : Int32)), .val (.int e13), .unset] [(.int (own_pi (¬ ((p1 &&& (2 : Int32)) = (0 : Int32))))), (.ref b42), (.int (own_pi (¬ ((p1 &&& (1 : Int32)) = (0 : Int32))))), (.ref b49), (.ref b49)]))
      refine Gl.pre (fun _ k => XS.lloadN X49.here hx rfl (hb hby at_454) rfl k) ?_
      obtain ⟨_, _, ⟨T50, L50, k50, n50⟩, -, X50, ⟨Lc50, hQ50, l50, y50, z50⟩, st50⟩ := X49.specialBack hx (y := (⟨"com/example/anchorwatch/anchorwatch/model/SemiSync", "<init>", "(ZLjava/lang/String;ZJ)V"⟩ : MethodName)) rfl hown3 (mvT hZ3 (hw _ (List.mem_of_getElem? (i := 59) rfl))) (mvT hZ3 (hw _ (List.mem_of_getElem? (i := 60) rfl))) (mvT hZ3 (hw _ (List.mem_of_getElem? (i := 61) rfl))) (by decide) (backOf (W := 1) (rmssS l Z a0 hw [] b49 (own_pi (¬ ((p1 &&& (1 : Int32)) = (0 : Int32)))) b42 (own_pi (¬ ((p1 &&& (2 : Int32)) = (0 : Int32)))) q4 h49 n0 Z49 E_b49 F_enabled_b49 F_waitPoint_b49 F_active_b49 F_clients_b49 g_b49 (own_pi01 _) (own_pi01 _)) hZ3 (hw _ (List.mem_of_getElem? (i := 61) rfl)) (hw _ (List.mem_of_getElem? (i := 58) rfl)) (by decide) (by decide)) (g := (mkF m 455 #[.val (.int p1), .val (.int p2), .val (.int p3), .val (.long q4), .second, .val (.int (own_pi (¬ ((p1 &&& (1 : Int32)) = (0 : Int32))))), .val (.int (own_pi (¬ ((p1 &&& (2 : Int32)) = (0 : Int32))))), .val (.int ((own_ushr p1 (2 : Int32)) &&& (3 : Int32))), .val (.ref a3), .val (.int ((p2 &&& (2147483647 : Int32)) % (10 : Int32))), .val (.int (own_ch p3)), .val (.ref b42), .val (.int (1 : Int32)), .val (.int e13), .unset] [(.long q4), (.int (own_pi (¬ ((p1 &&& (2 : Int32)) = (0 : Int32))))), (.ref b42), (.int (own_pi (¬ ((p1 &&& (1 : Int32)) = (0 : Int32))))), (.ref b49), (.ref b49)])) rfl (by rw [hml]; rfl) (Steps.refl _) (a := b49) (argsL := [(.int (own_pi (¬ ((p1 &&& (1 : Int32)) = (0 : Int32))))), (.ref b42), (.int (own_pi (¬ ((p1 &&& (2 : Int32)) = (0 : Int32))))), (.long q4)]) (rest := [(.ref b49)]) (lenOf pd_4 rfl) rfl (by show 2 * 0 + _ ≤ _; exact Nat.le_of_eq rfl) (hb hby at_455) (fun _ _ => ⟨rfl, e49, (by decide : 6 + 0 ≤ _), (by decide : 72 + 0 ≤ _)⟩)
      dsimp only [Pt.U, Pt.locs, Pt.cells, Pt.slots] at X50 l50 y50 z50 st50 hQ50
      subst l50 y50 z50
      obtain ⟨rfl, N50q, K50, Fenabled50, FwaitPoint50, Factive50, Fclients50⟩ := hQ50
      have N50 := Fr.app N44 N50q
      refine Gl.pre (fun _ k => st50.trans k) ?_
      have hs50 : ∀ x ∈ [b49], Safe Z own_EL _ _ x := (allS Sf_b49 all0)
      have Sf_b31 := Safe.keep K50 hs50 CR49.1 Sf_b31
      have Sf_b42 := Safe.keep K50 hs50 CR49.1 Sf_b42
      have Sf_b49 := Safe.keep K50 hs50 CR49.1 Sf_b49
      have CR50 := CR49.trans (CHr.keep K50 hs50 CR49.1)
      have O_ := O_.keep K50 (allS g_b49 all0)
      have Va3 := Va3.keep K50 (ninS (own_ne_b3_b49) nin0)
      have Es3 := Es3.keep K50
      have Fc3 := Fc3.keep K50 (ninS (own_ne_a3_b49) nin0)
      have Fv3 := Fv3.keep K50 (ninS (own_ne_a3_b49) nin0)
      have V_b3 := V_b3.keep K50 (ninS (own_ne_b3_b49) nin0)
      have V_b31 := V_b31.keep K50 (ninS (own_ne_b31_b49) nin0)
      have E_b42 := E_b42.keep K50
      have F_value_b42 := F_value_b42.keep K50 (ninS (own_ne_b42_b49) nin0)
      have F_coder_b42 := F_coder_b42.keep K50 (ninS (own_ne_b42_b49) nin0)
      have Kt44 := Kt44.keep K50 (ninS (own_ne_tv44_b49) nin0)
      have E_b49 := E_b49.keep K50
      have hk50 := Nat.le_trans hk49 K50.1
      have Z50 : n0 ≤ T50.heap.size := Nat.le_trans Z49 K50.1
      have F_enabled_b49 := Fenabled50
      have F_waitPoint_b49 := FwaitPoint50
      have F_active_b49 := Factive50
      have F_clients_b49 := Fclients50
      refine Gl.pre (fun _ k => XS.astore X50.here hx rfl (hb hby at_458) rfl rfl (l' := #[.val (.int p1), .val (.int p2), .val (.int p3), .val (.long q4), .second, .val (.int (own_pi (¬ ((p1 &&& (1 : Int32)) = (0 : Int32))))), .val (.int (own_pi (¬ ((p1 &&& (2 : Int32)) = (0 : Int32))))), .val (.int ((own_ushr p1 (2 : Int32)) &&& (3 : Int32))), .val (.ref a3), .val (.int ((p2 &&& (2147483647 : Int32)) % (10 : Int32))), .val (.int (own_ch p3)), .val (.ref b42), .val (.int (1 : Int32)), .val (.int e13), .val (.ref b49)]) rfl k) ?_
      show Gl p.tables e below PP (T50.setTop (mkF m 460 #[.val (.int p1), .val (.int p2), .val (.int p3), .val (.long q4), .second, .val (.int (own_pi (¬ ((p1 &&& (1 : Int32)) = (0 : Int32))))), .val (.int (own_pi (¬ ((p1 &&& (2 : Int32)) = (0 : Int32))))), .val (.int ((own_ushr p1 (2 : Int32)) &&& (3 : Int32))), .val (.ref a3), .val (.int ((p2 &&& (2147483647 : Int32)) % (10 : Int32))), .val (.int (own_ch p3)), .val (.ref b42), .val (.int (1 : Int32)), .val (.int e13), .val (.ref b49)] []))
      refine Gl.pre (fun _ k => XS.aload X50.here hx rfl (hb hby at_460) rfl rfl k) ?_
      obtain ⟨cq51, kq51, qa51, qb51, qc51⟩ := isOf hZ3 rfl E_b49
      obtain ⟨_, _, ⟨T51, L51, k51, n51⟩, -, X51, hS51c, hg51, ⟨Lc51, hQ51, l51, y51, z51, CR51c⟩, st51⟩ := X50.virtualBackS hx (y := (⟨"com/example/anchorwatch/anchorwatch/model/SemiSync", "lossless", "()Z"⟩ : MethodName)) (z := (⟨"com/example/anchorwatch/anchorwatch/model/SemiSync", "lossless", "()Z"⟩ : MethodName)) hown3 (mvT hZ3 (hw _ (List.mem_of_getElem? (i := 76) rfl))) (mvT hZ3 (hw _ (List.mem_of_getElem? (i := 77) rfl))) (notFace_of_selects (args := #[]) (mvT hZ3 (hw _ (List.mem_of_getElem? (i := 79) rfl)))) (mvT hZ3 (hw _ (List.mem_of_getElem? (i := 79) rfl))) (mvT hZ3 (hw _ (List.mem_of_getElem? (i := 78) rfl))) (by decide) (own_backH (W := 0) (rmloS l Z a0 hw [] b49 (own_pi (¬ ((p1 &&& (1 : Int32)) = (0 : Int32)))) (own_pi (¬ ((p1 &&& (2 : Int32)) = (0 : Int32)))) q4 cs b42 tv44 kt44 ([(nar .char (65 : Int32)), (nar .char (70 : Int32)), (nar .char (84 : Int32)), (nar .char (69 : Int32)), (nar .char (82 : Int32)), (nar .char (95 : Int32)), (nar .char (83 : Int32)), (nar .char (89 : Int32)), (nar .char (78 : Int32)), (nar .char (67 : Int32))]) _ T50.heap n0 Z50 F_enabled_b49 F_waitPoint_b49 F_active_b49 F_clients_b49 SBC hcs O_ E_b42 F_value_b42 F_coder_b42 Kt44 (by first | rfl | simp) hp43 (by simp only [List.length_set, List.length_cons, List.length_nil]; decide) hEL) hZ3 (hw _ (List.mem_of_getElem? (i := 80) rfl)) (hw _ (List.mem_of_getElem? (i := 58) rfl)) (by decide) (by decide) hEL CR50.1 all0) qa51 qc51 (g := (mkF m 462 #[.val (.int p1), .val (.int p2), .val (.int p3), .val (.long q4), .second, .val (.int (own_pi (¬ ((p1 &&& (1 : Int32)) = (0 : Int32))))), .val (.int (own_pi (¬ ((p1 &&& (2 : Int32)) = (0 : Int32))))), .val (.int ((own_ushr p1 (2 : Int32)) &&& (3 : Int32))), .val (.ref a3), .val (.int ((p2 &&& (2147483647 : Int32)) % (10 : Int32))), .val (.int (own_ch p3)), .val (.ref b42), .val (.int (1 : Int32)), .val (.int e13), .val (.ref b49)] [(.ref b49)])) rfl (by rw [hml]; rfl) (Steps.refl _) (argsL := []) (rest := []) (lenOf pd_5 rfl) rfl (by show 2 * 0 + _ ≤ _; exact Nat.le_of_eq rfl) (hb hby at_462) (fun _ _ => ⟨rfl, rfl, (by decide : 6 + 2 ≤ _), (by decide : 72 + 44 ≤ _)⟩)
      dsimp only [Pt.U, Pt.locs, Pt.cells, Pt.slots] at X51 l51 y51 z51 st51 hQ51 hS51c hg51 CR51c
      subst l51 y51 z51
      have X51 : Stand p l e room_1 (s.setVm T51.vm) m #[(.int p1), (.int p2), (.int p3), (.long q4)] below meth c T51 _ _ _ := X51
      have hS51 := foldS hS3 hk50 hS51c hg51
      have hZ51 : Z.Warmed39 (s.setVm T51.vm).vm := State.Warmed39.trans (t := s.setVm T3.vm) hZ3 hS51c.1
      have hown51 : (s.setVm T51.vm).vm.findClass "com/example/anchorwatch/anchorwatch/model/SemiSyncLosslessPinLaw" = some m.cls := by rw [show (s.setVm T51.vm).vm = T51.vm from rfl, hS51c.1.alike.findClass]; exact hown3
      have Sf_b31 := CR51c.safe V_b31.lt Sf_b31
      have Sf_b42 := CR51c.safe E_b42.lt Sf_b42
      have Sf_b49 := CR51c.safe E_b49.lt Sf_b49
      have CR51 := CR50.trans CR51c
      obtain ⟨rfl, N51q, K51⟩ := hQ51
      have N51 := Fr.app N50 N51q
      refine Gl.pre (fun _ k => st51.trans k) ?_
      have O_ := O_.keep K51 all0
      have Va3 := Va3.keep K51 nin0
      have Es3 := Es3.keep K51
      have Fc3 := Fc3.keep K51 nin0
      have Fv3 := Fv3.keep K51 nin0
      have V_b3 := V_b3.keep K51 nin0
      have V_b31 := V_b31.keep K51 nin0
      have E_b42 := E_b42.keep K51
      have F_value_b42 := F_value_b42.keep K51 nin0
      have F_coder_b42 := F_coder_b42.keep K51 nin0
      have Kt44 := Kt44.keep K51 nin0
      have E_b49 := E_b49.keep K51
      have F_enabled_b49 := F_enabled_b49.keep K51 nin0
      have F_waitPoint_b49 := F_waitPoint_b49.keep K51 nin0
      have F_active_b49 := F_active_b49.keep K51 nin0
      have F_clients_b49 := F_clients_b49.keep K51 nin0
      have Z51 : n0 ≤ T51.heap.size := Nat.le_trans Z50 K51.1
      refine Gl.pre (fun _ k => XS.iload X51.here hx rfl (hb hby at_465) rfl k) ?_
      show Gl p.tables e below PP (T51.setTop (mkF m 467 #[.val (.int p1), .val (.int p2), .val (.int p3), .val (.long q4), .second, .val (.int (own_pi (¬ ((p1 &&& (1 : Int32)) = (0 : Int32))))), .val (.int (own_pi (¬ ((p1 &&& (2 : Int32)) = (0 : Int32))))), .val (.int ((own_ushr p1 (2 : Int32)) &&& (3 : Int32))), .val (.ref a3), .val (.int ((p2 &&& (2147483647 : Int32)) % (10 : Int32))), .val (.int (own_ch p3)), .val (.ref b42), .val (.int (1 : Int32)), .val (.int e13), .val (.ref b49)] [(.int e13), (.int (own_pi (¬ ((own_pi (¬ ((p1 &&& (1 : Int32)) = (0 : Int32)))) = (0 : Int32)) ∧ own_AS = [(nar .char (65 : Int32)), (nar .char (70 : Int32)), (nar .char (84 : Int32)), (nar .char (69 : Int32)), (nar .char (82 : Int32)), (nar .char (95 : Int32)), (nar .char (83 : Int32)), (nar .char (89 : Int32)), (nar .char (78 : Int32)), (nar .char (67 : Int32))] ∧ ¬ ((own_pi (¬ ((p1 &&& (2 : Int32)) = (0 : Int32)))) = (0 : Int32)) ∧ ¬ (q4 < (1 : Int64)))))]))
      refine Gl.pre (fun _ k => XS.icmpNo X51.here hx rfl (hb hby at_467) rfl (teq (show (own_pi (¬ ((own_pi (¬ ((p1 &&& (1 : Int32)) = (0 : Int32)))) = (0 : Int32)) ∧ own_AS = [(nar .char (65 : Int32)), (nar .char (70 : Int32)), (nar .char (84 : Int32)), (nar .char (69 : Int32)), (nar .char (82 : Int32)), (nar .char (95 : Int32)), (nar .char (83 : Int32)), (nar .char (89 : Int32)), (nar .char (78 : Int32)), (nar .char (67 : Int32))] ∧ ¬ ((own_pi (¬ ((p1 &&& (2 : Int32)) = (0 : Int32)))) = (0 : Int32)) ∧ ¬ (q4 < (1 : Int64)))) = e13 from (by rw [he13]; exact own_pi_eq (own_finT own_full)))).2 k) ?_
      show Gl p.tables e below PP (T51.setTop (mkF m 470 #[.val (.int p1), .val (.int p2), .val (.int p3), .val (.long q4), .second, .val (.int (own_pi (¬ ((p1 &&& (1 : Int32)) = (0 : Int32))))), .val (.int (own_pi (¬ ((p1 &&& (2 : Int32)) = (0 : Int32))))), .val (.int ((own_ushr p1 (2 : Int32)) &&& (3 : Int32))), .val (.ref a3), .val (.int ((p2 &&& (2147483647 : Int32)) % (10 : Int32))), .val (.int (own_ch p3)), .val (.ref b42), .val (.int (1 : Int32)), .val (.int e13), .val (.ref b49)] []))
      refine Gl.pre (fun _ k => XS.iconst X51.here hx rfl (hb hby at_470) k) ?_
      refine Gl.pre (fun _ k => XS.goto X51.here hx rfl (pc0 := 471) (pc' := 475) rfl (hb hby at_471) (by decide) (by decide) k) ?_
      rw [hPP]
      refine own_finNW (Q := (Q0 Z p1 p2 p3 q4 cs fo h0 n0)) (Z := Z) (EL := own_EL) X51 hx hlk hS51 (Nat.le_refl _) Bd.returns (t := .boolean) (z' := (1 : Int32)) (by simp) (by decide) (hb hby at_475) ?_ (by rw [hh]; exact CR51.trans (CHv.at X51 hZ51 hEL CR51.1)) (by decide) (by decide)
      show Q0 Z p1 p2 p3 q4 cs fo h0 n0 _ T51.heap _
      exact ⟨rfl, N51⟩
    · refine Gl.pre (fun _ k => XS.icmpYes X3.here hx rfl (pc0 := 162) (pc' := 242) rfl (hb hby at_162) rfl (feq hc30).2 (by decide) (by decide) k) ?_
      show Gl p.tables e below PP (T3.setTop (mkF m 242 #[.val (.int p1), .val (.int p2), .val (.int p3), .val (.long q4), .second, .val (.int (own_pi (¬ ((p1 &&& (1 : Int32)) = (0 : Int32))))), .val (.int (own_pi (¬ ((p1 &&& (2 : Int32)) = (0 : Int32))))), .val (.int ((own_ushr p1 (2 : Int32)) &&& (3 : Int32))), .val (.ref a3), .val (.int ((p2 &&& (2147483647 : Int32)) % (10 : Int32))), .val (.int (own_ch p3)), .unset, .unset, .unset, .unset] []))
      refine Gl.pre (fun _ k => XS.iload X3.here hx rfl (hb hby at_242) rfl k) ?_
      show Gl p.tables e below PP (T3.setTop (mkF m 244 #[.val (.int p1), .val (.int p2), .val (.int p3), .val (.long q4), .second, .val (.int (own_pi (¬ ((p1 &&& (1 : Int32)) = (0 : Int32))))), .val (.int (own_pi (¬ ((p1 &&& (2 : Int32)) = (0 : Int32))))), .val (.int ((own_ushr p1 (2 : Int32)) &&& (3 : Int32))), .val (.ref a3), .val (.int ((p2 &&& (2147483647 : Int32)) % (10 : Int32))), .val (.int (own_ch p3)), .unset, .unset, .unset, .unset] [(.int ((own_ushr p1 (2 : Int32)) &&& (3 : Int32)))]))
      refine Gl.pre (fun _ k => XS.iconst X3.here hx rfl (hb hby at_244) k) ?_
      by_cases hc52 : ((own_ushr p1 (2 : Int32)) &&& (3 : Int32)) = (2 : Int32)
      · refine Gl.pre (fun _ k => XS.icmpNo X3.here hx rfl (hb hby at_245) rfl (teq hc52).2 k) ?_
        show Gl p.tables e below PP (T3.setTop (mkF m 248 #[.val (.int p1), .val (.int p2), .val (.int p3), .val (.long q4), .second, .val (.int (own_pi (¬ ((p1 &&& (1 : Int32)) = (0 : Int32))))), .val (.int (own_pi (¬ ((p1 &&& (2 : Int32)) = (0 : Int32))))), .val (.int ((own_ushr p1 (2 : Int32)) &&& (3 : Int32))), .val (.ref a3), .val (.int ((p2 &&& (2147483647 : Int32)) % (10 : Int32))), .val (.int (own_ch p3)), .unset, .unset, .unset, .unset] []))
        refine Gl.pre (fun _ k => XS.aconstNull X3.here hx rfl (hb hby at_248) k) ?_
        refine Gl.pre (fun _ k => XS.astore X3.here hx rfl (hb hby at_249) rfl rfl (l' := #[.val (.int p1), .val (.int p2), .val (.int p3), .val (.long q4), .second, .val (.int (own_pi (¬ ((p1 &&& (1 : Int32)) = (0 : Int32))))), .val (.int (own_pi (¬ ((p1 &&& (2 : Int32)) = (0 : Int32))))), .val (.int ((own_ushr p1 (2 : Int32)) &&& (3 : Int32))), .val (.ref a3), .val (.int ((p2 &&& (2147483647 : Int32)) % (10 : Int32))), .val (.int (own_ch p3)), .val .null, .unset, .unset, .unset]) rfl k) ?_
        show Gl p.tables e below PP (T3.setTop (mkF m 251 #[.val (.int p1), .val (.int p2), .val (.int p3), .val (.long q4), .second, .val (.int (own_pi (¬ ((p1 &&& (1 : Int32)) = (0 : Int32))))), .val (.int (own_pi (¬ ((p1 &&& (2 : Int32)) = (0 : Int32))))), .val (.int ((own_ushr p1 (2 : Int32)) &&& (3 : Int32))), .val (.ref a3), .val (.int ((p2 &&& (2147483647 : Int32)) % (10 : Int32))), .val (.int (own_ch p3)), .val .null, .unset, .unset, .unset] []))
        refine Gl.pre (fun _ k => XS.iconst X3.here hx rfl (hb hby at_251) k) ?_
        refine Gl.pre (fun _ k => XS.istore X3.here hx rfl (hb hby at_252) rfl (l' := #[.val (.int p1), .val (.int p2), .val (.int p3), .val (.long q4), .second, .val (.int (own_pi (¬ ((p1 &&& (1 : Int32)) = (0 : Int32))))), .val (.int (own_pi (¬ ((p1 &&& (2 : Int32)) = (0 : Int32))))), .val (.int ((own_ushr p1 (2 : Int32)) &&& (3 : Int32))), .val (.ref a3), .val (.int ((p2 &&& (2147483647 : Int32)) % (10 : Int32))), .val (.int (own_ch p3)), .val .null, .val (.int (0 : Int32)), .unset, .unset]) rfl k) ?_
        refine Gl.pre (fun _ k => XS.goto X3.here hx rfl (pc0 := 254) (pc' := 413) rfl (hb hby at_254) (by decide) (by decide) k) ?_
        show Gl p.tables e below PP (T3.setTop (mkF m 413 #[.val (.int p1), .val (.int p2), .val (.int p3), .val (.long q4), .second, .val (.int (own_pi (¬ ((p1 &&& (1 : Int32)) = (0 : Int32))))), .val (.int (own_pi (¬ ((p1 &&& (2 : Int32)) = (0 : Int32))))), .val (.int ((own_ushr p1 (2 : Int32)) &&& (3 : Int32))), .val (.ref a3), .val (.int ((p2 &&& (2147483647 : Int32)) % (10 : Int32))), .val (.int (own_ch p3)), .val .null, .val (.int (0 : Int32)), .unset, .unset] []))
        refine Gl.pre (fun _ k => XS.iconst X3.here hx rfl (hb hby at_413) k) ?_
        refine Gl.pre (fun _ k => XS.istore X3.here hx rfl (hb hby at_414) rfl (l' := #[.val (.int p1), .val (.int p2), .val (.int p3), .val (.long q4), .second, .val (.int (own_pi (¬ ((p1 &&& (1 : Int32)) = (0 : Int32))))), .val (.int (own_pi (¬ ((p1 &&& (2 : Int32)) = (0 : Int32))))), .val (.int ((own_ushr p1 (2 : Int32)) &&& (3 : Int32))), .val (.ref a3), .val (.int ((p2 &&& (2147483647 : Int32)) % (10 : Int32))), .val (.int (own_ch p3)), .val .null, .val (.int (0 : Int32)), .val (.int (0 : Int32)), .unset]) rfl k) ?_
        suffices J53 : ∀ e13 : Int32, e13 = own_pi (¬ ((p1 &&& (1 : Int32)) = (0 : Int32)) ∧ ¬ ((p1 &&& (2 : Int32)) = (0 : Int32)) ∧ (False) ∧ ¬ (q4 < (1 : Int64))) → Gl p.tables e below PP (T3.setTop (mkF m 444 #[.val (.int p1), .val (.int p2), .val (.int p3), .val (.long q4), .second, .val (.int (own_pi (¬ ((p1 &&& (1 : Int32)) = (0 : Int32))))), .val (.int (own_pi (¬ ((p1 &&& (2 : Int32)) = (0 : Int32))))), .val (.int ((own_ushr p1 (2 : Int32)) &&& (3 : Int32))), .val (.ref a3), .val (.int ((p2 &&& (2147483647 : Int32)) % (10 : Int32))), .val (.int (own_ch p3)), .val .null, .val (.int (0 : Int32)), .val (.int e13), .unset] [])) by
          refine Gl.pre (fun _ k => XS.iload X3.here hx rfl (hb hby at_416) rfl k) ?_
          show Gl p.tables e below PP (T3.setTop (mkF m 418 #[.val (.int p1), .val (.int p2), .val (.int p3), .val (.long q4), .second, .val (.int (own_pi (¬ ((p1 &&& (1 : Int32)) = (0 : Int32))))), .val (.int (own_pi (¬ ((p1 &&& (2 : Int32)) = (0 : Int32))))), .val (.int ((own_ushr p1 (2 : Int32)) &&& (3 : Int32))), .val (.ref a3), .val (.int ((p2 &&& (2147483647 : Int32)) % (10 : Int32))), .val (.int (own_ch p3)), .val .null, .val (.int (0 : Int32)), .val (.int (0 : Int32)), .unset] [(.int (own_pi (¬ ((p1 &&& (1 : Int32)) = (0 : Int32)))))]))
          by_cases hc54 : ¬ ((p1 &&& (1 : Int32)) = (0 : Int32))
          · refine Gl.pre (fun _ k => XS.ifNo X3.here hx rfl (hb hby at_418) rfl ((if0 _ _).trans (feq (fun q => (own_pi0 (P := ¬ ((p1 &&& (1 : Int32)) = (0 : Int32)))).mp q hc54)).1) k) ?_
            show Gl p.tables e below PP (T3.setTop (mkF m 421 #[.val (.int p1), .val (.int p2), .val (.int p3), .val (.long q4), .second, .val (.int (own_pi (¬ ((p1 &&& (1 : Int32)) = (0 : Int32))))), .val (.int (own_pi (¬ ((p1 &&& (2 : Int32)) = (0 : Int32))))), .val (.int ((own_ushr p1 (2 : Int32)) &&& (3 : Int32))), .val (.ref a3), .val (.int ((p2 &&& (2147483647 : Int32)) % (10 : Int32))), .val (.int (own_ch p3)), .val .null, .val (.int (0 : Int32)), .val (.int (0 : Int32)), .unset] []))
            refine Gl.pre (fun _ k => XS.iload X3.here hx rfl (hb hby at_421) rfl k) ?_
            by_cases hc55 : ¬ ((p1 &&& (2 : Int32)) = (0 : Int32))
            · refine Gl.pre (fun _ k => XS.ifNo X3.here hx rfl (hb hby at_423) rfl ((if0 _ _).trans (feq (fun q => (own_pi0 (P := ¬ ((p1 &&& (2 : Int32)) = (0 : Int32)))).mp q hc55)).1) k) ?_
              show Gl p.tables e below PP (T3.setTop (mkF m 426 #[.val (.int p1), .val (.int p2), .val (.int p3), .val (.long q4), .second, .val (.int (own_pi (¬ ((p1 &&& (1 : Int32)) = (0 : Int32))))), .val (.int (own_pi (¬ ((p1 &&& (2 : Int32)) = (0 : Int32))))), .val (.int ((own_ushr p1 (2 : Int32)) &&& (3 : Int32))), .val (.ref a3), .val (.int ((p2 &&& (2147483647 : Int32)) % (10 : Int32))), .val (.int (own_ch p3)), .val .null, .val (.int (0 : Int32)), .val (.int (0 : Int32)), .unset] []))
              refine Gl.pre (fun _ k => XS.iload X3.here hx rfl (hb hby at_426) rfl k) ?_
              refine Gl.pre (fun _ k => XS.ifYes X3.here hx rfl (pc0 := 428) (pc' := 444) rfl (hb hby at_428) rfl ((if0 _ _).trans (teq (show (0 : Int32) = (0 : Int32) from (by decide))).1) (by decide) (by decide) k) ?_
              show Gl p.tables e below PP (T3.setTop (mkF m 444 #[.val (.int p1), .val (.int p2), .val (.int p3), .val (.long q4), .second, .val (.int (own_pi (¬ ((p1 &&& (1 : Int32)) = (0 : Int32))))), .val (.int (own_pi (¬ ((p1 &&& (2 : Int32)) = (0 : Int32))))), .val (.int ((own_ushr p1 (2 : Int32)) &&& (3 : Int32))), .val (.ref a3), .val (.int ((p2 &&& (2147483647 : Int32)) % (10 : Int32))), .val (.int (own_ch p3)), .val .null, .val (.int (0 : Int32)), .val (.int (0 : Int32)), .unset] []))
              exact J53 _ ((own_pi_f (fun q => q.2.2.1)).symm)
            · refine Gl.pre (fun _ k => XS.ifYes X3.here hx rfl (pc0 := 423) (pc' := 444) rfl (hb hby at_423) rfl ((if0 _ _).trans (teq ((own_pi0 (P := ¬ ((p1 &&& (2 : Int32)) = (0 : Int32)))).mpr hc55)).1) (by decide) (by decide) k) ?_
              show Gl p.tables e below PP (T3.setTop (mkF m 444 #[.val (.int p1), .val (.int p2), .val (.int p3), .val (.long q4), .second, .val (.int (own_pi (¬ ((p1 &&& (1 : Int32)) = (0 : Int32))))), .val (.int (own_pi (¬ ((p1 &&& (2 : Int32)) = (0 : Int32))))), .val (.int ((own_ushr p1 (2 : Int32)) &&& (3 : Int32))), .val (.ref a3), .val (.int ((p2 &&& (2147483647 : Int32)) % (10 : Int32))), .val (.int (own_ch p3)), .val .null, .val (.int (0 : Int32)), .val (.int (0 : Int32)), .unset] []))
              exact J53 _ ((own_pi_f (fun q => hc55 q.2.1)).symm)
          · refine Gl.pre (fun _ k => XS.ifYes X3.here hx rfl (pc0 := 418) (pc' := 444) rfl (hb hby at_418) rfl ((if0 _ _).trans (teq ((own_pi0 (P := ¬ ((p1 &&& (1 : Int32)) = (0 : Int32)))).mpr hc54)).1) (by decide) (by decide) k) ?_
            show Gl p.tables e below PP (T3.setTop (mkF m 444 #[.val (.int p1), .val (.int p2), .val (.int p3), .val (.long q4), .second, .val (.int (own_pi (¬ ((p1 &&& (1 : Int32)) = (0 : Int32))))), .val (.int (own_pi (¬ ((p1 &&& (2 : Int32)) = (0 : Int32))))), .val (.int ((own_ushr p1 (2 : Int32)) &&& (3 : Int32))), .val (.ref a3), .val (.int ((p2 &&& (2147483647 : Int32)) % (10 : Int32))), .val (.int (own_ch p3)), .val .null, .val (.int (0 : Int32)), .val (.int (0 : Int32)), .unset] []))
            exact J53 _ ((own_pi_f (fun q => hc54 q.1)).symm)
        intro e13 he13
        show Gl p.tables e below PP (T3.setTop (mkF m 444 #[.val (.int p1), .val (.int p2), .val (.int p3), .val (.long q4), .second, .val (.int (own_pi (¬ ((p1 &&& (1 : Int32)) = (0 : Int32))))), .val (.int (own_pi (¬ ((p1 &&& (2 : Int32)) = (0 : Int32))))), .val (.int ((own_ushr p1 (2 : Int32)) &&& (3 : Int32))), .val (.ref a3), .val (.int ((p2 &&& (2147483647 : Int32)) % (10 : Int32))), .val (.int (own_ch p3)), .val .null, .val (.int (0 : Int32)), .val (.int e13), .unset] []))
        obtain ⟨T56, h56, X56, e56, E56, A56, D56, -, st56⟩ := newO X3 hx hZ3 hown3 (hw _ (List.mem_of_getElem? (i := 56) rfl)) (hw _ (List.mem_of_getElem? (i := 57) rfl)) (hw _ (List.mem_of_getElem? (i := 58) rfl)) e3 (g := (mkF m 444 #[.val (.int p1), .val (.int p2), .val (.int p3), .val (.long q4), .second, .val (.int (own_pi (¬ ((p1 &&& (1 : Int32)) = (0 : Int32))))), .val (.int (own_pi (¬ ((p1 &&& (2 : Int32)) = (0 : Int32))))), .val (.int ((own_ushr p1 (2 : Int32)) &&& (3 : Int32))), .val (.ref a3), .val (.int ((p2 &&& (2147483647 : Int32)) % (10 : Int32))), .val (.int (own_ch p3)), .val .null, .val (.int (0 : Int32)), .val (.int e13), .unset] [])) rfl (hb hby at_444) (by decide) (by decide)
        obtain ⟨b56, g56⟩ : ∃ z, z = h3.size := ⟨_, rfl⟩
        rw [← g56] at A56 D56 st56
        refine Gl.pre (fun _ k => st56 _ k) ?_
        have own_ne_b3_b56 : b3 ≠ b56 := by have q := Va3.lt; rw [g56]; exact Nat.ne_of_lt q
        have own_ne_b56_b3 : b56 ≠ b3 := own_ne_b3_b56.symm
        have own_ne_a3_b56 : a3 ≠ b56 := by have q := Es3.lt; rw [g56]; exact Nat.ne_of_lt q
        have own_ne_b56_a3 : b56 ≠ a3 := own_ne_a3_b56.symm
        have g_b56 : n0 ≤ b56 := Nat.le_trans Z3 (Nat.le_of_eq g56.symm)
        have Sf_b56 := Safe.ext E56 CR3.1 (Safe.new (Z := Z) (EL := own_EL) (vm := T3.vm) (Nat.le_of_eq g56.symm))
        have CR56 := CR3.trans (CHr.ext E56 CR3.1)
        have O_ := O_.ext E56
        have Va3 := Va3.ext E56
        have Es3 := Es3.ext E56
        have Fc3 := Fc3.ext E56
        have Fv3 := Fv3.ext E56
        have V_b3 := V_b3.ext E56
        have Z56 : n0 ≤ h56.size := Nat.le_trans Z3 E56.1
        have hk56 := Nat.le_trans hk3 E56.1
        have E_b56 := A56
        have F_enabled_b56 : Fld Z h56 b56 "com/example/anchorwatch/anchorwatch/model/SemiSync" "enabled" "Z" (.int (0 : Int32)) := D56 (Or.inr (hw _ (List.mem_of_getElem? (i := 69) rfl))) (ty := .boolean) (by decide)
        have F_waitPoint_b56 : Fld Z h56 b56 "com/example/anchorwatch/anchorwatch/model/SemiSync" "waitPoint" "Ljava/lang/String;" .null := D56 (Or.inr (hw _ (List.mem_of_getElem? (i := 71) rfl))) (ty := (.object "java/lang/String")) (by decide)
        have F_active_b56 : Fld Z h56 b56 "com/example/anchorwatch/anchorwatch/model/SemiSync" "active" "Z" (.int (0 : Int32)) := D56 (Or.inr (hw _ (List.mem_of_getElem? (i := 73) rfl))) (ty := .boolean) (by decide)
        have F_clients_b56 : Fld Z h56 b56 "com/example/anchorwatch/anchorwatch/model/SemiSync" "clients" "J" (.long (0 : Int64)) := D56 (Or.inr (hw _ (List.mem_of_getElem? (i := 75) rfl))) (ty := .long) (by decide)
        show Gl p.tables e below PP (T56.setTop (mkF m 447 #[.val (.int p1), .val (.int p2), .val (.int p3), .val (.long q4), .second, .val (.int (own_pi (¬ ((p1 &&& (1 : Int32)) = (0 : Int32))))), .val (.int (own_pi (¬ ((p1 &&& (2 : Int32)) = (0 : Int32))))), .val (.int ((own_ushr p1 (2 : Int32)) &&& (3 : Int32))), .val (.ref a3), .val (.int ((p2 &&& (2147483647 : Int32)) % (10 : Int32))), .val (.int (own_ch p3)), .val .null, .val (.int (0 : Int32)), .val (.int e13), .unset] [(.ref b56)]))
        refine Gl.pre (fun _ k => XS.dup X56.here hx rfl (hb hby at_447) rfl rfl k) ?_
        refine Gl.pre (fun _ k => XS.iload X56.here hx rfl (hb hby at_448) rfl k) ?_
        refine Gl.pre (fun _ k => XS.aload X56.here hx rfl (hb hby at_450) rfl rfl k) ?_
        show Gl p.tables e below PP (T56.setTop (mkF m 452 #[.val (.int p1), .val (.int p2), .val (.int p3), .val (.long q4), .second, .val (.int (own_pi (¬ ((p1 &&& (1 : Int32)) = (0 : Int32))))), .val (.int (own_pi (¬ ((p1 &&& (2 : Int32)) = (0 : Int32))))), .val (.int ((own_ushr p1 (2 : Int32)) &&& (3 : Int32))), .val (.ref a3), .val (.int ((p2 &&& (2147483647 : Int32)) % (10 : Int32))), .val (.int (own_ch p3)), .val .null, .val (.int (0 : Int32)), .val (.int e13), .unset] [.null, (.int (own_pi (¬ ((p1 &&& (1 : Int32)) = (0 : Int32))))), (.ref b56), (.ref b56)]))
        refine Gl.pre (fun _ k => XS.iload X56.here hx rfl (hb hby at_452) rfl k) ?_
        refine Gl.pre (fun _ k => XS.lloadN X56.here hx rfl (hb hby at_454) rfl k) ?_
        obtain ⟨_, _, ⟨T57, L57, k57, n57⟩, -, X57, ⟨Lc57, hQ57, l57, y57, z57⟩, st57⟩ := X56.specialBack hx (y := (⟨"com/example/anchorwatch/anchorwatch/model/SemiSync", "<init>", "(ZLjava/lang/String;ZJ)V"⟩ : MethodName)) rfl hown3 (mvT hZ3 (hw _ (List.mem_of_getElem? (i := 59) rfl))) (mvT hZ3 (hw _ (List.mem_of_getElem? (i := 60) rfl))) (mvT hZ3 (hw _ (List.mem_of_getElem? (i := 61) rfl))) (by decide) (backOf (W := 1) (rmssN l Z a0 hw [] b56 (own_pi (¬ ((p1 &&& (1 : Int32)) = (0 : Int32)))) (own_pi (¬ ((p1 &&& (2 : Int32)) = (0 : Int32)))) q4 h56 n0 Z56 E_b56 F_enabled_b56 F_waitPoint_b56 F_active_b56 F_clients_b56 g_b56 (own_pi01 _) (own_pi01 _)) hZ3 (hw _ (List.mem_of_getElem? (i := 61) rfl)) (hw _ (List.mem_of_getElem? (i := 58) rfl)) (by decide) (by decide)) (g := (mkF m 455 #[.val (.int p1), .val (.int p2), .val (.int p3), .val (.long q4), .second, .val (.int (own_pi (¬ ((p1 &&& (1 : Int32)) = (0 : Int32))))), .val (.int (own_pi (¬ ((p1 &&& (2 : Int32)) = (0 : Int32))))), .val (.int ((own_ushr p1 (2 : Int32)) &&& (3 : Int32))), .val (.ref a3), .val (.int ((p2 &&& (2147483647 : Int32)) % (10 : Int32))), .val (.int (own_ch p3)), .val .null, .val (.int (0 : Int32)), .val (.int e13), .unset] [(.long q4), (.int (own_pi (¬ ((p1 &&& (2 : Int32)) = (0 : Int32))))), .null, (.int (own_pi (¬ ((p1 &&& (1 : Int32)) = (0 : Int32))))), (.ref b56), (.ref b56)])) rfl (by rw [hml]; rfl) (Steps.refl _) (a := b56) (argsL := [(.int (own_pi (¬ ((p1 &&& (1 : Int32)) = (0 : Int32))))), .null, (.int (own_pi (¬ ((p1 &&& (2 : Int32)) = (0 : Int32))))), (.long q4)]) (rest := [(.ref b56)]) (lenOf pd_4 rfl) rfl (by show 2 * 0 + _ ≤ _; exact Nat.le_of_eq rfl) (hb hby at_455) (fun _ _ => ⟨rfl, e56, (by decide : 3 + 0 ≤ _), (by decide : 48 + 0 ≤ _)⟩)
        dsimp only [Pt.U, Pt.locs, Pt.cells, Pt.slots] at X57 l57 y57 z57 st57 hQ57
        subst l57 y57 z57
        obtain ⟨rfl, N57q, K57, Fenabled57, FwaitPoint57, Factive57, Fclients57⟩ := hQ57
        have N57 := Fr.app N0 N57q
        refine Gl.pre (fun _ k => st57.trans k) ?_
        have hs57 : ∀ x ∈ [b56], Safe Z own_EL _ _ x := (allS Sf_b56 all0)
        have Sf_b56 := Safe.keep K57 hs57 CR56.1 Sf_b56
        have CR57 := CR56.trans (CHr.keep K57 hs57 CR56.1)
        have O_ := O_.keep K57 (allS g_b56 all0)
        have Va3 := Va3.keep K57 (ninS (own_ne_b3_b56) nin0)
        have Es3 := Es3.keep K57
        have Fc3 := Fc3.keep K57 (ninS (own_ne_a3_b56) nin0)
        have Fv3 := Fv3.keep K57 (ninS (own_ne_a3_b56) nin0)
        have V_b3 := V_b3.keep K57 (ninS (own_ne_b3_b56) nin0)
        have E_b56 := E_b56.keep K57
        have hk57 := Nat.le_trans hk56 K57.1
        have Z57 : n0 ≤ T57.heap.size := Nat.le_trans Z56 K57.1
        have F_enabled_b56 := Fenabled57
        have F_waitPoint_b56 := FwaitPoint57
        have F_active_b56 := Factive57
        have F_clients_b56 := Fclients57
        show Gl p.tables e below PP (T57.setTop (mkF m 458 #[.val (.int p1), .val (.int p2), .val (.int p3), .val (.long q4), .second, .val (.int (own_pi (¬ ((p1 &&& (1 : Int32)) = (0 : Int32))))), .val (.int (own_pi (¬ ((p1 &&& (2 : Int32)) = (0 : Int32))))), .val (.int ((own_ushr p1 (2 : Int32)) &&& (3 : Int32))), .val (.ref a3), .val (.int ((p2 &&& (2147483647 : Int32)) % (10 : Int32))), .val (.int (own_ch p3)), .val .null, .val (.int (0 : Int32)), .val (.int e13), .unset] [(.ref b56)]))
        refine Gl.pre (fun _ k => XS.astore X57.here hx rfl (hb hby at_458) rfl rfl (l' := #[.val (.int p1), .val (.int p2), .val (.int p3), .val (.long q4), .second, .val (.int (own_pi (¬ ((p1 &&& (1 : Int32)) = (0 : Int32))))), .val (.int (own_pi (¬ ((p1 &&& (2 : Int32)) = (0 : Int32))))), .val (.int ((own_ushr p1 (2 : Int32)) &&& (3 : Int32))), .val (.ref a3), .val (.int ((p2 &&& (2147483647 : Int32)) % (10 : Int32))), .val (.int (own_ch p3)), .val .null, .val (.int (0 : Int32)), .val (.int e13), .val (.ref b56)]) rfl k) ?_
        refine Gl.pre (fun _ k => XS.aload X57.here hx rfl (hb hby at_460) rfl rfl k) ?_
        obtain ⟨cq58, kq58, qa58, qb58, qc58⟩ := isOf hZ3 rfl E_b56
        obtain ⟨_, _, ⟨T58, L58, k58, n58⟩, -, X58, hS58c, hg58, ⟨Lc58, hQ58, l58, y58, z58, CR58c⟩, st58⟩ := X57.virtualBackS hx (y := (⟨"com/example/anchorwatch/anchorwatch/model/SemiSync", "lossless", "()Z"⟩ : MethodName)) (z := (⟨"com/example/anchorwatch/anchorwatch/model/SemiSync", "lossless", "()Z"⟩ : MethodName)) hown3 (mvT hZ3 (hw _ (List.mem_of_getElem? (i := 76) rfl))) (mvT hZ3 (hw _ (List.mem_of_getElem? (i := 77) rfl))) (notFace_of_selects (args := #[]) (mvT hZ3 (hw _ (List.mem_of_getElem? (i := 79) rfl)))) (mvT hZ3 (hw _ (List.mem_of_getElem? (i := 79) rfl))) (mvT hZ3 (hw _ (List.mem_of_getElem? (i := 78) rfl))) (by decide) (own_backH (W := 0) (rmloN l Z a0 hw [] b56 (own_pi (¬ ((p1 &&& (1 : Int32)) = (0 : Int32)))) (own_pi (¬ ((p1 &&& (2 : Int32)) = (0 : Int32)))) q4 cs T57.heap n0 Z57 F_enabled_b56 F_waitPoint_b56 F_active_b56 F_clients_b56 SBC hcs O_ hEL) hZ3 (hw _ (List.mem_of_getElem? (i := 80) rfl)) (hw _ (List.mem_of_getElem? (i := 58) rfl)) (by decide) (by decide) hEL CR57.1 all0) qa58 qc58 (g := (mkF m 462 #[.val (.int p1), .val (.int p2), .val (.int p3), .val (.long q4), .second, .val (.int (own_pi (¬ ((p1 &&& (1 : Int32)) = (0 : Int32))))), .val (.int (own_pi (¬ ((p1 &&& (2 : Int32)) = (0 : Int32))))), .val (.int ((own_ushr p1 (2 : Int32)) &&& (3 : Int32))), .val (.ref a3), .val (.int ((p2 &&& (2147483647 : Int32)) % (10 : Int32))), .val (.int (own_ch p3)), .val .null, .val (.int (0 : Int32)), .val (.int e13), .val (.ref b56)] [(.ref b56)])) rfl (by rw [hml]; rfl) (Steps.refl _) (argsL := []) (rest := []) (lenOf pd_5 rfl) rfl (by show 2 * 0 + _ ≤ _; exact Nat.le_of_eq rfl) (hb hby at_462) (fun _ _ => ⟨rfl, rfl, (by decide : 3 + 2 ≤ _), (by decide : 48 + 44 ≤ _)⟩)
        dsimp only [Pt.U, Pt.locs, Pt.cells, Pt.slots] at X58 l58 y58 z58 st58 hQ58 hS58c hg58 CR58c
        subst l58 y58 z58
        have X58 : Stand p l e room_1 (s.setVm T58.vm) m #[(.int p1), (.int p2), (.int p3), (.long q4)] below meth c T58 _ _ _ := X58
        have hS58 := foldS hS3 hk57 hS58c hg58
        have hZ58 : Z.Warmed39 (s.setVm T58.vm).vm := State.Warmed39.trans (t := s.setVm T3.vm) hZ3 hS58c.1
        have hown58 : (s.setVm T58.vm).vm.findClass "com/example/anchorwatch/anchorwatch/model/SemiSyncLosslessPinLaw" = some m.cls := by rw [show (s.setVm T58.vm).vm = T58.vm from rfl, hS58c.1.alike.findClass]; exact hown3
        have Sf_b56 := CR58c.safe E_b56.lt Sf_b56
        have CR58 := CR57.trans CR58c
        obtain ⟨rfl, N58q, K58⟩ := hQ58
        have N58 := Fr.app N57 N58q
        refine Gl.pre (fun _ k => st58.trans k) ?_
        have O_ := O_.keep K58 all0
        have Va3 := Va3.keep K58 nin0
        have Es3 := Es3.keep K58
        have Fc3 := Fc3.keep K58 nin0
        have Fv3 := Fv3.keep K58 nin0
        have V_b3 := V_b3.keep K58 nin0
        have E_b56 := E_b56.keep K58
        have F_enabled_b56 := F_enabled_b56.keep K58 nin0
        have F_waitPoint_b56 := F_waitPoint_b56.keep K58 nin0
        have F_active_b56 := F_active_b56.keep K58 nin0
        have F_clients_b56 := F_clients_b56.keep K58 nin0
        have Z58 : n0 ≤ T58.heap.size := Nat.le_trans Z57 K58.1
        show Gl p.tables e below PP (T58.setTop (mkF m 465 #[.val (.int p1), .val (.int p2), .val (.int p3), .val (.long q4), .second, .val (.int (own_pi (¬ ((p1 &&& (1 : Int32)) = (0 : Int32))))), .val (.int (own_pi (¬ ((p1 &&& (2 : Int32)) = (0 : Int32))))), .val (.int ((own_ushr p1 (2 : Int32)) &&& (3 : Int32))), .val (.ref a3), .val (.int ((p2 &&& (2147483647 : Int32)) % (10 : Int32))), .val (.int (own_ch p3)), .val .null, .val (.int (0 : Int32)), .val (.int e13), .val (.ref b56)] [(.int (own_pi (¬ ((own_pi (¬ ((p1 &&& (1 : Int32)) = (0 : Int32)))) = (0 : Int32)) ∧ False ∧ ¬ ((own_pi (¬ ((p1 &&& (2 : Int32)) = (0 : Int32)))) = (0 : Int32)) ∧ ¬ (q4 < (1 : Int64)))))]))
        refine Gl.pre (fun _ k => XS.iload X58.here hx rfl (hb hby at_465) rfl k) ?_
        refine Gl.pre (fun _ k => XS.icmpNo X58.here hx rfl (hb hby at_467) rfl (teq (show (own_pi (¬ ((own_pi (¬ ((p1 &&& (1 : Int32)) = (0 : Int32)))) = (0 : Int32)) ∧ False ∧ ¬ ((own_pi (¬ ((p1 &&& (2 : Int32)) = (0 : Int32)))) = (0 : Int32)) ∧ ¬ (q4 < (1 : Int64)))) = e13 from (by rw [he13]; exact own_pi_eq (own_fin0)))).2 k) ?_
        show Gl p.tables e below PP (T58.setTop (mkF m 470 #[.val (.int p1), .val (.int p2), .val (.int p3), .val (.long q4), .second, .val (.int (own_pi (¬ ((p1 &&& (1 : Int32)) = (0 : Int32))))), .val (.int (own_pi (¬ ((p1 &&& (2 : Int32)) = (0 : Int32))))), .val (.int ((own_ushr p1 (2 : Int32)) &&& (3 : Int32))), .val (.ref a3), .val (.int ((p2 &&& (2147483647 : Int32)) % (10 : Int32))), .val (.int (own_ch p3)), .val .null, .val (.int (0 : Int32)), .val (.int e13), .val (.ref b56)] []))
        refine Gl.pre (fun _ k => XS.iconst X58.here hx rfl (hb hby at_470) k) ?_
        refine Gl.pre (fun _ k => XS.goto X58.here hx rfl (pc0 := 471) (pc' := 475) rfl (hb hby at_471) (by decide) (by decide) k) ?_
        show Gl p.tables e below PP (T58.setTop (mkF m 475 #[.val (.int p1), .val (.int p2), .val (.int p3), .val (.long q4), .second, .val (.int (own_pi (¬ ((p1 &&& (1 : Int32)) = (0 : Int32))))), .val (.int (own_pi (¬ ((p1 &&& (2 : Int32)) = (0 : Int32))))), .val (.int ((own_ushr p1 (2 : Int32)) &&& (3 : Int32))), .val (.ref a3), .val (.int ((p2 &&& (2147483647 : Int32)) % (10 : Int32))), .val (.int (own_ch p3)), .val .null, .val (.int (0 : Int32)), .val (.int e13), .val (.ref b56)] [(.int (1 : Int32))]))
        rw [hPP]
        refine own_finNW (Q := (Q0 Z p1 p2 p3 q4 cs fo h0 n0)) (Z := Z) (EL := own_EL) X58 hx hlk hS58 (Nat.le_refl _) Bd.returns (t := .boolean) (z' := (1 : Int32)) (by simp) (by decide) (hb hby at_475) ?_ (by rw [hh]; exact CR58.trans (CHv.at X58 hZ58 hEL CR58.1)) (by decide) (by decide)
        show Q0 Z p1 p2 p3 q4 cs fo h0 n0 _ T58.heap _
        exact ⟨rfl, N58⟩
      · refine Gl.pre (fun _ k => XS.icmpYes X3.here hx rfl (pc0 := 245) (pc' := 257) rfl (hb hby at_245) rfl (feq hc52).2 (by decide) (by decide) k) ?_
        show Gl p.tables e below PP (T3.setTop (mkF m 257 #[.val (.int p1), .val (.int p2), .val (.int p3), .val (.long q4), .second, .val (.int (own_pi (¬ ((p1 &&& (1 : Int32)) = (0 : Int32))))), .val (.int (own_pi (¬ ((p1 &&& (2 : Int32)) = (0 : Int32))))), .val (.int ((own_ushr p1 (2 : Int32)) &&& (3 : Int32))), .val (.ref a3), .val (.int ((p2 &&& (2147483647 : Int32)) % (10 : Int32))), .val (.int (own_ch p3)), .unset, .unset, .unset, .unset] []))
        refine Gl.pre (fun _ k => XS.iloadN X3.here hx rfl (hb hby at_257) rfl k) ?_
        refine Gl.pre (fun _ k => XS.sipush X3.here hx rfl (hb hby at_258) k) ?_
        refine Gl.pre (fun _ k => XS.iand X3.here hx rfl (hb hby at_261) rfl k) ?_
        show Gl p.tables e below PP (T3.setTop (mkF m 262 #[.val (.int p1), .val (.int p2), .val (.int p3), .val (.long q4), .second, .val (.int (own_pi (¬ ((p1 &&& (1 : Int32)) = (0 : Int32))))), .val (.int (own_pi (¬ ((p1 &&& (2 : Int32)) = (0 : Int32))))), .val (.int ((own_ushr p1 (2 : Int32)) &&& (3 : Int32))), .val (.ref a3), .val (.int ((p2 &&& (2147483647 : Int32)) % (10 : Int32))), .val (.int (own_ch p3)), .unset, .unset, .unset, .unset] [(.int (p3 &&& (256 : Int32)))]))
        by_cases hc59 : (p3 &&& (256 : Int32)) = (0 : Int32)
        · refine Gl.pre (fun _ k => XS.ifYes X3.here hx rfl (pc0 := 262) (pc' := 345) rfl (hb hby at_262) rfl ((if0 _ _).trans (teq hc59).1) (by decide) (by decide) k) ?_
          show Gl p.tables e below PP (T3.setTop (mkF m 345 #[.val (.int p1), .val (.int p2), .val (.int p3), .val (.long q4), .second, .val (.int (own_pi (¬ ((p1 &&& (1 : Int32)) = (0 : Int32))))), .val (.int (own_pi (¬ ((p1 &&& (2 : Int32)) = (0 : Int32))))), .val (.int ((own_ushr p1 (2 : Int32)) &&& (3 : Int32))), .val (.ref a3), .val (.int ((p2 &&& (2147483647 : Int32)) % (10 : Int32))), .val (.int (own_ch p3)), .unset, .unset, .unset, .unset] []))
          refine Gl.pre (fun _ k => XS.bipush X3.here hx rfl (hb hby at_345) k) ?_
          obtain ⟨T60, h60, k60, X60, e60, E60, A60, st60⟩ := newP X3 hx hZ3 (hw _ (List.mem_of_getElem? (i := 9) rfl)) e3 (g := (mkF m 347 #[.val (.int p1), .val (.int p2), .val (.int p3), .val (.long q4), .second, .val (.int (own_pi (¬ ((p1 &&& (1 : Int32)) = (0 : Int32))))), .val (.int (own_pi (¬ ((p1 &&& (2 : Int32)) = (0 : Int32))))), .val (.int ((own_ushr p1 (2 : Int32)) &&& (3 : Int32))), .val (.ref a3), .val (.int ((p2 &&& (2147483647 : Int32)) % (10 : Int32))), .val (.int (own_ch p3)), .unset, .unset, .unset, .unset] [(.int (9 : Int32))])) rfl (hb hby at_347) rfl (by decide) (cap := 9) (by decide) (by decide) (by decide) (by decide)
          obtain ⟨b60, g60⟩ : ∃ z, z = h3.size := ⟨_, rfl⟩
          rw [← g60] at A60 st60
          refine Gl.pre (fun _ k => st60 _ k) ?_
          have own_ne_b3_b60 : b3 ≠ b60 := by have q := Va3.lt; rw [g60]; exact Nat.ne_of_lt q
          have own_ne_b60_b3 : b60 ≠ b3 := own_ne_b3_b60.symm
          have own_ne_a3_b60 : a3 ≠ b60 := by have q := Es3.lt; rw [g60]; exact Nat.ne_of_lt q
          have own_ne_b60_a3 : b60 ≠ a3 := own_ne_a3_b60.symm
          have g_b60 : n0 ≤ b60 := Nat.le_trans Z3 (Nat.le_of_eq g60.symm)
          have Sf_b60 := Safe.ext E60 CR3.1 (Safe.new (Z := Z) (EL := own_EL) (vm := T3.vm) (Nat.le_of_eq g60.symm))
          have CR60 := CR3.trans (CHr.ext E60 CR3.1)
          have O_ := O_.ext E60
          have Va3 := Va3.ext E60
          have Es3 := Es3.ext E60
          have Fc3 := Fc3.ext E60
          have Fv3 := Fv3.ext E60
          have V_b3 := V_b3.ext E60
          have Z60 : n0 ≤ h60.size := Nat.le_trans Z3 E60.1
          have hk60 := Nat.le_trans hk3 E60.1
          have V_b60 : Bal Z h60 b60 .char [(0 : Int32), (0 : Int32), (0 : Int32), (0 : Int32), (0 : Int32), (0 : Int32), (0 : Int32), (0 : Int32), (0 : Int32)] := Bal.new (ty := .char) A60 (n := 9) (by decide) rfl
          refine Gl.pre (fun _ k => XS.dup X60.here hx rfl (hb hby at_349) rfl rfl k) ?_
          show Gl p.tables e below PP (T60.setTop (mkF m 350 #[.val (.int p1), .val (.int p2), .val (.int p3), .val (.long q4), .second, .val (.int (own_pi (¬ ((p1 &&& (1 : Int32)) = (0 : Int32))))), .val (.int (own_pi (¬ ((p1 &&& (2 : Int32)) = (0 : Int32))))), .val (.int ((own_ushr p1 (2 : Int32)) &&& (3 : Int32))), .val (.ref a3), .val (.int ((p2 &&& (2147483647 : Int32)) % (10 : Int32))), .val (.int (own_ch p3)), .unset, .unset, .unset, .unset] [(.ref b60), (.ref b60)]))
          refine Gl.pre (fun _ k => XS.iconst X60.here hx rfl (hb hby at_350) k) ?_
          refine Gl.pre (fun _ k => XS.bipush X60.here hx rfl (hb hby at_351) k) ?_
          obtain ⟨T61, h61, X61, e61, W61, V61, st61⟩ := own_stC X60 hx hZ3 e60 V_b60 (j := (0 : Int32)) (i := 0) (by decide) (by decide) (Nat.lt_of_lt_of_eq (by decide : 0 < 9) rfl) (g := (mkF m 353 #[.val (.int p1), .val (.int p2), .val (.int p3), .val (.long q4), .second, .val (.int (own_pi (¬ ((p1 &&& (1 : Int32)) = (0 : Int32))))), .val (.int (own_pi (¬ ((p1 &&& (2 : Int32)) = (0 : Int32))))), .val (.int ((own_ushr p1 (2 : Int32)) &&& (3 : Int32))), .val (.ref a3), .val (.int ((p2 &&& (2147483647 : Int32)) % (10 : Int32))), .val (.int (own_ch p3)), .unset, .unset, .unset, .unset] [(.int (65 : Int32)), (.int (0 : Int32)), (.ref b60), (.ref b60)])) rfl rfl (hb hby at_353)
          refine Gl.pre (fun _ k => st61 _ k) ?_
          have CR61 := CR60.trans (CHr.wr W61 Sf_b60 CR60.1)
          have Sf_b60 := Safe.wr W61 Sf_b60 CR60.1 Sf_b60
          have O_ := O_.wr W61 g_b60
          have Va3 := Va3.other W61 (own_ne_b3_b60)
          have Es3 := Es3.wr W61
          have Fc3 := Fc3.other W61 (Or.inl (own_ne_a3_b60))
          have Fv3 := Fv3.other W61 (Or.inl (own_ne_a3_b60))
          have V_b3 := V_b3.other W61 (own_ne_b3_b60)
          have Z61 : n0 ≤ h61.size := by rw [W61.size]; exact Z60
          have hk61 := Nat.le_trans hk60 (Nat.le_of_eq W61.size.symm)
          have N61 := Fr.snoc X61 N0 g_b60
          have V_b60 : Bal Z h61 b60 .char [(nar .char (65 : Int32)), (0 : Int32), (0 : Int32), (0 : Int32), (0 : Int32), (0 : Int32), (0 : Int32), (0 : Int32), (0 : Int32)] := V61
          show Gl p.tables e below PP (T61.setTop (mkF m 354 #[.val (.int p1), .val (.int p2), .val (.int p3), .val (.long q4), .second, .val (.int (own_pi (¬ ((p1 &&& (1 : Int32)) = (0 : Int32))))), .val (.int (own_pi (¬ ((p1 &&& (2 : Int32)) = (0 : Int32))))), .val (.int ((own_ushr p1 (2 : Int32)) &&& (3 : Int32))), .val (.ref a3), .val (.int ((p2 &&& (2147483647 : Int32)) % (10 : Int32))), .val (.int (own_ch p3)), .unset, .unset, .unset, .unset] [(.ref b60)]))
          refine Gl.pre (fun _ k => XS.dup X61.here hx rfl (hb hby at_354) rfl rfl k) ?_
          refine Gl.pre (fun _ k => XS.iconst X61.here hx rfl (hb hby at_355) k) ?_
          refine Gl.pre (fun _ k => XS.bipush X61.here hx rfl (hb hby at_356) k) ?_
          show Gl p.tables e below PP (T61.setTop (mkF m 358 #[.val (.int p1), .val (.int p2), .val (.int p3), .val (.long q4), .second, .val (.int (own_pi (¬ ((p1 &&& (1 : Int32)) = (0 : Int32))))), .val (.int (own_pi (¬ ((p1 &&& (2 : Int32)) = (0 : Int32))))), .val (.int ((own_ushr p1 (2 : Int32)) &&& (3 : Int32))), .val (.ref a3), .val (.int ((p2 &&& (2147483647 : Int32)) % (10 : Int32))), .val (.int (own_ch p3)), .unset, .unset, .unset, .unset] [(.int (70 : Int32)), (.int (1 : Int32)), (.ref b60), (.ref b60)]))
          obtain ⟨T62, h62, X62, e62, W62, V62, st62⟩ := own_stC X61 hx hZ3 e61 V_b60 (j := (1 : Int32)) (i := 1) (by decide) (by decide) (Nat.lt_of_lt_of_eq (by decide : 1 < 9) rfl) (g := (mkF m 358 #[.val (.int p1), .val (.int p2), .val (.int p3), .val (.long q4), .second, .val (.int (own_pi (¬ ((p1 &&& (1 : Int32)) = (0 : Int32))))), .val (.int (own_pi (¬ ((p1 &&& (2 : Int32)) = (0 : Int32))))), .val (.int ((own_ushr p1 (2 : Int32)) &&& (3 : Int32))), .val (.ref a3), .val (.int ((p2 &&& (2147483647 : Int32)) % (10 : Int32))), .val (.int (own_ch p3)), .unset, .unset, .unset, .unset] [(.int (70 : Int32)), (.int (1 : Int32)), (.ref b60), (.ref b60)])) rfl rfl (hb hby at_358)
          refine Gl.pre (fun _ k => st62 _ k) ?_
          have CR62 := CR61.trans (CHr.wr W62 Sf_b60 CR61.1)
          have Sf_b60 := Safe.wr W62 Sf_b60 CR61.1 Sf_b60
          have O_ := O_.wr W62 g_b60
          have Va3 := Va3.other W62 (own_ne_b3_b60)
          have Es3 := Es3.wr W62
          have Fc3 := Fc3.other W62 (Or.inl (own_ne_a3_b60))
          have Fv3 := Fv3.other W62 (Or.inl (own_ne_a3_b60))
          have V_b3 := V_b3.other W62 (own_ne_b3_b60)
          have Z62 : n0 ≤ h62.size := by rw [W62.size]; exact Z61
          have hk62 := Nat.le_trans hk61 (Nat.le_of_eq W62.size.symm)
          have N62 := Fr.snoc X62 N61 g_b60
          have V_b60 : Bal Z h62 b60 .char [(nar .char (65 : Int32)), (nar .char (70 : Int32)), (0 : Int32), (0 : Int32), (0 : Int32), (0 : Int32), (0 : Int32), (0 : Int32), (0 : Int32)] := V62
          refine Gl.pre (fun _ k => XS.dup X62.here hx rfl (hb hby at_359) rfl rfl k) ?_
          refine Gl.pre (fun _ k => XS.iconst X62.here hx rfl (hb hby at_360) k) ?_
          show Gl p.tables e below PP (T62.setTop (mkF m 361 #[.val (.int p1), .val (.int p2), .val (.int p3), .val (.long q4), .second, .val (.int (own_pi (¬ ((p1 &&& (1 : Int32)) = (0 : Int32))))), .val (.int (own_pi (¬ ((p1 &&& (2 : Int32)) = (0 : Int32))))), .val (.int ((own_ushr p1 (2 : Int32)) &&& (3 : Int32))), .val (.ref a3), .val (.int ((p2 &&& (2147483647 : Int32)) % (10 : Int32))), .val (.int (own_ch p3)), .unset, .unset, .unset, .unset] [(.int (2 : Int32)), (.ref b60), (.ref b60)]))
          refine Gl.pre (fun _ k => XS.bipush X62.here hx rfl (hb hby at_361) k) ?_
          obtain ⟨T63, h63, X63, e63, W63, V63, st63⟩ := own_stC X62 hx hZ3 e62 V_b60 (j := (2 : Int32)) (i := 2) (by decide) (by decide) (Nat.lt_of_lt_of_eq (by decide : 2 < 9) rfl) (g := (mkF m 363 #[.val (.int p1), .val (.int p2), .val (.int p3), .val (.long q4), .second, .val (.int (own_pi (¬ ((p1 &&& (1 : Int32)) = (0 : Int32))))), .val (.int (own_pi (¬ ((p1 &&& (2 : Int32)) = (0 : Int32))))), .val (.int ((own_ushr p1 (2 : Int32)) &&& (3 : Int32))), .val (.ref a3), .val (.int ((p2 &&& (2147483647 : Int32)) % (10 : Int32))), .val (.int (own_ch p3)), .unset, .unset, .unset, .unset] [(.int (84 : Int32)), (.int (2 : Int32)), (.ref b60), (.ref b60)])) rfl rfl (hb hby at_363)
          refine Gl.pre (fun _ k => st63 _ k) ?_
          have CR63 := CR62.trans (CHr.wr W63 Sf_b60 CR62.1)
          have Sf_b60 := Safe.wr W63 Sf_b60 CR62.1 Sf_b60
          have O_ := O_.wr W63 g_b60
          have Va3 := Va3.other W63 (own_ne_b3_b60)
          have Es3 := Es3.wr W63
          have Fc3 := Fc3.other W63 (Or.inl (own_ne_a3_b60))
          have Fv3 := Fv3.other W63 (Or.inl (own_ne_a3_b60))
          have V_b3 := V_b3.other W63 (own_ne_b3_b60)
          have Z63 : n0 ≤ h63.size := by rw [W63.size]; exact Z62
          have hk63 := Nat.le_trans hk62 (Nat.le_of_eq W63.size.symm)
          have N63 := Fr.snoc X63 N62 g_b60
          have V_b60 : Bal Z h63 b60 .char [(nar .char (65 : Int32)), (nar .char (70 : Int32)), (nar .char (84 : Int32)), (0 : Int32), (0 : Int32), (0 : Int32), (0 : Int32), (0 : Int32), (0 : Int32)] := V63
          refine Gl.pre (fun _ k => XS.dup X63.here hx rfl (hb hby at_364) rfl rfl k) ?_
          show Gl p.tables e below PP (T63.setTop (mkF m 365 #[.val (.int p1), .val (.int p2), .val (.int p3), .val (.long q4), .second, .val (.int (own_pi (¬ ((p1 &&& (1 : Int32)) = (0 : Int32))))), .val (.int (own_pi (¬ ((p1 &&& (2 : Int32)) = (0 : Int32))))), .val (.int ((own_ushr p1 (2 : Int32)) &&& (3 : Int32))), .val (.ref a3), .val (.int ((p2 &&& (2147483647 : Int32)) % (10 : Int32))), .val (.int (own_ch p3)), .unset, .unset, .unset, .unset] [(.ref b60), (.ref b60)]))
          refine Gl.pre (fun _ k => XS.iconst X63.here hx rfl (hb hby at_365) k) ?_
          refine Gl.pre (fun _ k => XS.bipush X63.here hx rfl (hb hby at_366) k) ?_
          obtain ⟨T64, h64, X64, e64, W64, V64, st64⟩ := own_stC X63 hx hZ3 e63 V_b60 (j := (3 : Int32)) (i := 3) (by decide) (by decide) (Nat.lt_of_lt_of_eq (by decide : 3 < 9) rfl) (g := (mkF m 368 #[.val (.int p1), .val (.int p2), .val (.int p3), .val (.long q4), .second, .val (.int (own_pi (¬ ((p1 &&& (1 : Int32)) = (0 : Int32))))), .val (.int (own_pi (¬ ((p1 &&& (2 : Int32)) = (0 : Int32))))), .val (.int ((own_ushr p1 (2 : Int32)) &&& (3 : Int32))), .val (.ref a3), .val (.int ((p2 &&& (2147483647 : Int32)) % (10 : Int32))), .val (.int (own_ch p3)), .unset, .unset, .unset, .unset] [(.int (69 : Int32)), (.int (3 : Int32)), (.ref b60), (.ref b60)])) rfl rfl (hb hby at_368)
          refine Gl.pre (fun _ k => st64 _ k) ?_
          have CR64 := CR63.trans (CHr.wr W64 Sf_b60 CR63.1)
          have Sf_b60 := Safe.wr W64 Sf_b60 CR63.1 Sf_b60
          have O_ := O_.wr W64 g_b60
          have Va3 := Va3.other W64 (own_ne_b3_b60)
          have Es3 := Es3.wr W64
          have Fc3 := Fc3.other W64 (Or.inl (own_ne_a3_b60))
          have Fv3 := Fv3.other W64 (Or.inl (own_ne_a3_b60))
          have V_b3 := V_b3.other W64 (own_ne_b3_b60)
          have Z64 : n0 ≤ h64.size := by rw [W64.size]; exact Z63
          have hk64 := Nat.le_trans hk63 (Nat.le_of_eq W64.size.symm)
          have N64 := Fr.snoc X64 N63 g_b60
          have V_b60 : Bal Z h64 b60 .char [(nar .char (65 : Int32)), (nar .char (70 : Int32)), (nar .char (84 : Int32)), (nar .char (69 : Int32)), (0 : Int32), (0 : Int32), (0 : Int32), (0 : Int32), (0 : Int32)] := V64
          show Gl p.tables e below PP (T64.setTop (mkF m 369 #[.val (.int p1), .val (.int p2), .val (.int p3), .val (.long q4), .second, .val (.int (own_pi (¬ ((p1 &&& (1 : Int32)) = (0 : Int32))))), .val (.int (own_pi (¬ ((p1 &&& (2 : Int32)) = (0 : Int32))))), .val (.int ((own_ushr p1 (2 : Int32)) &&& (3 : Int32))), .val (.ref a3), .val (.int ((p2 &&& (2147483647 : Int32)) % (10 : Int32))), .val (.int (own_ch p3)), .unset, .unset, .unset, .unset] [(.ref b60)]))
          refine Gl.pre (fun _ k => XS.dup X64.here hx rfl (hb hby at_369) rfl rfl k) ?_
          refine Gl.pre (fun _ k => XS.iconst X64.here hx rfl (hb hby at_370) k) ?_
          refine Gl.pre (fun _ k => XS.bipush X64.here hx rfl (hb hby at_371) k) ?_
          show Gl p.tables e below PP (T64.setTop (mkF m 373 #[.val (.int p1), .val (.int p2), .val (.int p3), .val (.long q4), .second, .val (.int (own_pi (¬ ((p1 &&& (1 : Int32)) = (0 : Int32))))), .val (.int (own_pi (¬ ((p1 &&& (2 : Int32)) = (0 : Int32))))), .val (.int ((own_ushr p1 (2 : Int32)) &&& (3 : Int32))), .val (.ref a3), .val (.int ((p2 &&& (2147483647 : Int32)) % (10 : Int32))), .val (.int (own_ch p3)), .unset, .unset, .unset, .unset] [(.int (82 : Int32)), (.int (4 : Int32)), (.ref b60), (.ref b60)]))
          obtain ⟨T65, h65, X65, e65, W65, V65, st65⟩ := own_stC X64 hx hZ3 e64 V_b60 (j := (4 : Int32)) (i := 4) (by decide) (by decide) (Nat.lt_of_lt_of_eq (by decide : 4 < 9) rfl) (g := (mkF m 373 #[.val (.int p1), .val (.int p2), .val (.int p3), .val (.long q4), .second, .val (.int (own_pi (¬ ((p1 &&& (1 : Int32)) = (0 : Int32))))), .val (.int (own_pi (¬ ((p1 &&& (2 : Int32)) = (0 : Int32))))), .val (.int ((own_ushr p1 (2 : Int32)) &&& (3 : Int32))), .val (.ref a3), .val (.int ((p2 &&& (2147483647 : Int32)) % (10 : Int32))), .val (.int (own_ch p3)), .unset, .unset, .unset, .unset] [(.int (82 : Int32)), (.int (4 : Int32)), (.ref b60), (.ref b60)])) rfl rfl (hb hby at_373)
          refine Gl.pre (fun _ k => st65 _ k) ?_
          have CR65 := CR64.trans (CHr.wr W65 Sf_b60 CR64.1)
          have Sf_b60 := Safe.wr W65 Sf_b60 CR64.1 Sf_b60
          have O_ := O_.wr W65 g_b60
          have Va3 := Va3.other W65 (own_ne_b3_b60)
          have Es3 := Es3.wr W65
          have Fc3 := Fc3.other W65 (Or.inl (own_ne_a3_b60))
          have Fv3 := Fv3.other W65 (Or.inl (own_ne_a3_b60))
          have V_b3 := V_b3.other W65 (own_ne_b3_b60)
          have Z65 : n0 ≤ h65.size := by rw [W65.size]; exact Z64
          have hk65 := Nat.le_trans hk64 (Nat.le_of_eq W65.size.symm)
          have N65 := Fr.snoc X65 N64 g_b60
          have V_b60 : Bal Z h65 b60 .char [(nar .char (65 : Int32)), (nar .char (70 : Int32)), (nar .char (84 : Int32)), (nar .char (69 : Int32)), (nar .char (82 : Int32)), (0 : Int32), (0 : Int32), (0 : Int32), (0 : Int32)] := V65
          refine Gl.pre (fun _ k => XS.dup X65.here hx rfl (hb hby at_374) rfl rfl k) ?_
          refine Gl.pre (fun _ k => XS.iconst X65.here hx rfl (hb hby at_375) k) ?_
          show Gl p.tables e below PP (T65.setTop (mkF m 376 #[.val (.int p1), .val (.int p2), .val (.int p3), .val (.long q4), .second, .val (.int (own_pi (¬ ((p1 &&& (1 : Int32)) = (0 : Int32))))), .val (.int (own_pi (¬ ((p1 &&& (2 : Int32)) = (0 : Int32))))), .val (.int ((own_ushr p1 (2 : Int32)) &&& (3 : Int32))), .val (.ref a3), .val (.int ((p2 &&& (2147483647 : Int32)) % (10 : Int32))), .val (.int (own_ch p3)), .unset, .unset, .unset, .unset] [(.int (5 : Int32)), (.ref b60), (.ref b60)]))
          refine Gl.pre (fun _ k => XS.bipush X65.here hx rfl (hb hby at_376) k) ?_
          obtain ⟨T66, h66, X66, e66, W66, V66, st66⟩ := own_stC X65 hx hZ3 e65 V_b60 (j := (5 : Int32)) (i := 5) (by decide) (by decide) (Nat.lt_of_lt_of_eq (by decide : 5 < 9) rfl) (g := (mkF m 378 #[.val (.int p1), .val (.int p2), .val (.int p3), .val (.long q4), .second, .val (.int (own_pi (¬ ((p1 &&& (1 : Int32)) = (0 : Int32))))), .val (.int (own_pi (¬ ((p1 &&& (2 : Int32)) = (0 : Int32))))), .val (.int ((own_ushr p1 (2 : Int32)) &&& (3 : Int32))), .val (.ref a3), .val (.int ((p2 &&& (2147483647 : Int32)) % (10 : Int32))), .val (.int (own_ch p3)), .unset, .unset, .unset, .unset] [(.int (95 : Int32)), (.int (5 : Int32)), (.ref b60), (.ref b60)])) rfl rfl (hb hby at_378)
          refine Gl.pre (fun _ k => st66 _ k) ?_
          have CR66 := CR65.trans (CHr.wr W66 Sf_b60 CR65.1)
          have Sf_b60 := Safe.wr W66 Sf_b60 CR65.1 Sf_b60
          have O_ := O_.wr W66 g_b60
          have Va3 := Va3.other W66 (own_ne_b3_b60)
          have Es3 := Es3.wr W66
          have Fc3 := Fc3.other W66 (Or.inl (own_ne_a3_b60))
          have Fv3 := Fv3.other W66 (Or.inl (own_ne_a3_b60))
          have V_b3 := V_b3.other W66 (own_ne_b3_b60)
          have Z66 : n0 ≤ h66.size := by rw [W66.size]; exact Z65
          have hk66 := Nat.le_trans hk65 (Nat.le_of_eq W66.size.symm)
          have N66 := Fr.snoc X66 N65 g_b60
          have V_b60 : Bal Z h66 b60 .char [(nar .char (65 : Int32)), (nar .char (70 : Int32)), (nar .char (84 : Int32)), (nar .char (69 : Int32)), (nar .char (82 : Int32)), (nar .char (95 : Int32)), (0 : Int32), (0 : Int32), (0 : Int32)] := V66
          refine Gl.pre (fun _ k => XS.dup X66.here hx rfl (hb hby at_379) rfl rfl k) ?_
          show Gl p.tables e below PP (T66.setTop (mkF m 380 #[.val (.int p1), .val (.int p2), .val (.int p3), .val (.long q4), .second, .val (.int (own_pi (¬ ((p1 &&& (1 : Int32)) = (0 : Int32))))), .val (.int (own_pi (¬ ((p1 &&& (2 : Int32)) = (0 : Int32))))), .val (.int ((own_ushr p1 (2 : Int32)) &&& (3 : Int32))), .val (.ref a3), .val (.int ((p2 &&& (2147483647 : Int32)) % (10 : Int32))), .val (.int (own_ch p3)), .unset, .unset, .unset, .unset] [(.ref b60), (.ref b60)]))
          refine Gl.pre (fun _ k => XS.bipush X66.here hx rfl (hb hby at_380) k) ?_
          refine Gl.pre (fun _ k => XS.bipush X66.here hx rfl (hb hby at_382) k) ?_
          obtain ⟨T67, h67, X67, e67, W67, V67, st67⟩ := own_stC X66 hx hZ3 e66 V_b60 (j := (6 : Int32)) (i := 6) (by decide) (by decide) (Nat.lt_of_lt_of_eq (by decide : 6 < 9) rfl) (g := (mkF m 384 #[.val (.int p1), .val (.int p2), .val (.int p3), .val (.long q4), .second, .val (.int (own_pi (¬ ((p1 &&& (1 : Int32)) = (0 : Int32))))), .val (.int (own_pi (¬ ((p1 &&& (2 : Int32)) = (0 : Int32))))), .val (.int ((own_ushr p1 (2 : Int32)) &&& (3 : Int32))), .val (.ref a3), .val (.int ((p2 &&& (2147483647 : Int32)) % (10 : Int32))), .val (.int (own_ch p3)), .unset, .unset, .unset, .unset] [(.int (83 : Int32)), (.int (6 : Int32)), (.ref b60), (.ref b60)])) rfl rfl (hb hby at_384)
          refine Gl.pre (fun _ k => st67 _ k) ?_
          have CR67 := CR66.trans (CHr.wr W67 Sf_b60 CR66.1)
          have Sf_b60 := Safe.wr W67 Sf_b60 CR66.1 Sf_b60
          have O_ := O_.wr W67 g_b60
          have Va3 := Va3.other W67 (own_ne_b3_b60)
          have Es3 := Es3.wr W67
          have Fc3 := Fc3.other W67 (Or.inl (own_ne_a3_b60))
          have Fv3 := Fv3.other W67 (Or.inl (own_ne_a3_b60))
          have V_b3 := V_b3.other W67 (own_ne_b3_b60)
          have Z67 : n0 ≤ h67.size := by rw [W67.size]; exact Z66
          have hk67 := Nat.le_trans hk66 (Nat.le_of_eq W67.size.symm)
          have N67 := Fr.snoc X67 N66 g_b60
          have V_b60 : Bal Z h67 b60 .char [(nar .char (65 : Int32)), (nar .char (70 : Int32)), (nar .char (84 : Int32)), (nar .char (69 : Int32)), (nar .char (82 : Int32)), (nar .char (95 : Int32)), (nar .char (83 : Int32)), (0 : Int32), (0 : Int32)] := V67
          show Gl p.tables e below PP (T67.setTop (mkF m 385 #[.val (.int p1), .val (.int p2), .val (.int p3), .val (.long q4), .second, .val (.int (own_pi (¬ ((p1 &&& (1 : Int32)) = (0 : Int32))))), .val (.int (own_pi (¬ ((p1 &&& (2 : Int32)) = (0 : Int32))))), .val (.int ((own_ushr p1 (2 : Int32)) &&& (3 : Int32))), .val (.ref a3), .val (.int ((p2 &&& (2147483647 : Int32)) % (10 : Int32))), .val (.int (own_ch p3)), .unset, .unset, .unset, .unset] [(.ref b60)]))
          refine Gl.pre (fun _ k => XS.dup X67.here hx rfl (hb hby at_385) rfl rfl k) ?_
          refine Gl.pre (fun _ k => XS.bipush X67.here hx rfl (hb hby at_386) k) ?_
          refine Gl.pre (fun _ k => XS.bipush X67.here hx rfl (hb hby at_388) k) ?_
          show Gl p.tables e below PP (T67.setTop (mkF m 390 #[.val (.int p1), .val (.int p2), .val (.int p3), .val (.long q4), .second, .val (.int (own_pi (¬ ((p1 &&& (1 : Int32)) = (0 : Int32))))), .val (.int (own_pi (¬ ((p1 &&& (2 : Int32)) = (0 : Int32))))), .val (.int ((own_ushr p1 (2 : Int32)) &&& (3 : Int32))), .val (.ref a3), .val (.int ((p2 &&& (2147483647 : Int32)) % (10 : Int32))), .val (.int (own_ch p3)), .unset, .unset, .unset, .unset] [(.int (89 : Int32)), (.int (7 : Int32)), (.ref b60), (.ref b60)]))
          obtain ⟨T68, h68, X68, e68, W68, V68, st68⟩ := own_stC X67 hx hZ3 e67 V_b60 (j := (7 : Int32)) (i := 7) (by decide) (by decide) (Nat.lt_of_lt_of_eq (by decide : 7 < 9) rfl) (g := (mkF m 390 #[.val (.int p1), .val (.int p2), .val (.int p3), .val (.long q4), .second, .val (.int (own_pi (¬ ((p1 &&& (1 : Int32)) = (0 : Int32))))), .val (.int (own_pi (¬ ((p1 &&& (2 : Int32)) = (0 : Int32))))), .val (.int ((own_ushr p1 (2 : Int32)) &&& (3 : Int32))), .val (.ref a3), .val (.int ((p2 &&& (2147483647 : Int32)) % (10 : Int32))), .val (.int (own_ch p3)), .unset, .unset, .unset, .unset] [(.int (89 : Int32)), (.int (7 : Int32)), (.ref b60), (.ref b60)])) rfl rfl (hb hby at_390)
          refine Gl.pre (fun _ k => st68 _ k) ?_
          have CR68 := CR67.trans (CHr.wr W68 Sf_b60 CR67.1)
          have Sf_b60 := Safe.wr W68 Sf_b60 CR67.1 Sf_b60
          have O_ := O_.wr W68 g_b60
          have Va3 := Va3.other W68 (own_ne_b3_b60)
          have Es3 := Es3.wr W68
          have Fc3 := Fc3.other W68 (Or.inl (own_ne_a3_b60))
          have Fv3 := Fv3.other W68 (Or.inl (own_ne_a3_b60))
          have V_b3 := V_b3.other W68 (own_ne_b3_b60)
          have Z68 : n0 ≤ h68.size := by rw [W68.size]; exact Z67
          have hk68 := Nat.le_trans hk67 (Nat.le_of_eq W68.size.symm)
          have N68 := Fr.snoc X68 N67 g_b60
          have V_b60 : Bal Z h68 b60 .char [(nar .char (65 : Int32)), (nar .char (70 : Int32)), (nar .char (84 : Int32)), (nar .char (69 : Int32)), (nar .char (82 : Int32)), (nar .char (95 : Int32)), (nar .char (83 : Int32)), (nar .char (89 : Int32)), (0 : Int32)] := V68
          refine Gl.pre (fun _ k => XS.dup X68.here hx rfl (hb hby at_391) rfl rfl k) ?_
          refine Gl.pre (fun _ k => XS.bipush X68.here hx rfl (hb hby at_392) k) ?_
          show Gl p.tables e below PP (T68.setTop (mkF m 394 #[.val (.int p1), .val (.int p2), .val (.int p3), .val (.long q4), .second, .val (.int (own_pi (¬ ((p1 &&& (1 : Int32)) = (0 : Int32))))), .val (.int (own_pi (¬ ((p1 &&& (2 : Int32)) = (0 : Int32))))), .val (.int ((own_ushr p1 (2 : Int32)) &&& (3 : Int32))), .val (.ref a3), .val (.int ((p2 &&& (2147483647 : Int32)) % (10 : Int32))), .val (.int (own_ch p3)), .unset, .unset, .unset, .unset] [(.int (8 : Int32)), (.ref b60), (.ref b60)]))
          refine Gl.pre (fun _ k => XS.bipush X68.here hx rfl (hb hby at_394) k) ?_
          obtain ⟨T69, h69, X69, e69, W69, V69, st69⟩ := own_stC X68 hx hZ3 e68 V_b60 (j := (8 : Int32)) (i := 8) (by decide) (by decide) (Nat.lt_of_lt_of_eq (by decide : 8 < 9) rfl) (g := (mkF m 396 #[.val (.int p1), .val (.int p2), .val (.int p3), .val (.long q4), .second, .val (.int (own_pi (¬ ((p1 &&& (1 : Int32)) = (0 : Int32))))), .val (.int (own_pi (¬ ((p1 &&& (2 : Int32)) = (0 : Int32))))), .val (.int ((own_ushr p1 (2 : Int32)) &&& (3 : Int32))), .val (.ref a3), .val (.int ((p2 &&& (2147483647 : Int32)) % (10 : Int32))), .val (.int (own_ch p3)), .unset, .unset, .unset, .unset] [(.int (78 : Int32)), (.int (8 : Int32)), (.ref b60), (.ref b60)])) rfl rfl (hb hby at_396)
          refine Gl.pre (fun _ k => st69 _ k) ?_
          have CR69 := CR68.trans (CHr.wr W69 Sf_b60 CR68.1)
          have Sf_b60 := Safe.wr W69 Sf_b60 CR68.1 Sf_b60
          have O_ := O_.wr W69 g_b60
          have Va3 := Va3.other W69 (own_ne_b3_b60)
          have Es3 := Es3.wr W69
          have Fc3 := Fc3.other W69 (Or.inl (own_ne_a3_b60))
          have Fv3 := Fv3.other W69 (Or.inl (own_ne_a3_b60))
          have V_b3 := V_b3.other W69 (own_ne_b3_b60)
          have Z69 : n0 ≤ h69.size := by rw [W69.size]; exact Z68
          have hk69 := Nat.le_trans hk68 (Nat.le_of_eq W69.size.symm)
          have N69 := Fr.snoc X69 N68 g_b60
          have V_b60 : Bal Z h69 b60 .char [(nar .char (65 : Int32)), (nar .char (70 : Int32)), (nar .char (84 : Int32)), (nar .char (69 : Int32)), (nar .char (82 : Int32)), (nar .char (95 : Int32)), (nar .char (83 : Int32)), (nar .char (89 : Int32)), (nar .char (78 : Int32))] := V69
          refine Gl.pre (fun _ k => XS.astore X69.here hx rfl (hb hby at_397) rfl rfl (l' := #[.val (.int p1), .val (.int p2), .val (.int p3), .val (.long q4), .second, .val (.int (own_pi (¬ ((p1 &&& (1 : Int32)) = (0 : Int32))))), .val (.int (own_pi (¬ ((p1 &&& (2 : Int32)) = (0 : Int32))))), .val (.int ((own_ushr p1 (2 : Int32)) &&& (3 : Int32))), .val (.ref a3), .val (.int ((p2 &&& (2147483647 : Int32)) % (10 : Int32))), .val (.int (own_ch p3)), .unset, .unset, .val (.ref b60), .unset]) rfl k) ?_
          show Gl p.tables e below PP (T69.setTop (mkF m 399 #[.val (.int p1), .val (.int p2), .val (.int p3), .val (.long q4), .second, .val (.int (own_pi (¬ ((p1 &&& (1 : Int32)) = (0 : Int32))))), .val (.int (own_pi (¬ ((p1 &&& (2 : Int32)) = (0 : Int32))))), .val (.int ((own_ushr p1 (2 : Int32)) &&& (3 : Int32))), .val (.ref a3), .val (.int ((p2 &&& (2147483647 : Int32)) % (10 : Int32))), .val (.int (own_ch p3)), .unset, .unset, .val (.ref b60), .unset] []))
          obtain ⟨T70, h70, X70, e70, E70, A70, D70, -, st70⟩ := newO X69 hx hZ3 hown3 (hw _ (List.mem_of_getElem? (i := 10) rfl)) (hw _ (List.mem_of_getElem? (i := 2) rfl)) (hw _ (List.mem_of_getElem? (i := 1) rfl)) e69 (g := (mkF m 399 #[.val (.int p1), .val (.int p2), .val (.int p3), .val (.long q4), .second, .val (.int (own_pi (¬ ((p1 &&& (1 : Int32)) = (0 : Int32))))), .val (.int (own_pi (¬ ((p1 &&& (2 : Int32)) = (0 : Int32))))), .val (.int ((own_ushr p1 (2 : Int32)) &&& (3 : Int32))), .val (.ref a3), .val (.int ((p2 &&& (2147483647 : Int32)) % (10 : Int32))), .val (.int (own_ch p3)), .unset, .unset, .val (.ref b60), .unset] [])) rfl (hb hby at_399) (by decide) (by decide)
          obtain ⟨b70, g70⟩ : ∃ z, z = h69.size := ⟨_, rfl⟩
          rw [← g70] at A70 D70 st70
          refine Gl.pre (fun _ k => st70 _ k) ?_
          have own_ne_b3_b70 : b3 ≠ b70 := by have q := Va3.lt; rw [g70]; exact Nat.ne_of_lt q
          have own_ne_b70_b3 : b70 ≠ b3 := own_ne_b3_b70.symm
          have own_ne_a3_b70 : a3 ≠ b70 := by have q := Es3.lt; rw [g70]; exact Nat.ne_of_lt q
          have own_ne_b70_a3 : b70 ≠ a3 := own_ne_a3_b70.symm
          have own_ne_b60_b70 : b60 ≠ b70 := by have q := V_b60.lt; rw [g70]; exact Nat.ne_of_lt q
          have own_ne_b70_b60 : b70 ≠ b60 := own_ne_b60_b70.symm
          have g_b70 : n0 ≤ b70 := Nat.le_trans Z69 (Nat.le_of_eq g70.symm)
          have Sf_b70 := Safe.ext E70 CR69.1 (Safe.new (Z := Z) (EL := own_EL) (vm := T3.vm) (Nat.le_of_eq g70.symm))
          have Sf_b60 := Safe.ext E70 CR69.1 Sf_b60
          have CR70 := CR69.trans (CHr.ext E70 CR69.1)
          have O_ := O_.ext E70
          have Va3 := Va3.ext E70
          have Es3 := Es3.ext E70
          have Fc3 := Fc3.ext E70
          have Fv3 := Fv3.ext E70
          have V_b3 := V_b3.ext E70
          have V_b60 := V_b60.ext E70
          have Z70 : n0 ≤ h70.size := Nat.le_trans Z69 E70.1
          have hk70 := Nat.le_trans hk69 E70.1
          have E_b70 := A70
          have F_value_b70 : Fld Z h70 b70 "java/lang/String" "value" "[B" .null := D70 (Or.inr (hw _ (List.mem_of_getElem? (i := 4) rfl))) (ty := (.array .byte)) (by decide)
          have F_coder_b70 : Fld Z h70 b70 "java/lang/String" "coder" "B" (.int (0 : Int32)) := D70 (Or.inr (hw _ (List.mem_of_getElem? (i := 5) rfl))) (ty := .byte) (by decide)
          refine Gl.pre (fun _ k => XS.dup X70.here hx rfl (hb hby at_402) rfl rfl k) ?_
          refine Gl.pre (fun _ k => XS.aload X70.here hx rfl (hb hby at_403) rfl rfl k) ?_
          show Gl p.tables e below PP (T70.setTop (mkF m 405 #[.val (.int p1), .val (.int p2), .val (.int p3), .val (.long q4), .second, .val (.int (own_pi (¬ ((p1 &&& (1 : Int32)) = (0 : Int32))))), .val (.int (own_pi (¬ ((p1 &&& (2 : Int32)) = (0 : Int32))))), .val (.int ((own_ushr p1 (2 : Int32)) &&& (3 : Int32))), .val (.ref a3), .val (.int ((p2 &&& (2147483647 : Int32)) % (10 : Int32))), .val (.int (own_ch p3)), .unset, .unset, .val (.ref b60), .unset] [(.ref b60), (.ref b70), (.ref b70)]))
          obtain ⟨kc71, KC71⟩ := own_arvC V_b60 (by intro x hx; simp only [List.mem_cons, List.not_mem_nil, or_false] at hx; rcases hx with rfl | rfl | rfl | rfl | rfl | rfl | rfl | rfl | rfl <;> exact fits_nar_char _) (by simp only [List.length_set, List.length_cons, List.length_nil]; decide)
          have hp71 : ∀ c ∈ [(nar .char (65 : Int32)), (nar .char (70 : Int32)), (nar .char (84 : Int32)), (nar .char (69 : Int32)), (nar .char (82 : Int32)), (nar .char (95 : Int32)), (nar .char (83 : Int32)), (nar .char (89 : Int32)), (nar .char (78 : Int32))], ¬ c < 0 ∧ ¬ (255 : Int32) < c := (by intro x hx; simp only [List.mem_cons, List.not_mem_nil, or_false] at hx; rcases hx with rfl | rfl | rfl | rfl | rfl | rfl | rfl | rfl | rfl <;> first | decide | exact own_ch255 _)
          obtain ⟨_, _, ⟨T72, L72, k72, n72⟩, -, X72, ⟨Lc72, hQ72, l72, y72, z72⟩, st72⟩ := X70.specialBack hx (y := (⟨"java/lang/String", "<init>", "([C)V"⟩ : MethodName)) rfl hown3 (mvT hZ3 (hw _ (List.mem_of_getElem? (i := 11) rfl))) (mvT hZ3 (hw _ (List.mem_of_getElem? (i := 12) rfl))) (mvT hZ3 (hw _ (List.mem_of_getElem? (i := 13) rfl))) (by decide) (StrChars.Road.backV (W := 1) hZ3 hws (kI := 4) (hw _ (List.mem_of_getElem? (i := 2) rfl)) (cs := [(nar .char (65 : Int32)), (nar .char (70 : Int32)), (nar .char (84 : Int32)), (nar .char (69 : Int32)), (nar .char (82 : Int32)), (nar .char (95 : Int32)), (nar .char (83 : Int32)), (nar .char (89 : Int32)), (nar .char (78 : Int32))]) (n := 9) g_b70 Z70 E_b70 F_value_b70 F_coder_b70 KC71 (SBC.ext O_.2) hcs (by first | rfl | simp) (by first | rfl | simp) (by decide) (by decide) hp71 rfl (by decide) (by decide)) (g := (mkF m 405 #[.val (.int p1), .val (.int p2), .val (.int p3), .val (.long q4), .second, .val (.int (own_pi (¬ ((p1 &&& (1 : Int32)) = (0 : Int32))))), .val (.int (own_pi (¬ ((p1 &&& (2 : Int32)) = (0 : Int32))))), .val (.int ((own_ushr p1 (2 : Int32)) &&& (3 : Int32))), .val (.ref a3), .val (.int ((p2 &&& (2147483647 : Int32)) % (10 : Int32))), .val (.int (own_ch p3)), .unset, .unset, .val (.ref b60), .unset] [(.ref b60), (.ref b70), (.ref b70)])) rfl (by rw [hml]; rfl) (Steps.refl _) (a := b70) (argsL := [(.ref b60)]) (rest := [(.ref b70)]) (lenOf pd_2 rfl) rfl (by show 2 * 0 + _ ≤ _; exact Nat.le_of_eq rfl) (hb hby at_405) (fun _ _ => ⟨rfl, e70, (by decide : 4 + 1 ≤ _), (by decide : 57 + 9 ≤ _)⟩)
          dsimp only [Pt.U, Pt.locs, Pt.cells, Pt.slots] at X72 l72 y72 z72 st72 hQ72
          subst l72 y72 z72
          obtain ⟨rfl, N72q, K72, Ex72, Fc72, tv72, kt72, -, hz72, hnx72, Fv72, Kt72⟩ := hQ72
          have N72 := Fr.app N69 N72q
          refine Gl.pre (fun _ k => st72.trans k) ?_
          have own_ne_a3_tv72 : a3 ≠ tv72 := Nat.ne_of_lt (Nat.lt_of_lt_of_le Es3.lt hz72)
          have own_ne_tv72_a3 := own_ne_a3_tv72.symm
          have own_ne_b3_tv72 : b3 ≠ tv72 := Nat.ne_of_lt (Nat.lt_of_lt_of_le V_b3.lt hz72)
          have own_ne_tv72_b3 := own_ne_b3_tv72.symm
          have own_ne_b60_tv72 : b60 ≠ tv72 := Nat.ne_of_lt (Nat.lt_of_lt_of_le V_b60.lt hz72)
          have own_ne_tv72_b60 := own_ne_b60_tv72.symm
          have own_ne_b70_tv72 : b70 ≠ tv72 := Nat.ne_of_lt (Nat.lt_of_lt_of_le E_b70.lt hz72)
          have own_ne_tv72_b70 := own_ne_b70_tv72.symm
          have g_tv72 : n0 ≤ tv72 := Nat.le_trans Z70 hz72
          have Sf_tv720 := Safe.new (Z := Z) (EL := own_EL) (vm := T3.vm) hz72
          have hs72 : ∀ x ∈ [b70], Safe Z own_EL _ _ x := (allS Sf_b70 all0)
          have Sf_b60 := Safe.keep K72 hs72 CR70.1 Sf_b60
          have Sf_b70 := Safe.keep K72 hs72 CR70.1 Sf_b70
          have CR72 := CR70.trans (CHr.keep K72 hs72 CR70.1)
          have O_ := O_.keep K72 (allS g_b70 all0)
          have Va3 := Va3.keep K72 (ninS (own_ne_b3_b70) nin0)
          have Es3 := Es3.keep K72
          have Fc3 := Fc3.keep K72 (ninS (own_ne_a3_b70) nin0)
          have Fv3 := Fv3.keep K72 (ninS (own_ne_a3_b70) nin0)
          have V_b3 := V_b3.keep K72 (ninS (own_ne_b3_b70) nin0)
          have V_b60 := V_b60.keep K72 (ninS (own_ne_b60_b70) nin0)
          have E_b70 := E_b70.keep K72
          have hk72 := Nat.le_trans hk70 K72.1
          have Z72 : n0 ≤ T72.heap.size := Nat.le_trans Z70 K72.1
          have F_value_b70 := Fv72
          have F_coder_b70 := Fc72
          refine Gl.pre (fun _ k => XS.astore X72.here hx rfl (hb hby at_408) rfl rfl (l' := #[.val (.int p1), .val (.int p2), .val (.int p3), .val (.long q4), .second, .val (.int (own_pi (¬ ((p1 &&& (1 : Int32)) = (0 : Int32))))), .val (.int (own_pi (¬ ((p1 &&& (2 : Int32)) = (0 : Int32))))), .val (.int ((own_ushr p1 (2 : Int32)) &&& (3 : Int32))), .val (.ref a3), .val (.int ((p2 &&& (2147483647 : Int32)) % (10 : Int32))), .val (.int (own_ch p3)), .val (.ref b70), .unset, .val (.ref b60), .unset]) rfl k) ?_
          refine Gl.pre (fun _ k => XS.iconst X72.here hx rfl (hb hby at_410) k) ?_
          show Gl p.tables e below PP (T72.setTop (mkF m 411 #[.val (.int p1), .val (.int p2), .val (.int p3), .val (.long q4), .second, .val (.int (own_pi (¬ ((p1 &&& (1 : Int32)) = (0 : Int32))))), .val (.int (own_pi (¬ ((p1 &&& (2 : Int32)) = (0 : Int32))))), .val (.int ((own_ushr p1 (2 : Int32)) &&& (3 : Int32))), .val (.ref a3), .val (.int ((p2 &&& (2147483647 : Int32)) % (10 : Int32))), .val (.int (own_ch p3)), .val (.ref b70), .unset, .val (.ref b60), .unset] [(.int (0 : Int32))]))
          refine Gl.pre (fun _ k => XS.istore X72.here hx rfl (hb hby at_411) rfl (l' := #[.val (.int p1), .val (.int p2), .val (.int p3), .val (.long q4), .second, .val (.int (own_pi (¬ ((p1 &&& (1 : Int32)) = (0 : Int32))))), .val (.int (own_pi (¬ ((p1 &&& (2 : Int32)) = (0 : Int32))))), .val (.int ((own_ushr p1 (2 : Int32)) &&& (3 : Int32))), .val (.ref a3), .val (.int ((p2 &&& (2147483647 : Int32)) % (10 : Int32))), .val (.int (own_ch p3)), .val (.ref b70), .val (.int (0 : Int32)), .val (.ref b60), .unset]) rfl k) ?_
          refine Gl.pre (fun _ k => XS.iconst X72.here hx rfl (hb hby at_413) k) ?_
          refine Gl.pre (fun _ k => XS.istore X72.here hx rfl (hb hby at_414) rfl (l' := #[.val (.int p1), .val (.int p2), .val (.int p3), .val (.long q4), .second, .val (.int (own_pi (¬ ((p1 &&& (1 : Int32)) = (0 : Int32))))), .val (.int (own_pi (¬ ((p1 &&& (2 : Int32)) = (0 : Int32))))), .val (.int ((own_ushr p1 (2 : Int32)) &&& (3 : Int32))), .val (.ref a3), .val (.int ((p2 &&& (2147483647 : Int32)) % (10 : Int32))), .val (.int (own_ch p3)), .val (.ref b70), .val (.int (0 : Int32)), .val (.int (0 : Int32)), .unset]) rfl k) ?_
          show Gl p.tables e below PP (T72.setTop (mkF m 416 #[.val (.int p1), .val (.int p2), .val (.int p3), .val (.long q4), .second, .val (.int (own_pi (¬ ((p1 &&& (1 : Int32)) = (0 : Int32))))), .val (.int (own_pi (¬ ((p1 &&& (2 : Int32)) = (0 : Int32))))), .val (.int ((own_ushr p1 (2 : Int32)) &&& (3 : Int32))), .val (.ref a3), .val (.int ((p2 &&& (2147483647 : Int32)) % (10 : Int32))), .val (.int (own_ch p3)), .val (.ref b70), .val (.int (0 : Int32)), .val (.int (0 : Int32)), .unset] []))
          suffices J73 : ∀ e13 : Int32, e13 = own_pi (¬ ((p1 &&& (1 : Int32)) = (0 : Int32)) ∧ ¬ ((p1 &&& (2 : Int32)) = (0 : Int32)) ∧ (False) ∧ ¬ (q4 < (1 : Int64))) → Gl p.tables e below PP (T72.setTop (mkF m 444 #[.val (.int p1), .val (.int p2), .val (.int p3), .val (.long q4), .second, .val (.int (own_pi (¬ ((p1 &&& (1 : Int32)) = (0 : Int32))))), .val (.int (own_pi (¬ ((p1 &&& (2 : Int32)) = (0 : Int32))))), .val (.int ((own_ushr p1 (2 : Int32)) &&& (3 : Int32))), .val (.ref a3), .val (.int ((p2 &&& (2147483647 : Int32)) % (10 : Int32))), .val (.int (own_ch p3)), .val (.ref b70), .val (.int (0 : Int32)), .val (.int e13), .unset] [])) by
            refine Gl.pre (fun _ k => XS.iload X72.here hx rfl (hb hby at_416) rfl k) ?_
            by_cases hc74 : ¬ ((p1 &&& (1 : Int32)) = (0 : Int32))
            · refine Gl.pre (fun _ k => XS.ifNo X72.here hx rfl (hb hby at_418) rfl ((if0 _ _).trans (feq (fun q => (own_pi0 (P := ¬ ((p1 &&& (1 : Int32)) = (0 : Int32)))).mp q hc74)).1) k) ?_
              show Gl p.tables e below PP (T72.setTop (mkF m 421 #[.val (.int p1), .val (.int p2), .val (.int p3), .val (.long q4), .second, .val (.int (own_pi (¬ ((p1 &&& (1 : Int32)) = (0 : Int32))))), .val (.int (own_pi (¬ ((p1 &&& (2 : Int32)) = (0 : Int32))))), .val (.int ((own_ushr p1 (2 : Int32)) &&& (3 : Int32))), .val (.ref a3), .val (.int ((p2 &&& (2147483647 : Int32)) % (10 : Int32))), .val (.int (own_ch p3)), .val (.ref b70), .val (.int (0 : Int32)), .val (.int (0 : Int32)), .unset] []))
              refine Gl.pre (fun _ k => XS.iload X72.here hx rfl (hb hby at_421) rfl k) ?_
              by_cases hc75 : ¬ ((p1 &&& (2 : Int32)) = (0 : Int32))
              · refine Gl.pre (fun _ k => XS.ifNo X72.here hx rfl (hb hby at_423) rfl ((if0 _ _).trans (feq (fun q => (own_pi0 (P := ¬ ((p1 &&& (2 : Int32)) = (0 : Int32)))).mp q hc75)).1) k) ?_
                show Gl p.tables e below PP (T72.setTop (mkF m 426 #[.val (.int p1), .val (.int p2), .val (.int p3), .val (.long q4), .second, .val (.int (own_pi (¬ ((p1 &&& (1 : Int32)) = (0 : Int32))))), .val (.int (own_pi (¬ ((p1 &&& (2 : Int32)) = (0 : Int32))))), .val (.int ((own_ushr p1 (2 : Int32)) &&& (3 : Int32))), .val (.ref a3), .val (.int ((p2 &&& (2147483647 : Int32)) % (10 : Int32))), .val (.int (own_ch p3)), .val (.ref b70), .val (.int (0 : Int32)), .val (.int (0 : Int32)), .unset] []))
                refine Gl.pre (fun _ k => XS.iload X72.here hx rfl (hb hby at_426) rfl k) ?_
                show Gl p.tables e below PP (T72.setTop (mkF m 428 #[.val (.int p1), .val (.int p2), .val (.int p3), .val (.long q4), .second, .val (.int (own_pi (¬ ((p1 &&& (1 : Int32)) = (0 : Int32))))), .val (.int (own_pi (¬ ((p1 &&& (2 : Int32)) = (0 : Int32))))), .val (.int ((own_ushr p1 (2 : Int32)) &&& (3 : Int32))), .val (.ref a3), .val (.int ((p2 &&& (2147483647 : Int32)) % (10 : Int32))), .val (.int (own_ch p3)), .val (.ref b70), .val (.int (0 : Int32)), .val (.int (0 : Int32)), .unset] [(.int (0 : Int32))]))
                refine Gl.pre (fun _ k => XS.ifYes X72.here hx rfl (pc0 := 428) (pc' := 444) rfl (hb hby at_428) rfl ((if0 _ _).trans (teq (show (0 : Int32) = (0 : Int32) from (by decide))).1) (by decide) (by decide) k) ?_
                show Gl p.tables e below PP (T72.setTop (mkF m 444 #[.val (.int p1), .val (.int p2), .val (.int p3), .val (.long q4), .second, .val (.int (own_pi (¬ ((p1 &&& (1 : Int32)) = (0 : Int32))))), .val (.int (own_pi (¬ ((p1 &&& (2 : Int32)) = (0 : Int32))))), .val (.int ((own_ushr p1 (2 : Int32)) &&& (3 : Int32))), .val (.ref a3), .val (.int ((p2 &&& (2147483647 : Int32)) % (10 : Int32))), .val (.int (own_ch p3)), .val (.ref b70), .val (.int (0 : Int32)), .val (.int (0 : Int32)), .unset] []))
                exact J73 _ ((own_pi_f (fun q => q.2.2.1)).symm)
              · refine Gl.pre (fun _ k => XS.ifYes X72.here hx rfl (pc0 := 423) (pc' := 444) rfl (hb hby at_423) rfl ((if0 _ _).trans (teq ((own_pi0 (P := ¬ ((p1 &&& (2 : Int32)) = (0 : Int32)))).mpr hc75)).1) (by decide) (by decide) k) ?_
                show Gl p.tables e below PP (T72.setTop (mkF m 444 #[.val (.int p1), .val (.int p2), .val (.int p3), .val (.long q4), .second, .val (.int (own_pi (¬ ((p1 &&& (1 : Int32)) = (0 : Int32))))), .val (.int (own_pi (¬ ((p1 &&& (2 : Int32)) = (0 : Int32))))), .val (.int ((own_ushr p1 (2 : Int32)) &&& (3 : Int32))), .val (.ref a3), .val (.int ((p2 &&& (2147483647 : Int32)) % (10 : Int32))), .val (.int (own_ch p3)), .val (.ref b70), .val (.int (0 : Int32)), .val (.int (0 : Int32)), .unset] []))
                exact J73 _ ((own_pi_f (fun q => hc75 q.2.1)).symm)
            · refine Gl.pre (fun _ k => XS.ifYes X72.here hx rfl (pc0 := 418) (pc' := 444) rfl (hb hby at_418) rfl ((if0 _ _).trans (teq ((own_pi0 (P := ¬ ((p1 &&& (1 : Int32)) = (0 : Int32)))).mpr hc74)).1) (by decide) (by decide) k) ?_
              show Gl p.tables e below PP (T72.setTop (mkF m 444 #[.val (.int p1), .val (.int p2), .val (.int p3), .val (.long q4), .second, .val (.int (own_pi (¬ ((p1 &&& (1 : Int32)) = (0 : Int32))))), .val (.int (own_pi (¬ ((p1 &&& (2 : Int32)) = (0 : Int32))))), .val (.int ((own_ushr p1 (2 : Int32)) &&& (3 : Int32))), .val (.ref a3), .val (.int ((p2 &&& (2147483647 : Int32)) % (10 : Int32))), .val (.int (own_ch p3)), .val (.ref b70), .val (.int (0 : Int32)), .val (.int (0 : Int32)), .unset] []))
              exact J73 _ ((own_pi_f (fun q => hc74 q.1)).symm)
          intro e13 he13
          show Gl p.tables e below PP (T72.setTop (mkF m 444 #[.val (.int p1), .val (.int p2), .val (.int p3), .val (.long q4), .second, .val (.int (own_pi (¬ ((p1 &&& (1 : Int32)) = (0 : Int32))))), .val (.int (own_pi (¬ ((p1 &&& (2 : Int32)) = (0 : Int32))))), .val (.int ((own_ushr p1 (2 : Int32)) &&& (3 : Int32))), .val (.ref a3), .val (.int ((p2 &&& (2147483647 : Int32)) % (10 : Int32))), .val (.int (own_ch p3)), .val (.ref b70), .val (.int (0 : Int32)), .val (.int e13), .unset] []))
          obtain ⟨T76, h76, X76, e76, E76, A76, D76, -, st76⟩ := newO X72 hx hZ3 hown3 (hw _ (List.mem_of_getElem? (i := 56) rfl)) (hw _ (List.mem_of_getElem? (i := 57) rfl)) (hw _ (List.mem_of_getElem? (i := 58) rfl)) rfl (g := (mkF m 444 #[.val (.int p1), .val (.int p2), .val (.int p3), .val (.long q4), .second, .val (.int (own_pi (¬ ((p1 &&& (1 : Int32)) = (0 : Int32))))), .val (.int (own_pi (¬ ((p1 &&& (2 : Int32)) = (0 : Int32))))), .val (.int ((own_ushr p1 (2 : Int32)) &&& (3 : Int32))), .val (.ref a3), .val (.int ((p2 &&& (2147483647 : Int32)) % (10 : Int32))), .val (.int (own_ch p3)), .val (.ref b70), .val (.int (0 : Int32)), .val (.int e13), .unset] [])) rfl (hb hby at_444) (by decide) (by decide)
          obtain ⟨b76, g76⟩ : ∃ z, z = T72.heap.size := ⟨_, rfl⟩
          rw [← g76] at A76 D76 st76
          refine Gl.pre (fun _ k => st76 _ k) ?_
          have own_ne_b3_b76 : b3 ≠ b76 := by have q := Va3.lt; rw [g76]; exact Nat.ne_of_lt q
          have own_ne_b76_b3 : b76 ≠ b3 := own_ne_b3_b76.symm
          have own_ne_a3_b76 : a3 ≠ b76 := by have q := Es3.lt; rw [g76]; exact Nat.ne_of_lt q
          have own_ne_b76_a3 : b76 ≠ a3 := own_ne_a3_b76.symm
          have own_ne_b60_b76 : b60 ≠ b76 := by have q := V_b60.lt; rw [g76]; exact Nat.ne_of_lt q
          have own_ne_b76_b60 : b76 ≠ b60 := own_ne_b60_b76.symm
          have own_ne_b70_b76 : b70 ≠ b76 := by have q := E_b70.lt; rw [g76]; exact Nat.ne_of_lt q
          have own_ne_b76_b70 : b76 ≠ b70 := own_ne_b70_b76.symm
          have own_ne_tv72_b76 : tv72 ≠ b76 := by have q := Kt72.lt; rw [g76]; exact Nat.ne_of_lt q
          have own_ne_b76_tv72 : b76 ≠ tv72 := own_ne_tv72_b76.symm
          have g_b76 : n0 ≤ b76 := Nat.le_trans Z72 (Nat.le_of_eq g76.symm)
          have Sf_b76 := Safe.ext E76 CR72.1 (Safe.new (Z := Z) (EL := own_EL) (vm := T3.vm) (Nat.le_of_eq g76.symm))
          have Sf_b60 := Safe.ext E76 CR72.1 Sf_b60
          have Sf_b70 := Safe.ext E76 CR72.1 Sf_b70
          have CR76 := CR72.trans (CHr.ext E76 CR72.1)
          have O_ := O_.ext E76
          have Va3 := Va3.ext E76
          have Es3 := Es3.ext E76
          have Fc3 := Fc3.ext E76
          have Fv3 := Fv3.ext E76
          have V_b3 := V_b3.ext E76
          have V_b60 := V_b60.ext E76
          have E_b70 := E_b70.ext E76
          have F_value_b70 := F_value_b70.ext E76
          have F_coder_b70 := F_coder_b70.ext E76
          have Kt72 := Kt72.ext E76
          have Z76 : n0 ≤ h76.size := Nat.le_trans Z72 E76.1
          have hk76 := Nat.le_trans hk72 E76.1
          have E_b76 := A76
          have F_enabled_b76 : Fld Z h76 b76 "com/example/anchorwatch/anchorwatch/model/SemiSync" "enabled" "Z" (.int (0 : Int32)) := D76 (Or.inr (hw _ (List.mem_of_getElem? (i := 69) rfl))) (ty := .boolean) (by decide)
          have F_waitPoint_b76 : Fld Z h76 b76 "com/example/anchorwatch/anchorwatch/model/SemiSync" "waitPoint" "Ljava/lang/String;" .null := D76 (Or.inr (hw _ (List.mem_of_getElem? (i := 71) rfl))) (ty := (.object "java/lang/String")) (by decide)
          have F_active_b76 : Fld Z h76 b76 "com/example/anchorwatch/anchorwatch/model/SemiSync" "active" "Z" (.int (0 : Int32)) := D76 (Or.inr (hw _ (List.mem_of_getElem? (i := 73) rfl))) (ty := .boolean) (by decide)
          have F_clients_b76 : Fld Z h76 b76 "com/example/anchorwatch/anchorwatch/model/SemiSync" "clients" "J" (.long (0 : Int64)) := D76 (Or.inr (hw _ (List.mem_of_getElem? (i := 75) rfl))) (ty := .long) (by decide)
          refine Gl.pre (fun _ k => XS.dup X76.here hx rfl (hb hby at_447) rfl rfl k) ?_
          refine Gl.pre (fun _ k => XS.iload X76.here hx rfl (hb hby at_448) rfl k) ?_
          show Gl p.tables e below PP (T76.setTop (mkF m 450 #[.val (.int p1), .val (.int p2), .val (.int p3), .val (.long q4), .second, .val (.int (own_pi (¬ ((p1 &&& (1 : Int32)) = (0 : Int32))))), .val (.int (own_pi (¬ ((p1 &&& (2 : Int32)) = (0 : Int32))))), .val (.int ((own_ushr p1 (2 : Int32)) &&& (3 : Int32))), .val (.ref a3), .val (.int ((p2 &&& (2147483647 : Int32)) % (10 : Int32))), .val (.int (own_ch p3)), .val (.ref b70), .val (.int (0 : Int32)), .val (.int e13), .unset] [(.int (own_pi (¬ ((p1 &&& (1 : Int32)) = (0 : Int32))))), (.ref b76), (.ref b76)]))
          refine Gl.pre (fun _ k => XS.aload X76.here hx rfl (hb hby at_450) rfl rfl k) ?_
          refine Gl.pre (fun _ k => XS.iload X76.here hx rfl (hb hby at_452) rfl k) ?_
          refine Gl.pre (fun _ k => XS.lloadN X76.here hx rfl (hb hby at_454) rfl k) ?_
          show Gl p.tables e below PP (T76.setTop (mkF m 455 #[.val (.int p1), .val (.int p2), .val (.int p3), .val (.long q4), .second, .val (.int (own_pi (¬ ((p1 &&& (1 : Int32)) = (0 : Int32))))), .val (.int (own_pi (¬ ((p1 &&& (2 : Int32)) = (0 : Int32))))), .val (.int ((own_ushr p1 (2 : Int32)) &&& (3 : Int32))), .val (.ref a3), .val (.int ((p2 &&& (2147483647 : Int32)) % (10 : Int32))), .val (.int (own_ch p3)), .val (.ref b70), .val (.int (0 : Int32)), .val (.int e13), .unset] [(.long q4), (.int (own_pi (¬ ((p1 &&& (2 : Int32)) = (0 : Int32))))), (.ref b70), (.int (own_pi (¬ ((p1 &&& (1 : Int32)) = (0 : Int32))))), (.ref b76), (.ref b76)]))
          obtain ⟨_, _, ⟨T77, L77, k77, n77⟩, -, X77, ⟨Lc77, hQ77, l77, y77, z77⟩, st77⟩ := X76.specialBack hx (y := (⟨"com/example/anchorwatch/anchorwatch/model/SemiSync", "<init>", "(ZLjava/lang/String;ZJ)V"⟩ : MethodName)) rfl hown3 (mvT hZ3 (hw _ (List.mem_of_getElem? (i := 59) rfl))) (mvT hZ3 (hw _ (List.mem_of_getElem? (i := 60) rfl))) (mvT hZ3 (hw _ (List.mem_of_getElem? (i := 61) rfl))) (by decide) (backOf (W := 1) (rmssS l Z a0 hw [] b76 (own_pi (¬ ((p1 &&& (1 : Int32)) = (0 : Int32)))) b70 (own_pi (¬ ((p1 &&& (2 : Int32)) = (0 : Int32)))) q4 h76 n0 Z76 E_b76 F_enabled_b76 F_waitPoint_b76 F_active_b76 F_clients_b76 g_b76 (own_pi01 _) (own_pi01 _)) hZ3 (hw _ (List.mem_of_getElem? (i := 61) rfl)) (hw _ (List.mem_of_getElem? (i := 58) rfl)) (by decide) (by decide)) (g := (mkF m 455 #[.val (.int p1), .val (.int p2), .val (.int p3), .val (.long q4), .second, .val (.int (own_pi (¬ ((p1 &&& (1 : Int32)) = (0 : Int32))))), .val (.int (own_pi (¬ ((p1 &&& (2 : Int32)) = (0 : Int32))))), .val (.int ((own_ushr p1 (2 : Int32)) &&& (3 : Int32))), .val (.ref a3), .val (.int ((p2 &&& (2147483647 : Int32)) % (10 : Int32))), .val (.int (own_ch p3)), .val (.ref b70), .val (.int (0 : Int32)), .val (.int e13), .unset] [(.long q4), (.int (own_pi (¬ ((p1 &&& (2 : Int32)) = (0 : Int32))))), (.ref b70), (.int (own_pi (¬ ((p1 &&& (1 : Int32)) = (0 : Int32))))), (.ref b76), (.ref b76)])) rfl (by rw [hml]; rfl) (Steps.refl _) (a := b76) (argsL := [(.int (own_pi (¬ ((p1 &&& (1 : Int32)) = (0 : Int32))))), (.ref b70), (.int (own_pi (¬ ((p1 &&& (2 : Int32)) = (0 : Int32))))), (.long q4)]) (rest := [(.ref b76)]) (lenOf pd_4 rfl) rfl (by show 2 * 0 + _ ≤ _; exact Nat.le_of_eq rfl) (hb hby at_455) (fun _ _ => ⟨rfl, e76, (by decide : 6 + 0 ≤ _), (by decide : 70 + 0 ≤ _)⟩)
          dsimp only [Pt.U, Pt.locs, Pt.cells, Pt.slots] at X77 l77 y77 z77 st77 hQ77
          subst l77 y77 z77
          obtain ⟨rfl, N77q, K77, Fenabled77, FwaitPoint77, Factive77, Fclients77⟩ := hQ77
          have N77 := Fr.app N72 N77q
          refine Gl.pre (fun _ k => st77.trans k) ?_
          have hs77 : ∀ x ∈ [b76], Safe Z own_EL _ _ x := (allS Sf_b76 all0)
          have Sf_b60 := Safe.keep K77 hs77 CR76.1 Sf_b60
          have Sf_b70 := Safe.keep K77 hs77 CR76.1 Sf_b70
          have Sf_b76 := Safe.keep K77 hs77 CR76.1 Sf_b76
          have CR77 := CR76.trans (CHr.keep K77 hs77 CR76.1)
          have O_ := O_.keep K77 (allS g_b76 all0)
          have Va3 := Va3.keep K77 (ninS (own_ne_b3_b76) nin0)
          have Es3 := Es3.keep K77
          have Fc3 := Fc3.keep K77 (ninS (own_ne_a3_b76) nin0)
          have Fv3 := Fv3.keep K77 (ninS (own_ne_a3_b76) nin0)
          have V_b3 := V_b3.keep K77 (ninS (own_ne_b3_b76) nin0)
          have V_b60 := V_b60.keep K77 (ninS (own_ne_b60_b76) nin0)
          have E_b70 := E_b70.keep K77
          have F_value_b70 := F_value_b70.keep K77 (ninS (own_ne_b70_b76) nin0)
          have F_coder_b70 := F_coder_b70.keep K77 (ninS (own_ne_b70_b76) nin0)
          have Kt72 := Kt72.keep K77 (ninS (own_ne_tv72_b76) nin0)
          have E_b76 := E_b76.keep K77
          have hk77 := Nat.le_trans hk76 K77.1
          have Z77 : n0 ≤ T77.heap.size := Nat.le_trans Z76 K77.1
          have F_enabled_b76 := Fenabled77
          have F_waitPoint_b76 := FwaitPoint77
          have F_active_b76 := Factive77
          have F_clients_b76 := Fclients77
          refine Gl.pre (fun _ k => XS.astore X77.here hx rfl (hb hby at_458) rfl rfl (l' := #[.val (.int p1), .val (.int p2), .val (.int p3), .val (.long q4), .second, .val (.int (own_pi (¬ ((p1 &&& (1 : Int32)) = (0 : Int32))))), .val (.int (own_pi (¬ ((p1 &&& (2 : Int32)) = (0 : Int32))))), .val (.int ((own_ushr p1 (2 : Int32)) &&& (3 : Int32))), .val (.ref a3), .val (.int ((p2 &&& (2147483647 : Int32)) % (10 : Int32))), .val (.int (own_ch p3)), .val (.ref b70), .val (.int (0 : Int32)), .val (.int e13), .val (.ref b76)]) rfl k) ?_
          refine Gl.pre (fun _ k => XS.aload X77.here hx rfl (hb hby at_460) rfl rfl k) ?_
          show Gl p.tables e below PP (T77.setTop (mkF m 462 #[.val (.int p1), .val (.int p2), .val (.int p3), .val (.long q4), .second, .val (.int (own_pi (¬ ((p1 &&& (1 : Int32)) = (0 : Int32))))), .val (.int (own_pi (¬ ((p1 &&& (2 : Int32)) = (0 : Int32))))), .val (.int ((own_ushr p1 (2 : Int32)) &&& (3 : Int32))), .val (.ref a3), .val (.int ((p2 &&& (2147483647 : Int32)) % (10 : Int32))), .val (.int (own_ch p3)), .val (.ref b70), .val (.int (0 : Int32)), .val (.int e13), .val (.ref b76)] [(.ref b76)]))
          obtain ⟨cq78, kq78, qa78, qb78, qc78⟩ := isOf hZ3 rfl E_b76
          obtain ⟨_, _, ⟨T78, L78, k78, n78⟩, -, X78, hS78c, hg78, ⟨Lc78, hQ78, l78, y78, z78, CR78c⟩, st78⟩ := X77.virtualBackS hx (y := (⟨"com/example/anchorwatch/anchorwatch/model/SemiSync", "lossless", "()Z"⟩ : MethodName)) (z := (⟨"com/example/anchorwatch/anchorwatch/model/SemiSync", "lossless", "()Z"⟩ : MethodName)) hown3 (mvT hZ3 (hw _ (List.mem_of_getElem? (i := 76) rfl))) (mvT hZ3 (hw _ (List.mem_of_getElem? (i := 77) rfl))) (notFace_of_selects (args := #[]) (mvT hZ3 (hw _ (List.mem_of_getElem? (i := 79) rfl)))) (mvT hZ3 (hw _ (List.mem_of_getElem? (i := 79) rfl))) (mvT hZ3 (hw _ (List.mem_of_getElem? (i := 78) rfl))) (by decide) (own_backH (W := 0) (rmloS l Z a0 hw [] b76 (own_pi (¬ ((p1 &&& (1 : Int32)) = (0 : Int32)))) (own_pi (¬ ((p1 &&& (2 : Int32)) = (0 : Int32)))) q4 cs b70 tv72 kt72 ([(nar .char (65 : Int32)), (nar .char (70 : Int32)), (nar .char (84 : Int32)), (nar .char (69 : Int32)), (nar .char (82 : Int32)), (nar .char (95 : Int32)), (nar .char (83 : Int32)), (nar .char (89 : Int32)), (nar .char (78 : Int32))]) _ T77.heap n0 Z77 F_enabled_b76 F_waitPoint_b76 F_active_b76 F_clients_b76 SBC hcs O_ E_b70 F_value_b70 F_coder_b70 Kt72 (by first | rfl | simp) hp71 (by simp only [List.length_set, List.length_cons, List.length_nil]; decide) hEL) hZ3 (hw _ (List.mem_of_getElem? (i := 80) rfl)) (hw _ (List.mem_of_getElem? (i := 58) rfl)) (by decide) (by decide) hEL CR77.1 all0) qa78 qc78 (g := (mkF m 462 #[.val (.int p1), .val (.int p2), .val (.int p3), .val (.long q4), .second, .val (.int (own_pi (¬ ((p1 &&& (1 : Int32)) = (0 : Int32))))), .val (.int (own_pi (¬ ((p1 &&& (2 : Int32)) = (0 : Int32))))), .val (.int ((own_ushr p1 (2 : Int32)) &&& (3 : Int32))), .val (.ref a3), .val (.int ((p2 &&& (2147483647 : Int32)) % (10 : Int32))), .val (.int (own_ch p3)), .val (.ref b70), .val (.int (0 : Int32)), .val (.int e13), .val (.ref b76)] [(.ref b76)])) rfl (by rw [hml]; rfl) (Steps.refl _) (argsL := []) (rest := []) (lenOf pd_5 rfl) rfl (by show 2 * 0 + _ ≤ _; exact Nat.le_of_eq rfl) (hb hby at_462) (fun _ _ => ⟨rfl, rfl, (by decide : 6 + 2 ≤ _), (by decide : 70 + 44 ≤ _)⟩)
          dsimp only [Pt.U, Pt.locs, Pt.cells, Pt.slots] at X78 l78 y78 z78 st78 hQ78 hS78c hg78 CR78c
          subst l78 y78 z78
          have X78 : Stand p l e room_1 (s.setVm T78.vm) m #[(.int p1), (.int p2), (.int p3), (.long q4)] below meth c T78 _ _ _ := X78
          have hS78 := foldS hS3 hk77 hS78c hg78
          have hZ78 : Z.Warmed39 (s.setVm T78.vm).vm := State.Warmed39.trans (t := s.setVm T3.vm) hZ3 hS78c.1
          have hown78 : (s.setVm T78.vm).vm.findClass "com/example/anchorwatch/anchorwatch/model/SemiSyncLosslessPinLaw" = some m.cls := by rw [show (s.setVm T78.vm).vm = T78.vm from rfl, hS78c.1.alike.findClass]; exact hown3
          have Sf_b60 := CR78c.safe V_b60.lt Sf_b60
          have Sf_b70 := CR78c.safe E_b70.lt Sf_b70
          have Sf_b76 := CR78c.safe E_b76.lt Sf_b76
          have CR78 := CR77.trans CR78c
          obtain ⟨rfl, N78q, K78⟩ := hQ78
          have N78 := Fr.app N77 N78q
          refine Gl.pre (fun _ k => st78.trans k) ?_
          have O_ := O_.keep K78 all0
          have Va3 := Va3.keep K78 nin0
          have Es3 := Es3.keep K78
          have Fc3 := Fc3.keep K78 nin0
          have Fv3 := Fv3.keep K78 nin0
          have V_b3 := V_b3.keep K78 nin0
          have V_b60 := V_b60.keep K78 nin0
          have E_b70 := E_b70.keep K78
          have F_value_b70 := F_value_b70.keep K78 nin0
          have F_coder_b70 := F_coder_b70.keep K78 nin0
          have Kt72 := Kt72.keep K78 nin0
          have E_b76 := E_b76.keep K78
          have F_enabled_b76 := F_enabled_b76.keep K78 nin0
          have F_waitPoint_b76 := F_waitPoint_b76.keep K78 nin0
          have F_active_b76 := F_active_b76.keep K78 nin0
          have F_clients_b76 := F_clients_b76.keep K78 nin0
          have Z78 : n0 ≤ T78.heap.size := Nat.le_trans Z77 K78.1
          refine Gl.pre (fun _ k => XS.iload X78.here hx rfl (hb hby at_465) rfl k) ?_
          refine Gl.pre (fun _ k => XS.icmpNo X78.here hx rfl (hb hby at_467) rfl (teq (show (own_pi (¬ ((own_pi (¬ ((p1 &&& (1 : Int32)) = (0 : Int32)))) = (0 : Int32)) ∧ own_AS = [(nar .char (65 : Int32)), (nar .char (70 : Int32)), (nar .char (84 : Int32)), (nar .char (69 : Int32)), (nar .char (82 : Int32)), (nar .char (95 : Int32)), (nar .char (83 : Int32)), (nar .char (89 : Int32)), (nar .char (78 : Int32))] ∧ ¬ ((own_pi (¬ ((p1 &&& (2 : Int32)) = (0 : Int32)))) = (0 : Int32)) ∧ ¬ (q4 < (1 : Int64)))) = e13 from (by rw [he13]; exact own_pi_eq (own_finF own_9)))).2 k) ?_
          show Gl p.tables e below PP (T78.setTop (mkF m 470 #[.val (.int p1), .val (.int p2), .val (.int p3), .val (.long q4), .second, .val (.int (own_pi (¬ ((p1 &&& (1 : Int32)) = (0 : Int32))))), .val (.int (own_pi (¬ ((p1 &&& (2 : Int32)) = (0 : Int32))))), .val (.int ((own_ushr p1 (2 : Int32)) &&& (3 : Int32))), .val (.ref a3), .val (.int ((p2 &&& (2147483647 : Int32)) % (10 : Int32))), .val (.int (own_ch p3)), .val (.ref b70), .val (.int (0 : Int32)), .val (.int e13), .val (.ref b76)] []))
          refine Gl.pre (fun _ k => XS.iconst X78.here hx rfl (hb hby at_470) k) ?_
          show Gl p.tables e below PP (T78.setTop (mkF m 471 #[.val (.int p1), .val (.int p2), .val (.int p3), .val (.long q4), .second, .val (.int (own_pi (¬ ((p1 &&& (1 : Int32)) = (0 : Int32))))), .val (.int (own_pi (¬ ((p1 &&& (2 : Int32)) = (0 : Int32))))), .val (.int ((own_ushr p1 (2 : Int32)) &&& (3 : Int32))), .val (.ref a3), .val (.int ((p2 &&& (2147483647 : Int32)) % (10 : Int32))), .val (.int (own_ch p3)), .val (.ref b70), .val (.int (0 : Int32)), .val (.int e13), .val (.ref b76)] [(.int (1 : Int32))]))
          refine Gl.pre (fun _ k => XS.goto X78.here hx rfl (pc0 := 471) (pc' := 475) rfl (hb hby at_471) (by decide) (by decide) k) ?_
          rw [hPP]
          refine own_finNW (Q := (Q0 Z p1 p2 p3 q4 cs fo h0 n0)) (Z := Z) (EL := own_EL) X78 hx hlk hS78 (Nat.le_refl _) Bd.returns (t := .boolean) (z' := (1 : Int32)) (by simp) (by decide) (hb hby at_475) ?_ (by rw [hh]; exact CR78.trans (CHv.at X78 hZ78 hEL CR78.1)) (by decide) (by decide)
          show Q0 Z p1 p2 p3 q4 cs fo h0 n0 _ T78.heap _
          exact ⟨rfl, N78⟩
        · refine Gl.pre (fun _ k => XS.ifNo X3.here hx rfl (hb hby at_262) rfl ((if0 _ _).trans (feq hc59).1) k) ?_
          show Gl p.tables e below PP (T3.setTop (mkF m 265 #[.val (.int p1), .val (.int p2), .val (.int p3), .val (.long q4), .second, .val (.int (own_pi (¬ ((p1 &&& (1 : Int32)) = (0 : Int32))))), .val (.int (own_pi (¬ ((p1 &&& (2 : Int32)) = (0 : Int32))))), .val (.int ((own_ushr p1 (2 : Int32)) &&& (3 : Int32))), .val (.ref a3), .val (.int ((p2 &&& (2147483647 : Int32)) % (10 : Int32))), .val (.int (own_ch p3)), .unset, .unset, .unset, .unset] []))
          refine Gl.pre (fun _ k => XS.bipush X3.here hx rfl (hb hby at_265) k) ?_
          obtain ⟨T79, h79, k79, X79, e79, E79, A79, st79⟩ := newP X3 hx hZ3 (hw _ (List.mem_of_getElem? (i := 9) rfl)) e3 (g := (mkF m 267 #[.val (.int p1), .val (.int p2), .val (.int p3), .val (.long q4), .second, .val (.int (own_pi (¬ ((p1 &&& (1 : Int32)) = (0 : Int32))))), .val (.int (own_pi (¬ ((p1 &&& (2 : Int32)) = (0 : Int32))))), .val (.int ((own_ushr p1 (2 : Int32)) &&& (3 : Int32))), .val (.ref a3), .val (.int ((p2 &&& (2147483647 : Int32)) % (10 : Int32))), .val (.int (own_ch p3)), .unset, .unset, .unset, .unset] [(.int (11 : Int32))])) rfl (hb hby at_267) rfl (by decide) (cap := 11) (by decide) (by decide) (by decide) (by decide)
          obtain ⟨b79, g79⟩ : ∃ z, z = h3.size := ⟨_, rfl⟩
          rw [← g79] at A79 st79
          refine Gl.pre (fun _ k => st79 _ k) ?_
          have own_ne_b3_b79 : b3 ≠ b79 := by have q := Va3.lt; rw [g79]; exact Nat.ne_of_lt q
          have own_ne_b79_b3 : b79 ≠ b3 := own_ne_b3_b79.symm
          have own_ne_a3_b79 : a3 ≠ b79 := by have q := Es3.lt; rw [g79]; exact Nat.ne_of_lt q
          have own_ne_b79_a3 : b79 ≠ a3 := own_ne_a3_b79.symm
          have g_b79 : n0 ≤ b79 := Nat.le_trans Z3 (Nat.le_of_eq g79.symm)
          have Sf_b79 := Safe.ext E79 CR3.1 (Safe.new (Z := Z) (EL := own_EL) (vm := T3.vm) (Nat.le_of_eq g79.symm))
          have CR79 := CR3.trans (CHr.ext E79 CR3.1)
          have O_ := O_.ext E79
          have Va3 := Va3.ext E79
          have Es3 := Es3.ext E79
          have Fc3 := Fc3.ext E79
          have Fv3 := Fv3.ext E79
          have V_b3 := V_b3.ext E79
          have Z79 : n0 ≤ h79.size := Nat.le_trans Z3 E79.1
          have hk79 := Nat.le_trans hk3 E79.1
          have V_b79 : Bal Z h79 b79 .char [(0 : Int32), (0 : Int32), (0 : Int32), (0 : Int32), (0 : Int32), (0 : Int32), (0 : Int32), (0 : Int32), (0 : Int32), (0 : Int32), (0 : Int32)] := Bal.new (ty := .char) A79 (n := 11) (by decide) rfl
          show Gl p.tables e below PP (T79.setTop (mkF m 269 #[.val (.int p1), .val (.int p2), .val (.int p3), .val (.long q4), .second, .val (.int (own_pi (¬ ((p1 &&& (1 : Int32)) = (0 : Int32))))), .val (.int (own_pi (¬ ((p1 &&& (2 : Int32)) = (0 : Int32))))), .val (.int ((own_ushr p1 (2 : Int32)) &&& (3 : Int32))), .val (.ref a3), .val (.int ((p2 &&& (2147483647 : Int32)) % (10 : Int32))), .val (.int (own_ch p3)), .unset, .unset, .unset, .unset] [(.ref b79)]))
          refine Gl.pre (fun _ k => XS.dup X79.here hx rfl (hb hby at_269) rfl rfl k) ?_
          refine Gl.pre (fun _ k => XS.iconst X79.here hx rfl (hb hby at_270) k) ?_
          refine Gl.pre (fun _ k => XS.bipush X79.here hx rfl (hb hby at_271) k) ?_
          show Gl p.tables e below PP (T79.setTop (mkF m 273 #[.val (.int p1), .val (.int p2), .val (.int p3), .val (.long q4), .second, .val (.int (own_pi (¬ ((p1 &&& (1 : Int32)) = (0 : Int32))))), .val (.int (own_pi (¬ ((p1 &&& (2 : Int32)) = (0 : Int32))))), .val (.int ((own_ushr p1 (2 : Int32)) &&& (3 : Int32))), .val (.ref a3), .val (.int ((p2 &&& (2147483647 : Int32)) % (10 : Int32))), .val (.int (own_ch p3)), .unset, .unset, .unset, .unset] [(.int (65 : Int32)), (.int (0 : Int32)), (.ref b79), (.ref b79)]))
          obtain ⟨T80, h80, X80, e80, W80, V80, st80⟩ := own_stC X79 hx hZ3 e79 V_b79 (j := (0 : Int32)) (i := 0) (by decide) (by decide) (Nat.lt_of_lt_of_eq (by decide : 0 < 11) rfl) (g := (mkF m 273 #[.val (.int p1), .val (.int p2), .val (.int p3), .val (.long q4), .second, .val (.int (own_pi (¬ ((p1 &&& (1 : Int32)) = (0 : Int32))))), .val (.int (own_pi (¬ ((p1 &&& (2 : Int32)) = (0 : Int32))))), .val (.int ((own_ushr p1 (2 : Int32)) &&& (3 : Int32))), .val (.ref a3), .val (.int ((p2 &&& (2147483647 : Int32)) % (10 : Int32))), .val (.int (own_ch p3)), .unset, .unset, .unset, .unset] [(.int (65 : Int32)), (.int (0 : Int32)), (.ref b79), (.ref b79)])) rfl rfl (hb hby at_273)
          refine Gl.pre (fun _ k => st80 _ k) ?_
          have CR80 := CR79.trans (CHr.wr W80 Sf_b79 CR79.1)
          have Sf_b79 := Safe.wr W80 Sf_b79 CR79.1 Sf_b79
          have O_ := O_.wr W80 g_b79
          have Va3 := Va3.other W80 (own_ne_b3_b79)
          have Es3 := Es3.wr W80
          have Fc3 := Fc3.other W80 (Or.inl (own_ne_a3_b79))
          have Fv3 := Fv3.other W80 (Or.inl (own_ne_a3_b79))
          have V_b3 := V_b3.other W80 (own_ne_b3_b79)
          have Z80 : n0 ≤ h80.size := by rw [W80.size]; exact Z79
          have hk80 := Nat.le_trans hk79 (Nat.le_of_eq W80.size.symm)
          have N80 := Fr.snoc X80 N0 g_b79
          have V_b79 : Bal Z h80 b79 .char [(nar .char (65 : Int32)), (0 : Int32), (0 : Int32), (0 : Int32), (0 : Int32), (0 : Int32), (0 : Int32), (0 : Int32), (0 : Int32), (0 : Int32), (0 : Int32)] := V80
          refine Gl.pre (fun _ k => XS.dup X80.here hx rfl (hb hby at_274) rfl rfl k) ?_
          refine Gl.pre (fun _ k => XS.iconst X80.here hx rfl (hb hby at_275) k) ?_
          show Gl p.tables e below PP (T80.setTop (mkF m 276 #[.val (.int p1), .val (.int p2), .val (.int p3), .val (.long q4), .second, .val (.int (own_pi (¬ ((p1 &&& (1 : Int32)) = (0 : Int32))))), .val (.int (own_pi (¬ ((p1 &&& (2 : Int32)) = (0 : Int32))))), .val (.int ((own_ushr p1 (2 : Int32)) &&& (3 : Int32))), .val (.ref a3), .val (.int ((p2 &&& (2147483647 : Int32)) % (10 : Int32))), .val (.int (own_ch p3)), .unset, .unset, .unset, .unset] [(.int (1 : Int32)), (.ref b79), (.ref b79)]))
          refine Gl.pre (fun _ k => XS.bipush X80.here hx rfl (hb hby at_276) k) ?_
          obtain ⟨T81, h81, X81, e81, W81, V81, st81⟩ := own_stC X80 hx hZ3 e80 V_b79 (j := (1 : Int32)) (i := 1) (by decide) (by decide) (Nat.lt_of_lt_of_eq (by decide : 1 < 11) rfl) (g := (mkF m 278 #[.val (.int p1), .val (.int p2), .val (.int p3), .val (.long q4), .second, .val (.int (own_pi (¬ ((p1 &&& (1 : Int32)) = (0 : Int32))))), .val (.int (own_pi (¬ ((p1 &&& (2 : Int32)) = (0 : Int32))))), .val (.int ((own_ushr p1 (2 : Int32)) &&& (3 : Int32))), .val (.ref a3), .val (.int ((p2 &&& (2147483647 : Int32)) % (10 : Int32))), .val (.int (own_ch p3)), .unset, .unset, .unset, .unset] [(.int (70 : Int32)), (.int (1 : Int32)), (.ref b79), (.ref b79)])) rfl rfl (hb hby at_278)
          refine Gl.pre (fun _ k => st81 _ k) ?_
          have CR81 := CR80.trans (CHr.wr W81 Sf_b79 CR80.1)
          have Sf_b79 := Safe.wr W81 Sf_b79 CR80.1 Sf_b79
          have O_ := O_.wr W81 g_b79
          have Va3 := Va3.other W81 (own_ne_b3_b79)
          have Es3 := Es3.wr W81
          have Fc3 := Fc3.other W81 (Or.inl (own_ne_a3_b79))
          have Fv3 := Fv3.other W81 (Or.inl (own_ne_a3_b79))
          have V_b3 := V_b3.other W81 (own_ne_b3_b79)
          have Z81 : n0 ≤ h81.size := by rw [W81.size]; exact Z80
          have hk81 := Nat.le_trans hk80 (Nat.le_of_eq W81.size.symm)
          have N81 := Fr.snoc X81 N80 g_b79
          have V_b79 : Bal Z h81 b79 .char [(nar .char (65 : Int32)), (nar .char (70 : Int32)), (0 : Int32), (0 : Int32), (0 : Int32), (0 : Int32), (0 : Int32), (0 : Int32), (0 : Int32), (0 : Int32), (0 : Int32)] := V81
          refine Gl.pre (fun _ k => XS.dup X81.here hx rfl (hb hby at_279) rfl rfl k) ?_
          show Gl p.tables e below PP (T81.setTop (mkF m 280 #[.val (.int p1), .val (.int p2), .val (.int p3), .val (.long q4), .second, .val (.int (own_pi (¬ ((p1 &&& (1 : Int32)) = (0 : Int32))))), .val (.int (own_pi (¬ ((p1 &&& (2 : Int32)) = (0 : Int32))))), .val (.int ((own_ushr p1 (2 : Int32)) &&& (3 : Int32))), .val (.ref a3), .val (.int ((p2 &&& (2147483647 : Int32)) % (10 : Int32))), .val (.int (own_ch p3)), .unset, .unset, .unset, .unset] [(.ref b79), (.ref b79)]))
          refine Gl.pre (fun _ k => XS.iconst X81.here hx rfl (hb hby at_280) k) ?_
          refine Gl.pre (fun _ k => XS.bipush X81.here hx rfl (hb hby at_281) k) ?_
          obtain ⟨T82, h82, X82, e82, W82, V82, st82⟩ := own_stC X81 hx hZ3 e81 V_b79 (j := (2 : Int32)) (i := 2) (by decide) (by decide) (Nat.lt_of_lt_of_eq (by decide : 2 < 11) rfl) (g := (mkF m 283 #[.val (.int p1), .val (.int p2), .val (.int p3), .val (.long q4), .second, .val (.int (own_pi (¬ ((p1 &&& (1 : Int32)) = (0 : Int32))))), .val (.int (own_pi (¬ ((p1 &&& (2 : Int32)) = (0 : Int32))))), .val (.int ((own_ushr p1 (2 : Int32)) &&& (3 : Int32))), .val (.ref a3), .val (.int ((p2 &&& (2147483647 : Int32)) % (10 : Int32))), .val (.int (own_ch p3)), .unset, .unset, .unset, .unset] [(.int (84 : Int32)), (.int (2 : Int32)), (.ref b79), (.ref b79)])) rfl rfl (hb hby at_283)
          refine Gl.pre (fun _ k => st82 _ k) ?_
          have CR82 := CR81.trans (CHr.wr W82 Sf_b79 CR81.1)
          have Sf_b79 := Safe.wr W82 Sf_b79 CR81.1 Sf_b79
          have O_ := O_.wr W82 g_b79
          have Va3 := Va3.other W82 (own_ne_b3_b79)
          have Es3 := Es3.wr W82
          have Fc3 := Fc3.other W82 (Or.inl (own_ne_a3_b79))
          have Fv3 := Fv3.other W82 (Or.inl (own_ne_a3_b79))
          have V_b3 := V_b3.other W82 (own_ne_b3_b79)
          have Z82 : n0 ≤ h82.size := by rw [W82.size]; exact Z81
          have hk82 := Nat.le_trans hk81 (Nat.le_of_eq W82.size.symm)
          have N82 := Fr.snoc X82 N81 g_b79
          have V_b79 : Bal Z h82 b79 .char [(nar .char (65 : Int32)), (nar .char (70 : Int32)), (nar .char (84 : Int32)), (0 : Int32), (0 : Int32), (0 : Int32), (0 : Int32), (0 : Int32), (0 : Int32), (0 : Int32), (0 : Int32)] := V82
          show Gl p.tables e below PP (T82.setTop (mkF m 284 #[.val (.int p1), .val (.int p2), .val (.int p3), .val (.long q4), .second, .val (.int (own_pi (¬ ((p1 &&& (1 : Int32)) = (0 : Int32))))), .val (.int (own_pi (¬ ((p1 &&& (2 : Int32)) = (0 : Int32))))), .val (.int ((own_ushr p1 (2 : Int32)) &&& (3 : Int32))), .val (.ref a3), .val (.int ((p2 &&& (2147483647 : Int32)) % (10 : Int32))), .val (.int (own_ch p3)), .unset, .unset, .unset, .unset] [(.ref b79)]))
          refine Gl.pre (fun _ k => XS.dup X82.here hx rfl (hb hby at_284) rfl rfl k) ?_
          refine Gl.pre (fun _ k => XS.iconst X82.here hx rfl (hb hby at_285) k) ?_
          refine Gl.pre (fun _ k => XS.bipush X82.here hx rfl (hb hby at_286) k) ?_
          show Gl p.tables e below PP (T82.setTop (mkF m 288 #[.val (.int p1), .val (.int p2), .val (.int p3), .val (.long q4), .second, .val (.int (own_pi (¬ ((p1 &&& (1 : Int32)) = (0 : Int32))))), .val (.int (own_pi (¬ ((p1 &&& (2 : Int32)) = (0 : Int32))))), .val (.int ((own_ushr p1 (2 : Int32)) &&& (3 : Int32))), .val (.ref a3), .val (.int ((p2 &&& (2147483647 : Int32)) % (10 : Int32))), .val (.int (own_ch p3)), .unset, .unset, .unset, .unset] [(.int (69 : Int32)), (.int (3 : Int32)), (.ref b79), (.ref b79)]))
          obtain ⟨T83, h83, X83, e83, W83, V83, st83⟩ := own_stC X82 hx hZ3 e82 V_b79 (j := (3 : Int32)) (i := 3) (by decide) (by decide) (Nat.lt_of_lt_of_eq (by decide : 3 < 11) rfl) (g := (mkF m 288 #[.val (.int p1), .val (.int p2), .val (.int p3), .val (.long q4), .second, .val (.int (own_pi (¬ ((p1 &&& (1 : Int32)) = (0 : Int32))))), .val (.int (own_pi (¬ ((p1 &&& (2 : Int32)) = (0 : Int32))))), .val (.int ((own_ushr p1 (2 : Int32)) &&& (3 : Int32))), .val (.ref a3), .val (.int ((p2 &&& (2147483647 : Int32)) % (10 : Int32))), .val (.int (own_ch p3)), .unset, .unset, .unset, .unset] [(.int (69 : Int32)), (.int (3 : Int32)), (.ref b79), (.ref b79)])) rfl rfl (hb hby at_288)
          refine Gl.pre (fun _ k => st83 _ k) ?_
          have CR83 := CR82.trans (CHr.wr W83 Sf_b79 CR82.1)
          have Sf_b79 := Safe.wr W83 Sf_b79 CR82.1 Sf_b79
          have O_ := O_.wr W83 g_b79
          have Va3 := Va3.other W83 (own_ne_b3_b79)
          have Es3 := Es3.wr W83
          have Fc3 := Fc3.other W83 (Or.inl (own_ne_a3_b79))
          have Fv3 := Fv3.other W83 (Or.inl (own_ne_a3_b79))
          have V_b3 := V_b3.other W83 (own_ne_b3_b79)
          have Z83 : n0 ≤ h83.size := by rw [W83.size]; exact Z82
          have hk83 := Nat.le_trans hk82 (Nat.le_of_eq W83.size.symm)
          have N83 := Fr.snoc X83 N82 g_b79
          have V_b79 : Bal Z h83 b79 .char [(nar .char (65 : Int32)), (nar .char (70 : Int32)), (nar .char (84 : Int32)), (nar .char (69 : Int32)), (0 : Int32), (0 : Int32), (0 : Int32), (0 : Int32), (0 : Int32), (0 : Int32), (0 : Int32)] := V83
          refine Gl.pre (fun _ k => XS.dup X83.here hx rfl (hb hby at_289) rfl rfl k) ?_
          refine Gl.pre (fun _ k => XS.iconst X83.here hx rfl (hb hby at_290) k) ?_
          show Gl p.tables e below PP (T83.setTop (mkF m 291 #[.val (.int p1), .val (.int p2), .val (.int p3), .val (.long q4), .second, .val (.int (own_pi (¬ ((p1 &&& (1 : Int32)) = (0 : Int32))))), .val (.int (own_pi (¬ ((p1 &&& (2 : Int32)) = (0 : Int32))))), .val (.int ((own_ushr p1 (2 : Int32)) &&& (3 : Int32))), .val (.ref a3), .val (.int ((p2 &&& (2147483647 : Int32)) % (10 : Int32))), .val (.int (own_ch p3)), .unset, .unset, .unset, .unset] [(.int (4 : Int32)), (.ref b79), (.ref b79)]))
          refine Gl.pre (fun _ k => XS.bipush X83.here hx rfl (hb hby at_291) k) ?_
          obtain ⟨T84, h84, X84, e84, W84, V84, st84⟩ := own_stC X83 hx hZ3 e83 V_b79 (j := (4 : Int32)) (i := 4) (by decide) (by decide) (Nat.lt_of_lt_of_eq (by decide : 4 < 11) rfl) (g := (mkF m 293 #[.val (.int p1), .val (.int p2), .val (.int p3), .val (.long q4), .second, .val (.int (own_pi (¬ ((p1 &&& (1 : Int32)) = (0 : Int32))))), .val (.int (own_pi (¬ ((p1 &&& (2 : Int32)) = (0 : Int32))))), .val (.int ((own_ushr p1 (2 : Int32)) &&& (3 : Int32))), .val (.ref a3), .val (.int ((p2 &&& (2147483647 : Int32)) % (10 : Int32))), .val (.int (own_ch p3)), .unset, .unset, .unset, .unset] [(.int (82 : Int32)), (.int (4 : Int32)), (.ref b79), (.ref b79)])) rfl rfl (hb hby at_293)
          refine Gl.pre (fun _ k => st84 _ k) ?_
          have CR84 := CR83.trans (CHr.wr W84 Sf_b79 CR83.1)
          have Sf_b79 := Safe.wr W84 Sf_b79 CR83.1 Sf_b79
          have O_ := O_.wr W84 g_b79
          have Va3 := Va3.other W84 (own_ne_b3_b79)
          have Es3 := Es3.wr W84
          have Fc3 := Fc3.other W84 (Or.inl (own_ne_a3_b79))
          have Fv3 := Fv3.other W84 (Or.inl (own_ne_a3_b79))
          have V_b3 := V_b3.other W84 (own_ne_b3_b79)
          have Z84 : n0 ≤ h84.size := by rw [W84.size]; exact Z83
          have hk84 := Nat.le_trans hk83 (Nat.le_of_eq W84.size.symm)
          have N84 := Fr.snoc X84 N83 g_b79
          have V_b79 : Bal Z h84 b79 .char [(nar .char (65 : Int32)), (nar .char (70 : Int32)), (nar .char (84 : Int32)), (nar .char (69 : Int32)), (nar .char (82 : Int32)), (0 : Int32), (0 : Int32), (0 : Int32), (0 : Int32), (0 : Int32), (0 : Int32)] := V84
          refine Gl.pre (fun _ k => XS.dup X84.here hx rfl (hb hby at_294) rfl rfl k) ?_
          show Gl p.tables e below PP (T84.setTop (mkF m 295 #[.val (.int p1), .val (.int p2), .val (.int p3), .val (.long q4), .second, .val (.int (own_pi (¬ ((p1 &&& (1 : Int32)) = (0 : Int32))))), .val (.int (own_pi (¬ ((p1 &&& (2 : Int32)) = (0 : Int32))))), .val (.int ((own_ushr p1 (2 : Int32)) &&& (3 : Int32))), .val (.ref a3), .val (.int ((p2 &&& (2147483647 : Int32)) % (10 : Int32))), .val (.int (own_ch p3)), .unset, .unset, .unset, .unset] [(.ref b79), (.ref b79)]))
          refine Gl.pre (fun _ k => XS.iconst X84.here hx rfl (hb hby at_295) k) ?_
          refine Gl.pre (fun _ k => XS.bipush X84.here hx rfl (hb hby at_296) k) ?_
          obtain ⟨T85, h85, X85, e85, W85, V85, st85⟩ := own_stC X84 hx hZ3 e84 V_b79 (j := (5 : Int32)) (i := 5) (by decide) (by decide) (Nat.lt_of_lt_of_eq (by decide : 5 < 11) rfl) (g := (mkF m 298 #[.val (.int p1), .val (.int p2), .val (.int p3), .val (.long q4), .second, .val (.int (own_pi (¬ ((p1 &&& (1 : Int32)) = (0 : Int32))))), .val (.int (own_pi (¬ ((p1 &&& (2 : Int32)) = (0 : Int32))))), .val (.int ((own_ushr p1 (2 : Int32)) &&& (3 : Int32))), .val (.ref a3), .val (.int ((p2 &&& (2147483647 : Int32)) % (10 : Int32))), .val (.int (own_ch p3)), .unset, .unset, .unset, .unset] [(.int (95 : Int32)), (.int (5 : Int32)), (.ref b79), (.ref b79)])) rfl rfl (hb hby at_298)
          refine Gl.pre (fun _ k => st85 _ k) ?_
          have CR85 := CR84.trans (CHr.wr W85 Sf_b79 CR84.1)
          have Sf_b79 := Safe.wr W85 Sf_b79 CR84.1 Sf_b79
          have O_ := O_.wr W85 g_b79
          have Va3 := Va3.other W85 (own_ne_b3_b79)
          have Es3 := Es3.wr W85
          have Fc3 := Fc3.other W85 (Or.inl (own_ne_a3_b79))
          have Fv3 := Fv3.other W85 (Or.inl (own_ne_a3_b79))
          have V_b3 := V_b3.other W85 (own_ne_b3_b79)
          have Z85 : n0 ≤ h85.size := by rw [W85.size]; exact Z84
          have hk85 := Nat.le_trans hk84 (Nat.le_of_eq W85.size.symm)
          have N85 := Fr.snoc X85 N84 g_b79
          have V_b79 : Bal Z h85 b79 .char [(nar .char (65 : Int32)), (nar .char (70 : Int32)), (nar .char (84 : Int32)), (nar .char (69 : Int32)), (nar .char (82 : Int32)), (nar .char (95 : Int32)), (0 : Int32), (0 : Int32), (0 : Int32), (0 : Int32), (0 : Int32)] := V85
          show Gl p.tables e below PP (T85.setTop (mkF m 299 #[.val (.int p1), .val (.int p2), .val (.int p3), .val (.long q4), .second, .val (.int (own_pi (¬ ((p1 &&& (1 : Int32)) = (0 : Int32))))), .val (.int (own_pi (¬ ((p1 &&& (2 : Int32)) = (0 : Int32))))), .val (.int ((own_ushr p1 (2 : Int32)) &&& (3 : Int32))), .val (.ref a3), .val (.int ((p2 &&& (2147483647 : Int32)) % (10 : Int32))), .val (.int (own_ch p3)), .unset, .unset, .unset, .unset] [(.ref b79)]))
          refine Gl.pre (fun _ k => XS.dup X85.here hx rfl (hb hby at_299) rfl rfl k) ?_
          refine Gl.pre (fun _ k => XS.bipush X85.here hx rfl (hb hby at_300) k) ?_
          refine Gl.pre (fun _ k => XS.bipush X85.here hx rfl (hb hby at_302) k) ?_
          show Gl p.tables e below PP (T85.setTop (mkF m 304 #[.val (.int p1), .val (.int p2), .val (.int p3), .val (.long q4), .second, .val (.int (own_pi (¬ ((p1 &&& (1 : Int32)) = (0 : Int32))))), .val (.int (own_pi (¬ ((p1 &&& (2 : Int32)) = (0 : Int32))))), .val (.int ((own_ushr p1 (2 : Int32)) &&& (3 : Int32))), .val (.ref a3), .val (.int ((p2 &&& (2147483647 : Int32)) % (10 : Int32))), .val (.int (own_ch p3)), .unset, .unset, .unset, .unset] [(.int (83 : Int32)), (.int (6 : Int32)), (.ref b79), (.ref b79)]))
          obtain ⟨T86, h86, X86, e86, W86, V86, st86⟩ := own_stC X85 hx hZ3 e85 V_b79 (j := (6 : Int32)) (i := 6) (by decide) (by decide) (Nat.lt_of_lt_of_eq (by decide : 6 < 11) rfl) (g := (mkF m 304 #[.val (.int p1), .val (.int p2), .val (.int p3), .val (.long q4), .second, .val (.int (own_pi (¬ ((p1 &&& (1 : Int32)) = (0 : Int32))))), .val (.int (own_pi (¬ ((p1 &&& (2 : Int32)) = (0 : Int32))))), .val (.int ((own_ushr p1 (2 : Int32)) &&& (3 : Int32))), .val (.ref a3), .val (.int ((p2 &&& (2147483647 : Int32)) % (10 : Int32))), .val (.int (own_ch p3)), .unset, .unset, .unset, .unset] [(.int (83 : Int32)), (.int (6 : Int32)), (.ref b79), (.ref b79)])) rfl rfl (hb hby at_304)
          refine Gl.pre (fun _ k => st86 _ k) ?_
          have CR86 := CR85.trans (CHr.wr W86 Sf_b79 CR85.1)
          have Sf_b79 := Safe.wr W86 Sf_b79 CR85.1 Sf_b79
          have O_ := O_.wr W86 g_b79
          have Va3 := Va3.other W86 (own_ne_b3_b79)
          have Es3 := Es3.wr W86
          have Fc3 := Fc3.other W86 (Or.inl (own_ne_a3_b79))
          have Fv3 := Fv3.other W86 (Or.inl (own_ne_a3_b79))
          have V_b3 := V_b3.other W86 (own_ne_b3_b79)
          have Z86 : n0 ≤ h86.size := by rw [W86.size]; exact Z85
          have hk86 := Nat.le_trans hk85 (Nat.le_of_eq W86.size.symm)
          have N86 := Fr.snoc X86 N85 g_b79
          have V_b79 : Bal Z h86 b79 .char [(nar .char (65 : Int32)), (nar .char (70 : Int32)), (nar .char (84 : Int32)), (nar .char (69 : Int32)), (nar .char (82 : Int32)), (nar .char (95 : Int32)), (nar .char (83 : Int32)), (0 : Int32), (0 : Int32), (0 : Int32), (0 : Int32)] := V86
          refine Gl.pre (fun _ k => XS.dup X86.here hx rfl (hb hby at_305) rfl rfl k) ?_
          refine Gl.pre (fun _ k => XS.bipush X86.here hx rfl (hb hby at_306) k) ?_
          show Gl p.tables e below PP (T86.setTop (mkF m 308 #[.val (.int p1), .val (.int p2), .val (.int p3), .val (.long q4), .second, .val (.int (own_pi (¬ ((p1 &&& (1 : Int32)) = (0 : Int32))))), .val (.int (own_pi (¬ ((p1 &&& (2 : Int32)) = (0 : Int32))))), .val (.int ((own_ushr p1 (2 : Int32)) &&& (3 : Int32))), .val (.ref a3), .val (.int ((p2 &&& (2147483647 : Int32)) % (10 : Int32))), .val (.int (own_ch p3)), .unset, .unset, .unset, .unset] [(.int (7 : Int32)), (.ref b79), (.ref b79)]))
          refine Gl.pre (fun _ k => XS.bipush X86.here hx rfl (hb hby at_308) k) ?_
          obtain ⟨T87, h87, X87, e87, W87, V87, st87⟩ := own_stC X86 hx hZ3 e86 V_b79 (j := (7 : Int32)) (i := 7) (by decide) (by decide) (Nat.lt_of_lt_of_eq (by decide : 7 < 11) rfl) (g := (mkF m 310 #[.val (.int p1), .val (.int p2), .val (.int p3), .val (.long q4), .second, .val (.int (own_pi (¬ ((p1 &&& (1 : Int32)) = (0 : Int32))))), .val (.int (own_pi (¬ ((p1 &&& (2 : Int32)) = (0 : Int32))))), .val (.int ((own_ushr p1 (2 : Int32)) &&& (3 : Int32))), .val (.ref a3), .val (.int ((p2 &&& (2147483647 : Int32)) % (10 : Int32))), .val (.int (own_ch p3)), .unset, .unset, .unset, .unset] [(.int (89 : Int32)), (.int (7 : Int32)), (.ref b79), (.ref b79)])) rfl rfl (hb hby at_310)
          refine Gl.pre (fun _ k => st87 _ k) ?_
          have CR87 := CR86.trans (CHr.wr W87 Sf_b79 CR86.1)
          have Sf_b79 := Safe.wr W87 Sf_b79 CR86.1 Sf_b79
          have O_ := O_.wr W87 g_b79
          have Va3 := Va3.other W87 (own_ne_b3_b79)
          have Es3 := Es3.wr W87
          have Fc3 := Fc3.other W87 (Or.inl (own_ne_a3_b79))
          have Fv3 := Fv3.other W87 (Or.inl (own_ne_a3_b79))
          have V_b3 := V_b3.other W87 (own_ne_b3_b79)
          have Z87 : n0 ≤ h87.size := by rw [W87.size]; exact Z86
          have hk87 := Nat.le_trans hk86 (Nat.le_of_eq W87.size.symm)
          have N87 := Fr.snoc X87 N86 g_b79
          have V_b79 : Bal Z h87 b79 .char [(nar .char (65 : Int32)), (nar .char (70 : Int32)), (nar .char (84 : Int32)), (nar .char (69 : Int32)), (nar .char (82 : Int32)), (nar .char (95 : Int32)), (nar .char (83 : Int32)), (nar .char (89 : Int32)), (0 : Int32), (0 : Int32), (0 : Int32)] := V87
          refine Gl.pre (fun _ k => XS.dup X87.here hx rfl (hb hby at_311) rfl rfl k) ?_
          show Gl p.tables e below PP (T87.setTop (mkF m 312 #[.val (.int p1), .val (.int p2), .val (.int p3), .val (.long q4), .second, .val (.int (own_pi (¬ ((p1 &&& (1 : Int32)) = (0 : Int32))))), .val (.int (own_pi (¬ ((p1 &&& (2 : Int32)) = (0 : Int32))))), .val (.int ((own_ushr p1 (2 : Int32)) &&& (3 : Int32))), .val (.ref a3), .val (.int ((p2 &&& (2147483647 : Int32)) % (10 : Int32))), .val (.int (own_ch p3)), .unset, .unset, .unset, .unset] [(.ref b79), (.ref b79)]))
          refine Gl.pre (fun _ k => XS.bipush X87.here hx rfl (hb hby at_312) k) ?_
          refine Gl.pre (fun _ k => XS.bipush X87.here hx rfl (hb hby at_314) k) ?_
          obtain ⟨T88, h88, X88, e88, W88, V88, st88⟩ := own_stC X87 hx hZ3 e87 V_b79 (j := (8 : Int32)) (i := 8) (by decide) (by decide) (Nat.lt_of_lt_of_eq (by decide : 8 < 11) rfl) (g := (mkF m 316 #[.val (.int p1), .val (.int p2), .val (.int p3), .val (.long q4), .second, .val (.int (own_pi (¬ ((p1 &&& (1 : Int32)) = (0 : Int32))))), .val (.int (own_pi (¬ ((p1 &&& (2 : Int32)) = (0 : Int32))))), .val (.int ((own_ushr p1 (2 : Int32)) &&& (3 : Int32))), .val (.ref a3), .val (.int ((p2 &&& (2147483647 : Int32)) % (10 : Int32))), .val (.int (own_ch p3)), .unset, .unset, .unset, .unset] [(.int (78 : Int32)), (.int (8 : Int32)), (.ref b79), (.ref b79)])) rfl rfl (hb hby at_316)
          refine Gl.pre (fun _ k => st88 _ k) ?_
          have CR88 := CR87.trans (CHr.wr W88 Sf_b79 CR87.1)
          have Sf_b79 := Safe.wr W88 Sf_b79 CR87.1 Sf_b79
          have O_ := O_.wr W88 g_b79
          have Va3 := Va3.other W88 (own_ne_b3_b79)
          have Es3 := Es3.wr W88
          have Fc3 := Fc3.other W88 (Or.inl (own_ne_a3_b79))
          have Fv3 := Fv3.other W88 (Or.inl (own_ne_a3_b79))
          have V_b3 := V_b3.other W88 (own_ne_b3_b79)
          have Z88 : n0 ≤ h88.size := by rw [W88.size]; exact Z87
          have hk88 := Nat.le_trans hk87 (Nat.le_of_eq W88.size.symm)
          have N88 := Fr.snoc X88 N87 g_b79
          have V_b79 : Bal Z h88 b79 .char [(nar .char (65 : Int32)), (nar .char (70 : Int32)), (nar .char (84 : Int32)), (nar .char (69 : Int32)), (nar .char (82 : Int32)), (nar .char (95 : Int32)), (nar .char (83 : Int32)), (nar .char (89 : Int32)), (nar .char (78 : Int32)), (0 : Int32), (0 : Int32)] := V88
          show Gl p.tables e below PP (T88.setTop (mkF m 317 #[.val (.int p1), .val (.int p2), .val (.int p3), .val (.long q4), .second, .val (.int (own_pi (¬ ((p1 &&& (1 : Int32)) = (0 : Int32))))), .val (.int (own_pi (¬ ((p1 &&& (2 : Int32)) = (0 : Int32))))), .val (.int ((own_ushr p1 (2 : Int32)) &&& (3 : Int32))), .val (.ref a3), .val (.int ((p2 &&& (2147483647 : Int32)) % (10 : Int32))), .val (.int (own_ch p3)), .unset, .unset, .unset, .unset] [(.ref b79)]))
          refine Gl.pre (fun _ k => XS.dup X88.here hx rfl (hb hby at_317) rfl rfl k) ?_
          refine Gl.pre (fun _ k => XS.bipush X88.here hx rfl (hb hby at_318) k) ?_
          refine Gl.pre (fun _ k => XS.bipush X88.here hx rfl (hb hby at_320) k) ?_
          show Gl p.tables e below PP (T88.setTop (mkF m 322 #[.val (.int p1), .val (.int p2), .val (.int p3), .val (.long q4), .second, .val (.int (own_pi (¬ ((p1 &&& (1 : Int32)) = (0 : Int32))))), .val (.int (own_pi (¬ ((p1 &&& (2 : Int32)) = (0 : Int32))))), .val (.int ((own_ushr p1 (2 : Int32)) &&& (3 : Int32))), .val (.ref a3), .val (.int ((p2 &&& (2147483647 : Int32)) % (10 : Int32))), .val (.int (own_ch p3)), .unset, .unset, .unset, .unset] [(.int (67 : Int32)), (.int (9 : Int32)), (.ref b79), (.ref b79)]))
          obtain ⟨T89, h89, X89, e89, W89, V89, st89⟩ := own_stC X88 hx hZ3 e88 V_b79 (j := (9 : Int32)) (i := 9) (by decide) (by decide) (Nat.lt_of_lt_of_eq (by decide : 9 < 11) rfl) (g := (mkF m 322 #[.val (.int p1), .val (.int p2), .val (.int p3), .val (.long q4), .second, .val (.int (own_pi (¬ ((p1 &&& (1 : Int32)) = (0 : Int32))))), .val (.int (own_pi (¬ ((p1 &&& (2 : Int32)) = (0 : Int32))))), .val (.int ((own_ushr p1 (2 : Int32)) &&& (3 : Int32))), .val (.ref a3), .val (.int ((p2 &&& (2147483647 : Int32)) % (10 : Int32))), .val (.int (own_ch p3)), .unset, .unset, .unset, .unset] [(.int (67 : Int32)), (.int (9 : Int32)), (.ref b79), (.ref b79)])) rfl rfl (hb hby at_322)
          refine Gl.pre (fun _ k => st89 _ k) ?_
          have CR89 := CR88.trans (CHr.wr W89 Sf_b79 CR88.1)
          have Sf_b79 := Safe.wr W89 Sf_b79 CR88.1 Sf_b79
          have O_ := O_.wr W89 g_b79
          have Va3 := Va3.other W89 (own_ne_b3_b79)
          have Es3 := Es3.wr W89
          have Fc3 := Fc3.other W89 (Or.inl (own_ne_a3_b79))
          have Fv3 := Fv3.other W89 (Or.inl (own_ne_a3_b79))
          have V_b3 := V_b3.other W89 (own_ne_b3_b79)
          have Z89 : n0 ≤ h89.size := by rw [W89.size]; exact Z88
          have hk89 := Nat.le_trans hk88 (Nat.le_of_eq W89.size.symm)
          have N89 := Fr.snoc X89 N88 g_b79
          have V_b79 : Bal Z h89 b79 .char [(nar .char (65 : Int32)), (nar .char (70 : Int32)), (nar .char (84 : Int32)), (nar .char (69 : Int32)), (nar .char (82 : Int32)), (nar .char (95 : Int32)), (nar .char (83 : Int32)), (nar .char (89 : Int32)), (nar .char (78 : Int32)), (nar .char (67 : Int32)), (0 : Int32)] := V89
          refine Gl.pre (fun _ k => XS.dup X89.here hx rfl (hb hby at_323) rfl rfl k) ?_
          refine Gl.pre (fun _ k => XS.bipush X89.here hx rfl (hb hby at_324) k) ?_
          show Gl p.tables e below PP (T89.setTop (mkF m 326 #[.val (.int p1), .val (.int p2), .val (.int p3), .val (.long q4), .second, .val (.int (own_pi (¬ ((p1 &&& (1 : Int32)) = (0 : Int32))))), .val (.int (own_pi (¬ ((p1 &&& (2 : Int32)) = (0 : Int32))))), .val (.int ((own_ushr p1 (2 : Int32)) &&& (3 : Int32))), .val (.ref a3), .val (.int ((p2 &&& (2147483647 : Int32)) % (10 : Int32))), .val (.int (own_ch p3)), .unset, .unset, .unset, .unset] [(.int (10 : Int32)), (.ref b79), (.ref b79)]))
          refine Gl.pre (fun _ k => XS.iload X89.here hx rfl (hb hby at_326) rfl k) ?_
          obtain ⟨T90, h90, X90, e90, W90, V90, st90⟩ := own_stC X89 hx hZ3 e89 V_b79 (j := (10 : Int32)) (i := 10) (by decide) (by decide) (Nat.lt_of_lt_of_eq (by decide : 10 < 11) rfl) (g := (mkF m 328 #[.val (.int p1), .val (.int p2), .val (.int p3), .val (.long q4), .second, .val (.int (own_pi (¬ ((p1 &&& (1 : Int32)) = (0 : Int32))))), .val (.int (own_pi (¬ ((p1 &&& (2 : Int32)) = (0 : Int32))))), .val (.int ((own_ushr p1 (2 : Int32)) &&& (3 : Int32))), .val (.ref a3), .val (.int ((p2 &&& (2147483647 : Int32)) % (10 : Int32))), .val (.int (own_ch p3)), .unset, .unset, .unset, .unset] [(.int (own_ch p3)), (.int (10 : Int32)), (.ref b79), (.ref b79)])) rfl rfl (hb hby at_328)
          refine Gl.pre (fun _ k => st90 _ k) ?_
          have CR90 := CR89.trans (CHr.wr W90 Sf_b79 CR89.1)
          have Sf_b79 := Safe.wr W90 Sf_b79 CR89.1 Sf_b79
          have O_ := O_.wr W90 g_b79
          have Va3 := Va3.other W90 (own_ne_b3_b79)
          have Es3 := Es3.wr W90
          have Fc3 := Fc3.other W90 (Or.inl (own_ne_a3_b79))
          have Fv3 := Fv3.other W90 (Or.inl (own_ne_a3_b79))
          have V_b3 := V_b3.other W90 (own_ne_b3_b79)
          have Z90 : n0 ≤ h90.size := by rw [W90.size]; exact Z89
          have hk90 := Nat.le_trans hk89 (Nat.le_of_eq W90.size.symm)
          have N90 := Fr.snoc X90 N89 g_b79
          have V_b79 : Bal Z h90 b79 .char [(nar .char (65 : Int32)), (nar .char (70 : Int32)), (nar .char (84 : Int32)), (nar .char (69 : Int32)), (nar .char (82 : Int32)), (nar .char (95 : Int32)), (nar .char (83 : Int32)), (nar .char (89 : Int32)), (nar .char (78 : Int32)), (nar .char (67 : Int32)), (nar .char (own_ch p3))] := V90
          refine Gl.pre (fun _ k => XS.astore X90.here hx rfl (hb hby at_329) rfl rfl (l' := #[.val (.int p1), .val (.int p2), .val (.int p3), .val (.long q4), .second, .val (.int (own_pi (¬ ((p1 &&& (1 : Int32)) = (0 : Int32))))), .val (.int (own_pi (¬ ((p1 &&& (2 : Int32)) = (0 : Int32))))), .val (.int ((own_ushr p1 (2 : Int32)) &&& (3 : Int32))), .val (.ref a3), .val (.int ((p2 &&& (2147483647 : Int32)) % (10 : Int32))), .val (.int (own_ch p3)), .unset, .unset, .val (.ref b79), .unset]) rfl k) ?_
          show Gl p.tables e below PP (T90.setTop (mkF m 331 #[.val (.int p1), .val (.int p2), .val (.int p3), .val (.long q4), .second, .val (.int (own_pi (¬ ((p1 &&& (1 : Int32)) = (0 : Int32))))), .val (.int (own_pi (¬ ((p1 &&& (2 : Int32)) = (0 : Int32))))), .val (.int ((own_ushr p1 (2 : Int32)) &&& (3 : Int32))), .val (.ref a3), .val (.int ((p2 &&& (2147483647 : Int32)) % (10 : Int32))), .val (.int (own_ch p3)), .unset, .unset, .val (.ref b79), .unset] []))
          obtain ⟨T91, h91, X91, e91, E91, A91, D91, -, st91⟩ := newO X90 hx hZ3 hown3 (hw _ (List.mem_of_getElem? (i := 10) rfl)) (hw _ (List.mem_of_getElem? (i := 2) rfl)) (hw _ (List.mem_of_getElem? (i := 1) rfl)) e90 (g := (mkF m 331 #[.val (.int p1), .val (.int p2), .val (.int p3), .val (.long q4), .second, .val (.int (own_pi (¬ ((p1 &&& (1 : Int32)) = (0 : Int32))))), .val (.int (own_pi (¬ ((p1 &&& (2 : Int32)) = (0 : Int32))))), .val (.int ((own_ushr p1 (2 : Int32)) &&& (3 : Int32))), .val (.ref a3), .val (.int ((p2 &&& (2147483647 : Int32)) % (10 : Int32))), .val (.int (own_ch p3)), .unset, .unset, .val (.ref b79), .unset] [])) rfl (hb hby at_331) (by decide) (by decide)
          obtain ⟨b91, g91⟩ : ∃ z, z = h90.size := ⟨_, rfl⟩
          rw [← g91] at A91 D91 st91
          refine Gl.pre (fun _ k => st91 _ k) ?_
          have own_ne_b3_b91 : b3 ≠ b91 := by have q := Va3.lt; rw [g91]; exact Nat.ne_of_lt q
          have own_ne_b91_b3 : b91 ≠ b3 := own_ne_b3_b91.symm
          have own_ne_a3_b91 : a3 ≠ b91 := by have q := Es3.lt; rw [g91]; exact Nat.ne_of_lt q
          have own_ne_b91_a3 : b91 ≠ a3 := own_ne_a3_b91.symm
          have own_ne_b79_b91 : b79 ≠ b91 := by have q := V_b79.lt; rw [g91]; exact Nat.ne_of_lt q
          have own_ne_b91_b79 : b91 ≠ b79 := own_ne_b79_b91.symm
          have g_b91 : n0 ≤ b91 := Nat.le_trans Z90 (Nat.le_of_eq g91.symm)
          have Sf_b91 := Safe.ext E91 CR90.1 (Safe.new (Z := Z) (EL := own_EL) (vm := T3.vm) (Nat.le_of_eq g91.symm))
          have Sf_b79 := Safe.ext E91 CR90.1 Sf_b79
          have CR91 := CR90.trans (CHr.ext E91 CR90.1)
          have O_ := O_.ext E91
          have Va3 := Va3.ext E91
          have Es3 := Es3.ext E91
          have Fc3 := Fc3.ext E91
          have Fv3 := Fv3.ext E91
          have V_b3 := V_b3.ext E91
          have V_b79 := V_b79.ext E91
          have Z91 : n0 ≤ h91.size := Nat.le_trans Z90 E91.1
          have hk91 := Nat.le_trans hk90 E91.1
          have E_b91 := A91
          have F_value_b91 : Fld Z h91 b91 "java/lang/String" "value" "[B" .null := D91 (Or.inr (hw _ (List.mem_of_getElem? (i := 4) rfl))) (ty := (.array .byte)) (by decide)
          have F_coder_b91 : Fld Z h91 b91 "java/lang/String" "coder" "B" (.int (0 : Int32)) := D91 (Or.inr (hw _ (List.mem_of_getElem? (i := 5) rfl))) (ty := .byte) (by decide)
          refine Gl.pre (fun _ k => XS.dup X91.here hx rfl (hb hby at_334) rfl rfl k) ?_
          refine Gl.pre (fun _ k => XS.aload X91.here hx rfl (hb hby at_335) rfl rfl k) ?_
          show Gl p.tables e below PP (T91.setTop (mkF m 337 #[.val (.int p1), .val (.int p2), .val (.int p3), .val (.long q4), .second, .val (.int (own_pi (¬ ((p1 &&& (1 : Int32)) = (0 : Int32))))), .val (.int (own_pi (¬ ((p1 &&& (2 : Int32)) = (0 : Int32))))), .val (.int ((own_ushr p1 (2 : Int32)) &&& (3 : Int32))), .val (.ref a3), .val (.int ((p2 &&& (2147483647 : Int32)) % (10 : Int32))), .val (.int (own_ch p3)), .unset, .unset, .val (.ref b79), .unset] [(.ref b79), (.ref b91), (.ref b91)]))
          obtain ⟨kc92, KC92⟩ := own_arvC V_b79 (by intro x hx; simp only [List.mem_cons, List.not_mem_nil, or_false] at hx; rcases hx with rfl | rfl | rfl | rfl | rfl | rfl | rfl | rfl | rfl | rfl | rfl <;> exact fits_nar_char _) (by simp only [List.length_set, List.length_cons, List.length_nil]; decide)
          have hp92 : ∀ c ∈ [(nar .char (65 : Int32)), (nar .char (70 : Int32)), (nar .char (84 : Int32)), (nar .char (69 : Int32)), (nar .char (82 : Int32)), (nar .char (95 : Int32)), (nar .char (83 : Int32)), (nar .char (89 : Int32)), (nar .char (78 : Int32)), (nar .char (67 : Int32)), (nar .char (own_ch p3))], ¬ c < 0 ∧ ¬ (255 : Int32) < c := (by intro x hx; simp only [List.mem_cons, List.not_mem_nil, or_false] at hx; rcases hx with rfl | rfl | rfl | rfl | rfl | rfl | rfl | rfl | rfl | rfl | rfl <;> first | decide | exact own_ch255 _)
          obtain ⟨_, _, ⟨T93, L93, k93, n93⟩, -, X93, ⟨Lc93, hQ93, l93, y93, z93⟩, st93⟩ := X91.specialBack hx (y := (⟨"java/lang/String", "<init>", "([C)V"⟩ : MethodName)) rfl hown3 (mvT hZ3 (hw _ (List.mem_of_getElem? (i := 11) rfl))) (mvT hZ3 (hw _ (List.mem_of_getElem? (i := 12) rfl))) (mvT hZ3 (hw _ (List.mem_of_getElem? (i := 13) rfl))) (by decide) (StrChars.Road.backV (W := 1) hZ3 hws (kI := 4) (hw _ (List.mem_of_getElem? (i := 2) rfl)) (cs := [(nar .char (65 : Int32)), (nar .char (70 : Int32)), (nar .char (84 : Int32)), (nar .char (69 : Int32)), (nar .char (82 : Int32)), (nar .char (95 : Int32)), (nar .char (83 : Int32)), (nar .char (89 : Int32)), (nar .char (78 : Int32)), (nar .char (67 : Int32)), (nar .char (own_ch p3))]) (n := 11) g_b91 Z91 E_b91 F_value_b91 F_coder_b91 KC92 (SBC.ext O_.2) hcs (by first | rfl | simp) (by first | rfl | simp) (by decide) (by decide) hp92 rfl (by decide) (by decide)) (g := (mkF m 337 #[.val (.int p1), .val (.int p2), .val (.int p3), .val (.long q4), .second, .val (.int (own_pi (¬ ((p1 &&& (1 : Int32)) = (0 : Int32))))), .val (.int (own_pi (¬ ((p1 &&& (2 : Int32)) = (0 : Int32))))), .val (.int ((own_ushr p1 (2 : Int32)) &&& (3 : Int32))), .val (.ref a3), .val (.int ((p2 &&& (2147483647 : Int32)) % (10 : Int32))), .val (.int (own_ch p3)), .unset, .unset, .val (.ref b79), .unset] [(.ref b79), (.ref b91), (.ref b91)])) rfl (by rw [hml]; rfl) (Steps.refl _) (a := b91) (argsL := [(.ref b79)]) (rest := [(.ref b91)]) (lenOf pd_2 rfl) rfl (by show 2 * 0 + _ ≤ _; exact Nat.le_of_eq rfl) (hb hby at_337) (fun _ _ => ⟨rfl, e91, (by decide : 4 + 1 ≤ _), (by decide : 59 + 11 ≤ _)⟩)
          dsimp only [Pt.U, Pt.locs, Pt.cells, Pt.slots] at X93 l93 y93 z93 st93 hQ93
          subst l93 y93 z93
          obtain ⟨rfl, N93q, K93, Ex93, Fc93, tv93, kt93, -, hz93, hnx93, Fv93, Kt93⟩ := hQ93
          have N93 := Fr.app N90 N93q
          refine Gl.pre (fun _ k => st93.trans k) ?_
          have own_ne_a3_tv93 : a3 ≠ tv93 := Nat.ne_of_lt (Nat.lt_of_lt_of_le Es3.lt hz93)
          have own_ne_tv93_a3 := own_ne_a3_tv93.symm
          have own_ne_b3_tv93 : b3 ≠ tv93 := Nat.ne_of_lt (Nat.lt_of_lt_of_le V_b3.lt hz93)
          have own_ne_tv93_b3 := own_ne_b3_tv93.symm
          have own_ne_b79_tv93 : b79 ≠ tv93 := Nat.ne_of_lt (Nat.lt_of_lt_of_le V_b79.lt hz93)
          have own_ne_tv93_b79 := own_ne_b79_tv93.symm
          have own_ne_b91_tv93 : b91 ≠ tv93 := Nat.ne_of_lt (Nat.lt_of_lt_of_le E_b91.lt hz93)
          have own_ne_tv93_b91 := own_ne_b91_tv93.symm
          have g_tv93 : n0 ≤ tv93 := Nat.le_trans Z91 hz93
          have Sf_tv930 := Safe.new (Z := Z) (EL := own_EL) (vm := T3.vm) hz93
          have hs93 : ∀ x ∈ [b91], Safe Z own_EL _ _ x := (allS Sf_b91 all0)
          have Sf_b79 := Safe.keep K93 hs93 CR91.1 Sf_b79
          have Sf_b91 := Safe.keep K93 hs93 CR91.1 Sf_b91
          have CR93 := CR91.trans (CHr.keep K93 hs93 CR91.1)
          have O_ := O_.keep K93 (allS g_b91 all0)
          have Va3 := Va3.keep K93 (ninS (own_ne_b3_b91) nin0)
          have Es3 := Es3.keep K93
          have Fc3 := Fc3.keep K93 (ninS (own_ne_a3_b91) nin0)
          have Fv3 := Fv3.keep K93 (ninS (own_ne_a3_b91) nin0)
          have V_b3 := V_b3.keep K93 (ninS (own_ne_b3_b91) nin0)
          have V_b79 := V_b79.keep K93 (ninS (own_ne_b79_b91) nin0)
          have E_b91 := E_b91.keep K93
          have hk93 := Nat.le_trans hk91 K93.1
          have Z93 : n0 ≤ T93.heap.size := Nat.le_trans Z91 K93.1
          have F_value_b91 := Fv93
          have F_coder_b91 := Fc93
          refine Gl.pre (fun _ k => XS.astore X93.here hx rfl (hb hby at_340) rfl rfl (l' := #[.val (.int p1), .val (.int p2), .val (.int p3), .val (.long q4), .second, .val (.int (own_pi (¬ ((p1 &&& (1 : Int32)) = (0 : Int32))))), .val (.int (own_pi (¬ ((p1 &&& (2 : Int32)) = (0 : Int32))))), .val (.int ((own_ushr p1 (2 : Int32)) &&& (3 : Int32))), .val (.ref a3), .val (.int ((p2 &&& (2147483647 : Int32)) % (10 : Int32))), .val (.int (own_ch p3)), .val (.ref b91), .unset, .val (.ref b79), .unset]) rfl k) ?_
          refine Gl.pre (fun _ k => XS.goto X93.here hx rfl (pc0 := 342) (pc' := 410) rfl (hb hby at_342) (by decide) (by decide) k) ?_
          show Gl p.tables e below PP (T93.setTop (mkF m 410 #[.val (.int p1), .val (.int p2), .val (.int p3), .val (.long q4), .second, .val (.int (own_pi (¬ ((p1 &&& (1 : Int32)) = (0 : Int32))))), .val (.int (own_pi (¬ ((p1 &&& (2 : Int32)) = (0 : Int32))))), .val (.int ((own_ushr p1 (2 : Int32)) &&& (3 : Int32))), .val (.ref a3), .val (.int ((p2 &&& (2147483647 : Int32)) % (10 : Int32))), .val (.int (own_ch p3)), .val (.ref b91), .unset, .val (.ref b79), .unset] []))
          refine Gl.pre (fun _ k => XS.iconst X93.here hx rfl (hb hby at_410) k) ?_
          refine Gl.pre (fun _ k => XS.istore X93.here hx rfl (hb hby at_411) rfl (l' := #[.val (.int p1), .val (.int p2), .val (.int p3), .val (.long q4), .second, .val (.int (own_pi (¬ ((p1 &&& (1 : Int32)) = (0 : Int32))))), .val (.int (own_pi (¬ ((p1 &&& (2 : Int32)) = (0 : Int32))))), .val (.int ((own_ushr p1 (2 : Int32)) &&& (3 : Int32))), .val (.ref a3), .val (.int ((p2 &&& (2147483647 : Int32)) % (10 : Int32))), .val (.int (own_ch p3)), .val (.ref b91), .val (.int (0 : Int32)), .val (.ref b79), .unset]) rfl k) ?_
          refine Gl.pre (fun _ k => XS.iconst X93.here hx rfl (hb hby at_413) k) ?_
          show Gl p.tables e below PP (T93.setTop (mkF m 414 #[.val (.int p1), .val (.int p2), .val (.int p3), .val (.long q4), .second, .val (.int (own_pi (¬ ((p1 &&& (1 : Int32)) = (0 : Int32))))), .val (.int (own_pi (¬ ((p1 &&& (2 : Int32)) = (0 : Int32))))), .val (.int ((own_ushr p1 (2 : Int32)) &&& (3 : Int32))), .val (.ref a3), .val (.int ((p2 &&& (2147483647 : Int32)) % (10 : Int32))), .val (.int (own_ch p3)), .val (.ref b91), .val (.int (0 : Int32)), .val (.ref b79), .unset] [(.int (0 : Int32))]))
          refine Gl.pre (fun _ k => XS.istore X93.here hx rfl (hb hby at_414) rfl (l' := #[.val (.int p1), .val (.int p2), .val (.int p3), .val (.long q4), .second, .val (.int (own_pi (¬ ((p1 &&& (1 : Int32)) = (0 : Int32))))), .val (.int (own_pi (¬ ((p1 &&& (2 : Int32)) = (0 : Int32))))), .val (.int ((own_ushr p1 (2 : Int32)) &&& (3 : Int32))), .val (.ref a3), .val (.int ((p2 &&& (2147483647 : Int32)) % (10 : Int32))), .val (.int (own_ch p3)), .val (.ref b91), .val (.int (0 : Int32)), .val (.int (0 : Int32)), .unset]) rfl k) ?_
          suffices J94 : ∀ e13 : Int32, e13 = own_pi (¬ ((p1 &&& (1 : Int32)) = (0 : Int32)) ∧ ¬ ((p1 &&& (2 : Int32)) = (0 : Int32)) ∧ (False) ∧ ¬ (q4 < (1 : Int64))) → Gl p.tables e below PP (T93.setTop (mkF m 444 #[.val (.int p1), .val (.int p2), .val (.int p3), .val (.long q4), .second, .val (.int (own_pi (¬ ((p1 &&& (1 : Int32)) = (0 : Int32))))), .val (.int (own_pi (¬ ((p1 &&& (2 : Int32)) = (0 : Int32))))), .val (.int ((own_ushr p1 (2 : Int32)) &&& (3 : Int32))), .val (.ref a3), .val (.int ((p2 &&& (2147483647 : Int32)) % (10 : Int32))), .val (.int (own_ch p3)), .val (.ref b91), .val (.int (0 : Int32)), .val (.int e13), .unset] [])) by
            refine Gl.pre (fun _ k => XS.iload X93.here hx rfl (hb hby at_416) rfl k) ?_
            by_cases hc95 : ¬ ((p1 &&& (1 : Int32)) = (0 : Int32))
            · refine Gl.pre (fun _ k => XS.ifNo X93.here hx rfl (hb hby at_418) rfl ((if0 _ _).trans (feq (fun q => (own_pi0 (P := ¬ ((p1 &&& (1 : Int32)) = (0 : Int32)))).mp q hc95)).1) k) ?_
              show Gl p.tables e below PP (T93.setTop (mkF m 421 #[.val (.int p1), .val (.int p2), .val (.int p3), .val (.long q4), .second, .val (.int (own_pi (¬ ((p1 &&& (1 : Int32)) = (0 : Int32))))), .val (.int (own_pi (¬ ((p1 &&& (2 : Int32)) = (0 : Int32))))), .val (.int ((own_ushr p1 (2 : Int32)) &&& (3 : Int32))), .val (.ref a3), .val (.int ((p2 &&& (2147483647 : Int32)) % (10 : Int32))), .val (.int (own_ch p3)), .val (.ref b91), .val (.int (0 : Int32)), .val (.int (0 : Int32)), .unset] []))
              refine Gl.pre (fun _ k => XS.iload X93.here hx rfl (hb hby at_421) rfl k) ?_
              show Gl p.tables e below PP (T93.setTop (mkF m 423 #[.val (.int p1), .val (.int p2), .val (.int p3), .val (.long q4), .second, .val (.int (own_pi (¬ ((p1 &&& (1 : Int32)) = (0 : Int32))))), .val (.int (own_pi (¬ ((p1 &&& (2 : Int32)) = (0 : Int32))))), .val (.int ((own_ushr p1 (2 : Int32)) &&& (3 : Int32))), .val (.ref a3), .val (.int ((p2 &&& (2147483647 : Int32)) % (10 : Int32))), .val (.int (own_ch p3)), .val (.ref b91), .val (.int (0 : Int32)), .val (.int (0 : Int32)), .unset] [(.int (own_pi (¬ ((p1 &&& (2 : Int32)) = (0 : Int32)))))]))
              by_cases hc96 : ¬ ((p1 &&& (2 : Int32)) = (0 : Int32))
              · refine Gl.pre (fun _ k => XS.ifNo X93.here hx rfl (hb hby at_423) rfl ((if0 _ _).trans (feq (fun q => (own_pi0 (P := ¬ ((p1 &&& (2 : Int32)) = (0 : Int32)))).mp q hc96)).1) k) ?_
                show Gl p.tables e below PP (T93.setTop (mkF m 426 #[.val (.int p1), .val (.int p2), .val (.int p3), .val (.long q4), .second, .val (.int (own_pi (¬ ((p1 &&& (1 : Int32)) = (0 : Int32))))), .val (.int (own_pi (¬ ((p1 &&& (2 : Int32)) = (0 : Int32))))), .val (.int ((own_ushr p1 (2 : Int32)) &&& (3 : Int32))), .val (.ref a3), .val (.int ((p2 &&& (2147483647 : Int32)) % (10 : Int32))), .val (.int (own_ch p3)), .val (.ref b91), .val (.int (0 : Int32)), .val (.int (0 : Int32)), .unset] []))
                refine Gl.pre (fun _ k => XS.iload X93.here hx rfl (hb hby at_426) rfl k) ?_
                refine Gl.pre (fun _ k => XS.ifYes X93.here hx rfl (pc0 := 428) (pc' := 444) rfl (hb hby at_428) rfl ((if0 _ _).trans (teq (show (0 : Int32) = (0 : Int32) from (by decide))).1) (by decide) (by decide) k) ?_
                show Gl p.tables e below PP (T93.setTop (mkF m 444 #[.val (.int p1), .val (.int p2), .val (.int p3), .val (.long q4), .second, .val (.int (own_pi (¬ ((p1 &&& (1 : Int32)) = (0 : Int32))))), .val (.int (own_pi (¬ ((p1 &&& (2 : Int32)) = (0 : Int32))))), .val (.int ((own_ushr p1 (2 : Int32)) &&& (3 : Int32))), .val (.ref a3), .val (.int ((p2 &&& (2147483647 : Int32)) % (10 : Int32))), .val (.int (own_ch p3)), .val (.ref b91), .val (.int (0 : Int32)), .val (.int (0 : Int32)), .unset] []))
                exact J94 _ ((own_pi_f (fun q => q.2.2.1)).symm)
              · refine Gl.pre (fun _ k => XS.ifYes X93.here hx rfl (pc0 := 423) (pc' := 444) rfl (hb hby at_423) rfl ((if0 _ _).trans (teq ((own_pi0 (P := ¬ ((p1 &&& (2 : Int32)) = (0 : Int32)))).mpr hc96)).1) (by decide) (by decide) k) ?_
                show Gl p.tables e below PP (T93.setTop (mkF m 444 #[.val (.int p1), .val (.int p2), .val (.int p3), .val (.long q4), .second, .val (.int (own_pi (¬ ((p1 &&& (1 : Int32)) = (0 : Int32))))), .val (.int (own_pi (¬ ((p1 &&& (2 : Int32)) = (0 : Int32))))), .val (.int ((own_ushr p1 (2 : Int32)) &&& (3 : Int32))), .val (.ref a3), .val (.int ((p2 &&& (2147483647 : Int32)) % (10 : Int32))), .val (.int (own_ch p3)), .val (.ref b91), .val (.int (0 : Int32)), .val (.int (0 : Int32)), .unset] []))
                exact J94 _ ((own_pi_f (fun q => hc96 q.2.1)).symm)
            · refine Gl.pre (fun _ k => XS.ifYes X93.here hx rfl (pc0 := 418) (pc' := 444) rfl (hb hby at_418) rfl ((if0 _ _).trans (teq ((own_pi0 (P := ¬ ((p1 &&& (1 : Int32)) = (0 : Int32)))).mpr hc95)).1) (by decide) (by decide) k) ?_
              show Gl p.tables e below PP (T93.setTop (mkF m 444 #[.val (.int p1), .val (.int p2), .val (.int p3), .val (.long q4), .second, .val (.int (own_pi (¬ ((p1 &&& (1 : Int32)) = (0 : Int32))))), .val (.int (own_pi (¬ ((p1 &&& (2 : Int32)) = (0 : Int32))))), .val (.int ((own_ushr p1 (2 : Int32)) &&& (3 : Int32))), .val (.ref a3), .val (.int ((p2 &&& (2147483647 : Int32)) % (10 : Int32))), .val (.int (own_ch p3)), .val (.ref b91), .val (.int (0 : Int32)), .val (.int (0 : Int32)), .unset] []))
              exact J94 _ ((own_pi_f (fun q => hc95 q.1)).symm)
          intro e13 he13
          show Gl p.tables e below PP (T93.setTop (mkF m 444 #[.val (.int p1), .val (.int p2), .val (.int p3), .val (.long q4), .second, .val (.int (own_pi (¬ ((p1 &&& (1 : Int32)) = (0 : Int32))))), .val (.int (own_pi (¬ ((p1 &&& (2 : Int32)) = (0 : Int32))))), .val (.int ((own_ushr p1 (2 : Int32)) &&& (3 : Int32))), .val (.ref a3), .val (.int ((p2 &&& (2147483647 : Int32)) % (10 : Int32))), .val (.int (own_ch p3)), .val (.ref b91), .val (.int (0 : Int32)), .val (.int e13), .unset] []))
          obtain ⟨T97, h97, X97, e97, E97, A97, D97, -, st97⟩ := newO X93 hx hZ3 hown3 (hw _ (List.mem_of_getElem? (i := 56) rfl)) (hw _ (List.mem_of_getElem? (i := 57) rfl)) (hw _ (List.mem_of_getElem? (i := 58) rfl)) rfl (g := (mkF m 444 #[.val (.int p1), .val (.int p2), .val (.int p3), .val (.long q4), .second, .val (.int (own_pi (¬ ((p1 &&& (1 : Int32)) = (0 : Int32))))), .val (.int (own_pi (¬ ((p1 &&& (2 : Int32)) = (0 : Int32))))), .val (.int ((own_ushr p1 (2 : Int32)) &&& (3 : Int32))), .val (.ref a3), .val (.int ((p2 &&& (2147483647 : Int32)) % (10 : Int32))), .val (.int (own_ch p3)), .val (.ref b91), .val (.int (0 : Int32)), .val (.int e13), .unset] [])) rfl (hb hby at_444) (by decide) (by decide)
          obtain ⟨b97, g97⟩ : ∃ z, z = T93.heap.size := ⟨_, rfl⟩
          rw [← g97] at A97 D97 st97
          refine Gl.pre (fun _ k => st97 _ k) ?_
          have own_ne_b3_b97 : b3 ≠ b97 := by have q := Va3.lt; rw [g97]; exact Nat.ne_of_lt q
          have own_ne_b97_b3 : b97 ≠ b3 := own_ne_b3_b97.symm
          have own_ne_a3_b97 : a3 ≠ b97 := by have q := Es3.lt; rw [g97]; exact Nat.ne_of_lt q
          have own_ne_b97_a3 : b97 ≠ a3 := own_ne_a3_b97.symm
          have own_ne_b79_b97 : b79 ≠ b97 := by have q := V_b79.lt; rw [g97]; exact Nat.ne_of_lt q
          have own_ne_b97_b79 : b97 ≠ b79 := own_ne_b79_b97.symm
          have own_ne_b91_b97 : b91 ≠ b97 := by have q := E_b91.lt; rw [g97]; exact Nat.ne_of_lt q
          have own_ne_b97_b91 : b97 ≠ b91 := own_ne_b91_b97.symm
          have own_ne_tv93_b97 : tv93 ≠ b97 := by have q := Kt93.lt; rw [g97]; exact Nat.ne_of_lt q
          have own_ne_b97_tv93 : b97 ≠ tv93 := own_ne_tv93_b97.symm
          have g_b97 : n0 ≤ b97 := Nat.le_trans Z93 (Nat.le_of_eq g97.symm)
          have Sf_b97 := Safe.ext E97 CR93.1 (Safe.new (Z := Z) (EL := own_EL) (vm := T3.vm) (Nat.le_of_eq g97.symm))
          have Sf_b79 := Safe.ext E97 CR93.1 Sf_b79
          have Sf_b91 := Safe.ext E97 CR93.1 Sf_b91
          have CR97 := CR93.trans (CHr.ext E97 CR93.1)
          have O_ := O_.ext E97
          have Va3 := Va3.ext E97
          have Es3 := Es3.ext E97
          have Fc3 := Fc3.ext E97
          have Fv3 := Fv3.ext E97
          have V_b3 := V_b3.ext E97
          have V_b79 := V_b79.ext E97
          have E_b91 := E_b91.ext E97
          have F_value_b91 := F_value_b91.ext E97
          have F_coder_b91 := F_coder_b91.ext E97
          have Kt93 := Kt93.ext E97
          have Z97 : n0 ≤ h97.size := Nat.le_trans Z93 E97.1
          have hk97 := Nat.le_trans hk93 E97.1
          have E_b97 := A97
          have F_enabled_b97 : Fld Z h97 b97 "com/example/anchorwatch/anchorwatch/model/SemiSync" "enabled" "Z" (.int (0 : Int32)) := D97 (Or.inr (hw _ (List.mem_of_getElem? (i := 69) rfl))) (ty := .boolean) (by decide)
          have F_waitPoint_b97 : Fld Z h97 b97 "com/example/anchorwatch/anchorwatch/model/SemiSync" "waitPoint" "Ljava/lang/String;" .null := D97 (Or.inr (hw _ (List.mem_of_getElem? (i := 71) rfl))) (ty := (.object "java/lang/String")) (by decide)
          have F_active_b97 : Fld Z h97 b97 "com/example/anchorwatch/anchorwatch/model/SemiSync" "active" "Z" (.int (0 : Int32)) := D97 (Or.inr (hw _ (List.mem_of_getElem? (i := 73) rfl))) (ty := .boolean) (by decide)
          have F_clients_b97 : Fld Z h97 b97 "com/example/anchorwatch/anchorwatch/model/SemiSync" "clients" "J" (.long (0 : Int64)) := D97 (Or.inr (hw _ (List.mem_of_getElem? (i := 75) rfl))) (ty := .long) (by decide)
          refine Gl.pre (fun _ k => XS.dup X97.here hx rfl (hb hby at_447) rfl rfl k) ?_
          show Gl p.tables e below PP (T97.setTop (mkF m 448 #[.val (.int p1), .val (.int p2), .val (.int p3), .val (.long q4), .second, .val (.int (own_pi (¬ ((p1 &&& (1 : Int32)) = (0 : Int32))))), .val (.int (own_pi (¬ ((p1 &&& (2 : Int32)) = (0 : Int32))))), .val (.int ((own_ushr p1 (2 : Int32)) &&& (3 : Int32))), .val (.ref a3), .val (.int ((p2 &&& (2147483647 : Int32)) % (10 : Int32))), .val (.int (own_ch p3)), .val (.ref b91), .val (.int (0 : Int32)), .val (.int e13), .unset] [(.ref b97), (.ref b97)]))
          refine Gl.pre (fun _ k => XS.iload X97.here hx rfl (hb hby at_448) rfl k) ?_
          refine Gl.pre (fun _ k => XS.aload X97.here hx rfl (hb hby at_450) rfl rfl k) ?_
          refine Gl.pre (fun _ k => XS.iload X97.here hx rfl (hb hby at_452) rfl k) ?_
          show Gl p.tables e below PP (T97.setTop (mkF m 454 #[.val (.int p1), .val (.int p2), .val (.int p3), .val (.long q4), .second, .val (.int (own_pi (¬ ((p1 &&& (1 : Int32)) = (0 : Int32))))), .val (.int (own_pi (¬ ((p1 &&& (2 : Int32)) = (0 : Int32))))), .val (.int ((own_ushr p1 (2 : Int32)) &&& (3 : Int32))), .val (.ref a3), .val (.int ((p2 &&& (2147483647 : Int32)) % (10 : Int32))), .val (.int (own_ch p3)), .val (.ref b91), .val (.int (0 : Int32)), .val (.int e13), .unset] [(.int (own_pi (¬ ((p1 &&& (2 : Int32)) = (0 : Int32))))), (.ref b91), (.int (own_pi (¬ ((p1 &&& (1 : Int32)) = (0 : Int32))))), (.ref b97), (.ref b97)]))
          refine Gl.pre (fun _ k => XS.lloadN X97.here hx rfl (hb hby at_454) rfl k) ?_
          obtain ⟨_, _, ⟨T98, L98, k98, n98⟩, -, X98, ⟨Lc98, hQ98, l98, y98, z98⟩, st98⟩ := X97.specialBack hx (y := (⟨"com/example/anchorwatch/anchorwatch/model/SemiSync", "<init>", "(ZLjava/lang/String;ZJ)V"⟩ : MethodName)) rfl hown3 (mvT hZ3 (hw _ (List.mem_of_getElem? (i := 59) rfl))) (mvT hZ3 (hw _ (List.mem_of_getElem? (i := 60) rfl))) (mvT hZ3 (hw _ (List.mem_of_getElem? (i := 61) rfl))) (by decide) (backOf (W := 1) (rmssS l Z a0 hw [] b97 (own_pi (¬ ((p1 &&& (1 : Int32)) = (0 : Int32)))) b91 (own_pi (¬ ((p1 &&& (2 : Int32)) = (0 : Int32)))) q4 h97 n0 Z97 E_b97 F_enabled_b97 F_waitPoint_b97 F_active_b97 F_clients_b97 g_b97 (own_pi01 _) (own_pi01 _)) hZ3 (hw _ (List.mem_of_getElem? (i := 61) rfl)) (hw _ (List.mem_of_getElem? (i := 58) rfl)) (by decide) (by decide)) (g := (mkF m 455 #[.val (.int p1), .val (.int p2), .val (.int p3), .val (.long q4), .second, .val (.int (own_pi (¬ ((p1 &&& (1 : Int32)) = (0 : Int32))))), .val (.int (own_pi (¬ ((p1 &&& (2 : Int32)) = (0 : Int32))))), .val (.int ((own_ushr p1 (2 : Int32)) &&& (3 : Int32))), .val (.ref a3), .val (.int ((p2 &&& (2147483647 : Int32)) % (10 : Int32))), .val (.int (own_ch p3)), .val (.ref b91), .val (.int (0 : Int32)), .val (.int e13), .unset] [(.long q4), (.int (own_pi (¬ ((p1 &&& (2 : Int32)) = (0 : Int32))))), (.ref b91), (.int (own_pi (¬ ((p1 &&& (1 : Int32)) = (0 : Int32))))), (.ref b97), (.ref b97)])) rfl (by rw [hml]; rfl) (Steps.refl _) (a := b97) (argsL := [(.int (own_pi (¬ ((p1 &&& (1 : Int32)) = (0 : Int32))))), (.ref b91), (.int (own_pi (¬ ((p1 &&& (2 : Int32)) = (0 : Int32))))), (.long q4)]) (rest := [(.ref b97)]) (lenOf pd_4 rfl) rfl (by show 2 * 0 + _ ≤ _; exact Nat.le_of_eq rfl) (hb hby at_455) (fun _ _ => ⟨rfl, e97, (by decide : 6 + 0 ≤ _), (by decide : 74 + 0 ≤ _)⟩)
          dsimp only [Pt.U, Pt.locs, Pt.cells, Pt.slots] at X98 l98 y98 z98 st98 hQ98
          subst l98 y98 z98
          obtain ⟨rfl, N98q, K98, Fenabled98, FwaitPoint98, Factive98, Fclients98⟩ := hQ98
          have N98 := Fr.app N93 N98q
          refine Gl.pre (fun _ k => st98.trans k) ?_
          have hs98 : ∀ x ∈ [b97], Safe Z own_EL _ _ x := (allS Sf_b97 all0)
          have Sf_b79 := Safe.keep K98 hs98 CR97.1 Sf_b79
          have Sf_b91 := Safe.keep K98 hs98 CR97.1 Sf_b91
          have Sf_b97 := Safe.keep K98 hs98 CR97.1 Sf_b97
          have CR98 := CR97.trans (CHr.keep K98 hs98 CR97.1)
          have O_ := O_.keep K98 (allS g_b97 all0)
          have Va3 := Va3.keep K98 (ninS (own_ne_b3_b97) nin0)
          have Es3 := Es3.keep K98
          have Fc3 := Fc3.keep K98 (ninS (own_ne_a3_b97) nin0)
          have Fv3 := Fv3.keep K98 (ninS (own_ne_a3_b97) nin0)
          have V_b3 := V_b3.keep K98 (ninS (own_ne_b3_b97) nin0)
          have V_b79 := V_b79.keep K98 (ninS (own_ne_b79_b97) nin0)
          have E_b91 := E_b91.keep K98
          have F_value_b91 := F_value_b91.keep K98 (ninS (own_ne_b91_b97) nin0)
          have F_coder_b91 := F_coder_b91.keep K98 (ninS (own_ne_b91_b97) nin0)
          have Kt93 := Kt93.keep K98 (ninS (own_ne_tv93_b97) nin0)
          have E_b97 := E_b97.keep K98
          have hk98 := Nat.le_trans hk97 K98.1
          have Z98 : n0 ≤ T98.heap.size := Nat.le_trans Z97 K98.1
          have F_enabled_b97 := Fenabled98
          have F_waitPoint_b97 := FwaitPoint98
          have F_active_b97 := Factive98
          have F_clients_b97 := Fclients98
          refine Gl.pre (fun _ k => XS.astore X98.here hx rfl (hb hby at_458) rfl rfl (l' := #[.val (.int p1), .val (.int p2), .val (.int p3), .val (.long q4), .second, .val (.int (own_pi (¬ ((p1 &&& (1 : Int32)) = (0 : Int32))))), .val (.int (own_pi (¬ ((p1 &&& (2 : Int32)) = (0 : Int32))))), .val (.int ((own_ushr p1 (2 : Int32)) &&& (3 : Int32))), .val (.ref a3), .val (.int ((p2 &&& (2147483647 : Int32)) % (10 : Int32))), .val (.int (own_ch p3)), .val (.ref b91), .val (.int (0 : Int32)), .val (.int e13), .val (.ref b97)]) rfl k) ?_
          show Gl p.tables e below PP (T98.setTop (mkF m 460 #[.val (.int p1), .val (.int p2), .val (.int p3), .val (.long q4), .second, .val (.int (own_pi (¬ ((p1 &&& (1 : Int32)) = (0 : Int32))))), .val (.int (own_pi (¬ ((p1 &&& (2 : Int32)) = (0 : Int32))))), .val (.int ((own_ushr p1 (2 : Int32)) &&& (3 : Int32))), .val (.ref a3), .val (.int ((p2 &&& (2147483647 : Int32)) % (10 : Int32))), .val (.int (own_ch p3)), .val (.ref b91), .val (.int (0 : Int32)), .val (.int e13), .val (.ref b97)] []))
          refine Gl.pre (fun _ k => XS.aload X98.here hx rfl (hb hby at_460) rfl rfl k) ?_
          obtain ⟨cq99, kq99, qa99, qb99, qc99⟩ := isOf hZ3 rfl E_b97
          obtain ⟨_, _, ⟨T99, L99, k99, n99⟩, -, X99, hS99c, hg99, ⟨Lc99, hQ99, l99, y99, z99, CR99c⟩, st99⟩ := X98.virtualBackS hx (y := (⟨"com/example/anchorwatch/anchorwatch/model/SemiSync", "lossless", "()Z"⟩ : MethodName)) (z := (⟨"com/example/anchorwatch/anchorwatch/model/SemiSync", "lossless", "()Z"⟩ : MethodName)) hown3 (mvT hZ3 (hw _ (List.mem_of_getElem? (i := 76) rfl))) (mvT hZ3 (hw _ (List.mem_of_getElem? (i := 77) rfl))) (notFace_of_selects (args := #[]) (mvT hZ3 (hw _ (List.mem_of_getElem? (i := 79) rfl)))) (mvT hZ3 (hw _ (List.mem_of_getElem? (i := 79) rfl))) (mvT hZ3 (hw _ (List.mem_of_getElem? (i := 78) rfl))) (by decide) (own_backH (W := 0) (rmloS l Z a0 hw [] b97 (own_pi (¬ ((p1 &&& (1 : Int32)) = (0 : Int32)))) (own_pi (¬ ((p1 &&& (2 : Int32)) = (0 : Int32)))) q4 cs b91 tv93 kt93 ([(nar .char (65 : Int32)), (nar .char (70 : Int32)), (nar .char (84 : Int32)), (nar .char (69 : Int32)), (nar .char (82 : Int32)), (nar .char (95 : Int32)), (nar .char (83 : Int32)), (nar .char (89 : Int32)), (nar .char (78 : Int32)), (nar .char (67 : Int32)), (nar .char (own_ch p3))]) _ T98.heap n0 Z98 F_enabled_b97 F_waitPoint_b97 F_active_b97 F_clients_b97 SBC hcs O_ E_b91 F_value_b91 F_coder_b91 Kt93 (by first | rfl | simp) hp92 (by simp only [List.length_set, List.length_cons, List.length_nil]; decide) hEL) hZ3 (hw _ (List.mem_of_getElem? (i := 80) rfl)) (hw _ (List.mem_of_getElem? (i := 58) rfl)) (by decide) (by decide) hEL CR98.1 all0) qa99 qc99 (g := (mkF m 462 #[.val (.int p1), .val (.int p2), .val (.int p3), .val (.long q4), .second, .val (.int (own_pi (¬ ((p1 &&& (1 : Int32)) = (0 : Int32))))), .val (.int (own_pi (¬ ((p1 &&& (2 : Int32)) = (0 : Int32))))), .val (.int ((own_ushr p1 (2 : Int32)) &&& (3 : Int32))), .val (.ref a3), .val (.int ((p2 &&& (2147483647 : Int32)) % (10 : Int32))), .val (.int (own_ch p3)), .val (.ref b91), .val (.int (0 : Int32)), .val (.int e13), .val (.ref b97)] [(.ref b97)])) rfl (by rw [hml]; rfl) (Steps.refl _) (argsL := []) (rest := []) (lenOf pd_5 rfl) rfl (by show 2 * 0 + _ ≤ _; exact Nat.le_of_eq rfl) (hb hby at_462) (fun _ _ => ⟨rfl, rfl, (by decide : 6 + 2 ≤ _), (by decide : 74 + 44 ≤ _)⟩)
          dsimp only [Pt.U, Pt.locs, Pt.cells, Pt.slots] at X99 l99 y99 z99 st99 hQ99 hS99c hg99 CR99c
          subst l99 y99 z99
          have X99 : Stand p l e room_1 (s.setVm T99.vm) m #[(.int p1), (.int p2), (.int p3), (.long q4)] below meth c T99 _ _ _ := X99
          have hS99 := foldS hS3 hk98 hS99c hg99
          have hZ99 : Z.Warmed39 (s.setVm T99.vm).vm := State.Warmed39.trans (t := s.setVm T3.vm) hZ3 hS99c.1
          have hown99 : (s.setVm T99.vm).vm.findClass "com/example/anchorwatch/anchorwatch/model/SemiSyncLosslessPinLaw" = some m.cls := by rw [show (s.setVm T99.vm).vm = T99.vm from rfl, hS99c.1.alike.findClass]; exact hown3
          have Sf_b79 := CR99c.safe V_b79.lt Sf_b79
          have Sf_b91 := CR99c.safe E_b91.lt Sf_b91
          have Sf_b97 := CR99c.safe E_b97.lt Sf_b97
          have CR99 := CR98.trans CR99c
          obtain ⟨rfl, N99q, K99⟩ := hQ99
          have N99 := Fr.app N98 N99q
          refine Gl.pre (fun _ k => st99.trans k) ?_
          have O_ := O_.keep K99 all0
          have Va3 := Va3.keep K99 nin0
          have Es3 := Es3.keep K99
          have Fc3 := Fc3.keep K99 nin0
          have Fv3 := Fv3.keep K99 nin0
          have V_b3 := V_b3.keep K99 nin0
          have V_b79 := V_b79.keep K99 nin0
          have E_b91 := E_b91.keep K99
          have F_value_b91 := F_value_b91.keep K99 nin0
          have F_coder_b91 := F_coder_b91.keep K99 nin0
          have Kt93 := Kt93.keep K99 nin0
          have E_b97 := E_b97.keep K99
          have F_enabled_b97 := F_enabled_b97.keep K99 nin0
          have F_waitPoint_b97 := F_waitPoint_b97.keep K99 nin0
          have F_active_b97 := F_active_b97.keep K99 nin0
          have F_clients_b97 := F_clients_b97.keep K99 nin0
          have Z99 : n0 ≤ T99.heap.size := Nat.le_trans Z98 K99.1
          refine Gl.pre (fun _ k => XS.iload X99.here hx rfl (hb hby at_465) rfl k) ?_
          show Gl p.tables e below PP (T99.setTop (mkF m 467 #[.val (.int p1), .val (.int p2), .val (.int p3), .val (.long q4), .second, .val (.int (own_pi (¬ ((p1 &&& (1 : Int32)) = (0 : Int32))))), .val (.int (own_pi (¬ ((p1 &&& (2 : Int32)) = (0 : Int32))))), .val (.int ((own_ushr p1 (2 : Int32)) &&& (3 : Int32))), .val (.ref a3), .val (.int ((p2 &&& (2147483647 : Int32)) % (10 : Int32))), .val (.int (own_ch p3)), .val (.ref b91), .val (.int (0 : Int32)), .val (.int e13), .val (.ref b97)] [(.int e13), (.int (own_pi (¬ ((own_pi (¬ ((p1 &&& (1 : Int32)) = (0 : Int32)))) = (0 : Int32)) ∧ own_AS = [(nar .char (65 : Int32)), (nar .char (70 : Int32)), (nar .char (84 : Int32)), (nar .char (69 : Int32)), (nar .char (82 : Int32)), (nar .char (95 : Int32)), (nar .char (83 : Int32)), (nar .char (89 : Int32)), (nar .char (78 : Int32)), (nar .char (67 : Int32)), (nar .char (own_ch p3))] ∧ ¬ ((own_pi (¬ ((p1 &&& (2 : Int32)) = (0 : Int32)))) = (0 : Int32)) ∧ ¬ (q4 < (1 : Int64)))))]))
          refine Gl.pre (fun _ k => XS.icmpNo X99.here hx rfl (hb hby at_467) rfl (teq (show (own_pi (¬ ((own_pi (¬ ((p1 &&& (1 : Int32)) = (0 : Int32)))) = (0 : Int32)) ∧ own_AS = [(nar .char (65 : Int32)), (nar .char (70 : Int32)), (nar .char (84 : Int32)), (nar .char (69 : Int32)), (nar .char (82 : Int32)), (nar .char (95 : Int32)), (nar .char (83 : Int32)), (nar .char (89 : Int32)), (nar .char (78 : Int32)), (nar .char (67 : Int32)), (nar .char (own_ch p3))] ∧ ¬ ((own_pi (¬ ((p1 &&& (2 : Int32)) = (0 : Int32)))) = (0 : Int32)) ∧ ¬ (q4 < (1 : Int64)))) = e13 from (by rw [he13]; exact own_pi_eq (own_finF (own_11 p3))))).2 k) ?_
          show Gl p.tables e below PP (T99.setTop (mkF m 470 #[.val (.int p1), .val (.int p2), .val (.int p3), .val (.long q4), .second, .val (.int (own_pi (¬ ((p1 &&& (1 : Int32)) = (0 : Int32))))), .val (.int (own_pi (¬ ((p1 &&& (2 : Int32)) = (0 : Int32))))), .val (.int ((own_ushr p1 (2 : Int32)) &&& (3 : Int32))), .val (.ref a3), .val (.int ((p2 &&& (2147483647 : Int32)) % (10 : Int32))), .val (.int (own_ch p3)), .val (.ref b91), .val (.int (0 : Int32)), .val (.int e13), .val (.ref b97)] []))
          refine Gl.pre (fun _ k => XS.iconst X99.here hx rfl (hb hby at_470) k) ?_
          refine Gl.pre (fun _ k => XS.goto X99.here hx rfl (pc0 := 471) (pc' := 475) rfl (hb hby at_471) (by decide) (by decide) k) ?_
          rw [hPP]
          refine own_finNW (Q := (Q0 Z p1 p2 p3 q4 cs fo h0 n0)) (Z := Z) (EL := own_EL) X99 hx hlk hS99 (Nat.le_refl _) Bd.returns (t := .boolean) (z' := (1 : Int32)) (by simp) (by decide) (hb hby at_475) ?_ (by rw [hh]; exact CR99.trans (CHv.at X99 hZ99 hEL CR99.1)) (by decide) (by decide)
          show Q0 Z p1 p2 p3 q4 cs fo h0 n0 _ T99.heap _
          exact ⟨rfl, N99⟩
set_option maxRecDepth 65536 in
set_option maxHeartbeats 40000000 in
theorem comes_1 {Post : Tables → Env → Array Value → State → Outcome → State → Prop} (hpost : ∀ tb e args s v u, (limb_1_1.after args s (.returned v) u = true ∧ limb_1_2.after args s (.returned v) u = true ∧ True) → ReturnedEndW s (.returned v) u (Jvm.fieldLocs frame_1_writes args s ++ Jvm.arrayLocs frame_1_arrays args s ++ Jvm.staticLocs frame_1_statics s) 24 2240 → Post tb e args s (.returned v) u) :
    ArmFor flags0 classFile x code maxLocals ret World_1 tables_1 room_1 Calls_1 rest_1 Pre_1 Post := by
  intro l hfl _ _ p e ha hc hk s m args below hf hA hF happ hP
  obtain ⟨hcalls, hrest, hpre⟩ := hP
  obtain ⟨-, -, -, hnamed, -, -, -, hat⟩ := (Spec.applies_iff hf).mp happ
  obtain ⟨hg, hn⟩ := and_e (Cond.before_iff.mp (show (Jvm.Cond.and given_1 narrow_1).before args s = true from hpre))
  obtain ⟨gc, gr0⟩ := and_e hg
  obtain ⟨ga0, gr1⟩ := and_e gr0
  obtain ⟨ga1, gr2⟩ := and_e gr1
  obtain ⟨ga2, gr3⟩ := and_e gr2
  obtain ⟨w0, w1, w2, w3, rfl⟩ : ∃ w0 w1 w2 w3 : Value, args = #[w0, w1, w2, w3] := by
    have hs : args.size = 4 := by simpa [Cond.value, given_1] using gc
    obtain ⟨L⟩ := args
    match L, hs with
    | [w0, w1, w2, w3], _ => exact ⟨w0, w1, w2, w3, rfl⟩
  have hw := fun d (hd : d ∈ tables_1) => atoms_spec (ws := Jvm.Cond.code x code maxLocals ret :: tables_1) hat d (List.mem_cons_of_mem _ hd)
  have hfit : Fit s := fun {y c} hc i hi => by
    obtain ⟨ha, rfl⟩ := Array.getElem?_eq_some_iff.mp hc
    have q := List.all_eq_true.mp ((Array.all_eq_true_iff_forall_mem.mp hF) _ (Array.getElem_mem ha)) i (List.mem_range.mpr hi)
    simpa [Array.getElem?_eq_getElem hi] using q
  obtain ⟨i0, ei0⟩ := is_v ga0
  obtain rfl : w0 = (.int i0) := Option.some.inj ei0
  obtain ⟨i1, ei1⟩ := is_v ga1
  obtain rfl : w1 = (.int i1) := Option.some.inj ei1
  obtain ⟨i2, ei2⟩ := is_v ga2
  obtain rfl : w2 = (.int i2) := Option.some.inj ei2
  obtain ⟨i3, ei3⟩ := isL_v gr3
  obtain rfl : w3 = (.long i3) := Option.some.inj ei3
  obtain ⟨hsets, hown0⟩ := atoms_of _ (rest_1_c_eq ▸ (show rest_1_c.before _ s = true from hrest))
  have n5 := not_v (Cond.before_iff.mp (hsets _ (List.mem_of_getElem? (i := 2) rfl)))
  obtain ⟨cs, ecs⟩ := is_v (Cond.before_iff.mp (hsets _ (List.mem_of_getElem? (i := 1) rfl)))
  have SBC : Sta s s.heap "java/lang/String" "COMPACT_STRINGS" "Z" (.int cs) := Sta.start ecs (Or.inl (hsets _ (List.mem_of_getElem? (i := 0) rfl)))
  have hcs : ¬ (cs = (0 : Int32)) := gotF (Cond.eq_ints ecs (Term.int_eval (0))) n5
  obtain ⟨fo, efo, hfo⟩ := isR_v (Cond.before_iff.mp (hsets _ (List.mem_of_getElem? (i := 8) rfl)))
  have SFO : Sta s s.heap "jdk/internal/util/Preconditions" "SIOOBE_FORMATTER" "Ljava/util/function/BiFunction;" fo := Sta.start efo (Or.inl (hsets _ (List.mem_of_getElem? (i := 7) rfl)))
  have hEL : EW s _ own_EL := (EW.cons (hw _ (List.mem_of_getElem? (i := 81) rfl)) (by decide) (EW.cons (hw _ (List.mem_of_getElem? (i := 0) rfl)) (by decide) EW.nil))
  have hCH : CHv s own_EL s.vm s.heap := CHv.start hEL (fun q hq => hcalls.1 q hq) (hsets _ (List.mem_of_getElem? (i := 2) rfl)) (hw _ (List.mem_of_getElem? (i := 3) rfl)) (hw _ (List.mem_of_getElem? (i := 2) rfl))
  obtain ⟨n, o, h1, h2, h3, _, L, rfl, ⟨rfl, N⟩, -, hq⟩ := rm0 l s _ hw tables_1 i0 i1 i2 i3 cs fo s.heap s.heap.size (Nat.le_refl _) SBC hcs (Old.start s) SFO hfo hEL p e ha hc hk s m _ below hf ((Spec.applies_iff_loose hf).mp happ).1 ⟨rfl, State.Warmed39.refl s, rfl, hCH, all0⟩ trivial
  refine ⟨n, _, h1, h2, h3, hpost _ _ _ _ _ _ ⟨Cond.after_iff.mpr rfl, Cond.after_iff.mpr (eq_i res_at (Term.int_eval (1)) rfl), trivial⟩ ⟨hq.1, hq.2.1, hq.2.2.1, (hq.2.2.2.sift fun y hy => Or.inr (N y hy)).mono (by decide) (by decide)⟩⟩
theorem main_1_1 : Claimed_1_1 := comes_1 fun _ _ _ _ _ _ h hF => ⟨h.1, hF⟩
theorem main_1_2 : Claimed_1_2 := comes_1 fun _ _ _ _ _ _ h hF => ⟨h.2.1, hF⟩
end Jvm.Pilot.@@N@@
namespace Jvm.Pilot.@@N@@
open Jvm Jvm.ClassFile Sem Op Lib Jvm.Free Jvm.Stand Jvm.Pilot.@@N@@.Jvm.D
/-! MADE BY PROGRAM (witnessworld.py) out of the Statement's table words and the real class files: 21 classes; the members and pool entries that the words name. The judged class is class 1, her method 1. -/
namespace start1
open Jvm.ClassFile
def u (s : String) : CpInfo := .utf8 (stringToUtf16 s)
/-- a pool by its gaps: so many unusable entries, then the entry; so many at the end -/
def gap : Nat → List CpInfo → List CpInfo
  | 0, r => r
  | n + 1, r => .unusable :: gap n r
def poolList (es : List (Nat × CpInfo)) (last : Nat) : List CpInfo := es.foldr (fun e r => gap e.1 (e.2 :: r)) (gap last [])
def pool (es : List (Nat × CpInfo)) (last : Nat) : Array CpInfo := ⟨poolList es last⟩
def fileOf (pool : Array CpInfo) (this : Nat) (attrs : Array Attribute := #[]) (ms : Array MethodInfo := #[]) (fl : Nat := 33) (sup : Nat := 0) (ifs : Array Nat := #[]) (fds : Array FieldInfo := #[]) : ClassFile where
  minorVersion := 0
  majorVersion := 65
  constantPool := pool
  accessFlags := fl
  thisClass := this
  superClass := sup
  interfaces := ifs
  fields := fds
  methods := ms
  attributes := attrs
def plain (name : String) (sup : Option ClassId) : Class where
  name := name
  kind := .ordinary
  loader := none
  accessFlags := 33
  super := sup
  interfaces := #[]
  cf := none
  fields := #[]
  methods := #[]
  instanceTypes := #[]
  staticTypes := #[]
  resolved := #[]
  callSites := []
  init := .initialized
  statics := none
  mirror := none

def pool0 : Array CpInfo := pool [(5, u "<init>"), (0, u "()V"), (1, .class_ 10), (1, u "java/lang/Object")] 113

def k0c0 : Code := { maxStack := 0, maxLocals := 1, code := object_method_1_code, exceptionTable := #[], attributes := #[] }
def k0m0 : Method := { name := "<init>", desc := "()V", sig := { parameters := [], returnType := none }, accessFlags := 1, code := some k0c0 }
/-- java/lang/Object -/
def k0 : Class := { plain "java/lang/Object" none with
  accessFlags := 33
  interfaces := #[]
  cf := some (fileOf pool0 8 #[] #[{ accessFlags := 1, nameIndex := 5, descriptorIndex := 6, attributes := #[] }] 33 0 #[] #[])
  fields := #[]
  methods := #[k0m0]
  instanceTypes := #[]
  staticTypes := #[]
  resolved := Array.replicate 124 none
  statics := none }

def pool1 : Array CpInfo := pool [(2, .class_ 4), (1, u "java/lang/Object"), (0, u "<init>"), (0, u "()V"), (0, .string 8), (0, u "AFTER_SYNC"), (0, .integer 2147483647), (0, .class_ 11), (0, u "java/lang/String"), (0, .methodref 10 13), (0, .nameAndType 5 14), (0, u "([C)V"), (0, .methodref 10 16), (0, .nameAndType 17 18), (0, u "charAt"), (0, u "(I)C"), (0, .class_ 20), (0, u "com/example/anchorwatch/anchorwatch/model/SemiSync"), (0, .methodref 19 22), (0, .nameAndType 5 23), (0, u "(ZLjava/lang/String;ZJ)V"), (0, .methodref 19 25), (0, .nameAndType 26 27), (0, u "lossless"), (0, u "()Z"), (0, .class_ 29), (0, u "com/example/anchorwatch/anchorwatch/model/SemiSyncLosslessPinLaw"), (2, u "law"), (0, u "(IIIJ)Z")] 5

def k1m0 : Method := { name := "<init>", desc := "()V", sig := { parameters := [], returnType := none }, accessFlags := 1, code := none }
def k1c1 : Code := { maxStack := 7, maxLocals := 15, code := code, exceptionTable := #[], attributes := #[] }
def k1m1 : Method := { name := "law", desc := "(IIIJ)Z", sig := { parameters := [.int, .int, .int, .long], returnType := some .boolean }, accessFlags := 9, code := some k1c1 }
/-- com/example/anchorwatch/anchorwatch/model/SemiSyncLosslessPinLaw -/
def k1 : Class := { plain "com/example/anchorwatch/anchorwatch/model/SemiSyncLosslessPinLaw" (some 0) with
  accessFlags := 49
  interfaces := #[]
  cf := some (fileOf pool1 28 #[] #[{ accessFlags := 1, nameIndex := 5, descriptorIndex := 6, attributes := #[] }, { accessFlags := 9, nameIndex := 32, descriptorIndex := 33, attributes := #[] }] 49 2 #[] #[])
  fields := #[]
  methods := #[k1m0, k1m1]
  instanceTypes := #[]
  staticTypes := #[]
  resolved := Array.replicate 39 none
  statics := none }

def pool2 : Array CpInfo := pool [(1, .class_ 2), (0, u "java/io/Serializable"), (0, .class_ 4), (0, u "java/lang/Object")] 2

/-- java/io/Serializable -/
def k2 : Class := { plain "java/io/Serializable" (some 0) with
  accessFlags := 1537
  interfaces := #[]
  cf := some (fileOf pool2 1 #[] #[] 1537 3 #[] #[])
  fields := #[]
  methods := #[]
  instanceTypes := #[]
  staticTypes := #[]
  resolved := Array.replicate 7 none
  statics := none }

def pool3 : Array CpInfo := pool [(1, .class_ 2), (0, u "java/lang/Comparable"), (0, .class_ 4), (0, u "java/lang/Object")] 7

/-- java/lang/Comparable -/
def k3 : Class := { plain "java/lang/Comparable" (some 0) with
  accessFlags := 1537
  interfaces := #[]
  cf := some (fileOf pool3 1 #[] #[] 1537 3 #[] #[])
  fields := #[]
  methods := #[]
  instanceTypes := #[]
  staticTypes := #[]
  resolved := Array.replicate 12 none
  statics := none }

def pool4 : Array CpInfo := pool [(2, .class_ 4), (1, u "java/lang/CharSequence"), (42, .class_ 48), (0, u "java/lang/CharSequence$1CodePointIterator"), (10, .class_ 60), (0, u "java/lang/CharSequence$1CharIterator"), (5, .class_ 67), (0, u "java/lang/Object")] 63

/-- java/lang/CharSequence -/
def k4 : Class := { plain "java/lang/CharSequence" (some 0) with
  accessFlags := 1537
  interfaces := #[]
  cf := some (fileOf pool4 2 #[.nestMembers #[47, 59]] #[] 1537 66 #[] #[])
  fields := #[]
  methods := #[]
  instanceTypes := #[]
  staticTypes := #[]
  resolved := Array.replicate 131 none
  statics := none }

def pool5 : Array CpInfo := pool [(1, .class_ 2), (0, u "java/lang/constant/Constable"), (0, .class_ 4), (0, u "java/lang/Object")] 6

/-- java/lang/constant/Constable -/
def k5 : Class := { plain "java/lang/constant/Constable" (some 0) with
  accessFlags := 1537
  interfaces := #[]
  cf := some (fileOf pool5 1 #[] #[] 1537 3 #[] #[])
  fields := #[]
  methods := #[]
  instanceTypes := #[]
  staticTypes := #[]
  resolved := Array.replicate 11 none
  statics := none }

def pool6 : Array CpInfo := pool [(1, .class_ 2), (0, u "java/lang/constant/ConstantDesc"), (0, .class_ 4), (0, u "java/lang/Object")] 32

/-- java/lang/constant/ConstantDesc -/
def k6 : Class := { plain "java/lang/constant/ConstantDesc" (some 0) with
  accessFlags := 1537
  interfaces := #[]
  cf := some (fileOf pool6 1 #[] #[] 1537 3 #[] #[])
  fields := #[]
  methods := #[]
  instanceTypes := #[]
  staticTypes := #[]
  resolved := Array.replicate 37 none
  statics := none }

def pool7 : Array CpInfo := pool [(1, .methodref 2 3), (0, .class_ 4), (0, .nameAndType 5 6), (0, u "java/lang/Object"), (0, u "<init>"), (0, u "()V"), (2, .fieldref 10 11), (0, .class_ 12), (0, .nameAndType 13 14), (0, u "java/lang/String"), (0, u "value"), (0, u "[B"), (0, .fieldref 10 16), (0, .nameAndType 17 18), (0, u "coder"), (0, u "B"), (2, u "hash"), (0, u "I"), (2, u "hashIsZero"), (0, u "Z"), (0, .methodref 10 28), (0, .nameAndType 5 29), (0, u "([CIILjava/lang/Void;)V"), (8, .fieldref 10 39), (0, .nameAndType 40 26), (0, u "COMPACT_STRINGS"), (1, .class_ 44), (1, u "java/lang/StringUTF16"), (0, u "compress"), (1, .methodref 42 48), (0, .nameAndType 49 50), (0, u "coderFromArrayLen"), (0, u "([BI)B"), (56, .class_ 109), (1, u "java/lang/StringLatin1"), (32, u "()Z"), (34, .methodref 42 178), (0, .nameAndType 45 179), (0, u "([CII)[B"), (183, u "([BI)C"), (27, u "(II)V"), (35, u "(I)C"), (64, .methodref 10 493), (0, .nameAndType 494 142), (0, u "isLatin1"), (0, .methodref 107 496), (0, .nameAndType 497 363), (0, u "charAt"), (3, u "checkIndex"), (39, .methodref 107 542), (0, .nameAndType 543 544), (0, u "equals"), (0, u "([B[B)Z"), (28, u "(Ljava/lang/Object;)Z"), (1, .class_ 576), (0, u "java/lang/CharSequence"), (22, u "CASE_INSENSITIVE_ORDER"), (0, u "Ljava/util/Comparator;"), (409, u "([C)V"), (42, .fieldref 1054 1055), (0, .class_ 1056), (0, .nameAndType 1057 1058), (0, u "jdk/internal/util/Preconditions"), (0, u "SIOOBE_FORMATTER"), (0, u "Ljava/util/function/BiFunction;"), (0, .methodref 1054 1060), (0, .nameAndType 501 1061), (0, u "(IILjava/util/function/BiFunction;)I"), (39, u "serialPersistentFields"), (0, u "[Ljava/io/ObjectStreamField;"), (0, .class_ 1104), (0, u "java/lang/String$CaseInsensitiveComparator"), (1, .class_ 1107), (0, u "java/io/Serializable"), (0, .class_ 1109), (0, u "java/lang/Comparable"), (0, .class_ 1111), (0, u "java/lang/constant/Constable"), (0, .class_ 1113), (0, u "java/lang/constant/ConstantDesc"), (2, u "serialVersionUID"), (0, u "J"), (3, u "REPL"), (0, u "C"), (2, u "LATIN1"), (1, u "UTF16")] 323

def k7m0 : Method := { name := "<init>", desc := "()V", sig := { parameters := [], returnType := none }, accessFlags := 1, code := none }
def k7c1 : Code := { maxStack := 5, maxLocals := 2, code := jdk_42_method_3_code, exceptionTable := #[], attributes := #[] }
def k7m1 : Method := { name := "<init>", desc := "([C)V", sig := { parameters := [(.array .char)], returnType := none }, accessFlags := 1, code := some k7c1 }
def k7c2 : Code := { maxStack := 2, maxLocals := 2, code := jdk_42_method_56_code, exceptionTable := #[], attributes := #[] }
def k7m2 : Method := { name := "charAt", desc := "(I)C", sig := { parameters := [.int], returnType := some .char }, accessFlags := 1, code := some k7c2 }
def k7c3 : Code := { maxStack := 2, maxLocals := 3, code := jdk_42_method_66_code, exceptionTable := #[], attributes := #[] }
def k7m3 : Method := { name := "equals", desc := "(Ljava/lang/Object;)Z", sig := { parameters := [(.object "java/lang/Object")], returnType := some .boolean }, accessFlags := 1, code := some k7c3 }
def k7c4 : Code := { maxStack := 4, maxLocals := 6, code := jdk_42_method_149_code, exceptionTable := #[], attributes := #[] }
def k7m4 : Method := { name := "<init>", desc := "([CIILjava/lang/Void;)V", sig := { parameters := [(.array .char), .int, .int, (.object "java/lang/Void")], returnType := none }, accessFlags := 2, code := some k7c4 }
def k7c5 : Code := { maxStack := 1, maxLocals := 1, code := jdk_42_method_154_code, exceptionTable := #[], attributes := #[] }
def k7m5 : Method := { name := "isLatin1", desc := "()Z", sig := { parameters := [], returnType := some .boolean }, accessFlags := 0, code := some k7c5 }
def k7c6 : Code := { maxStack := 3, maxLocals := 2, code := jdk_42_method_155_code, exceptionTable := #[], attributes := #[] }
def k7m6 : Method := { name := "checkIndex", desc := "(II)V", sig := { parameters := [.int, .int], returnType := none }, accessFlags := 8, code := some k7c6 }
/-- java/lang/String -/
def k7 : Class := { plain "java/lang/String" (some 0) with
  accessFlags := 49
  interfaces := #[2, 3, 4, 5, 6]
  cf := some (fileOf pool7 10 #[.nestMembers #[1103]] #[{ accessFlags := 1, nameIndex := 5, descriptorIndex := 6, attributes := #[] }, { accessFlags := 1, nameIndex := 5, descriptorIndex := 1010, attributes := #[] }, { accessFlags := 1, nameIndex := 497, descriptorIndex := 427, attributes := #[] }, { accessFlags := 1, nameIndex := 543, descriptorIndex := 573, attributes := #[] }, { accessFlags := 2, nameIndex := 5, descriptorIndex := 29, attributes := #[] }, { accessFlags := 0, nameIndex := 494, descriptorIndex := 142, attributes := #[] }, { accessFlags := 8, nameIndex := 501, descriptorIndex := 391, attributes := #[] }] 49 2 #[1106, 1108, 575, 1110, 1112] #[{ accessFlags := 18, nameIndex := 13, descriptorIndex := 14, attributes := #[] }, { accessFlags := 18, nameIndex := 17, descriptorIndex := 18, attributes := #[] }, { accessFlags := 2, nameIndex := 21, descriptorIndex := 22, attributes := #[] }, { accessFlags := 2, nameIndex := 25, descriptorIndex := 26, attributes := #[] }, { accessFlags := 26, nameIndex := 1116, descriptorIndex := 1117, attributes := #[] }, { accessFlags := 24, nameIndex := 40, descriptorIndex := 26, attributes := #[] }, { accessFlags := 26, nameIndex := 1101, descriptorIndex := 1102, attributes := #[] }, { accessFlags := 26, nameIndex := 1121, descriptorIndex := 1122, attributes := #[] }, { accessFlags := 25, nameIndex := 599, descriptorIndex := 600, attributes := #[] }, { accessFlags := 24, nameIndex := 1125, descriptorIndex := 18, attributes := #[] }, { accessFlags := 24, nameIndex := 1127, descriptorIndex := 18, attributes := #[] }])
  fields := #[{ name := "value", type := (.array .byte), accessFlags := 18, slot := 0, constantValue := 0 }, { name := "coder", type := .byte, accessFlags := 18, slot := 1, constantValue := 0 }, { name := "hash", type := .int, accessFlags := 2, slot := 2, constantValue := 0 }, { name := "hashIsZero", type := .boolean, accessFlags := 2, slot := 3, constantValue := 0 }, { name := "serialVersionUID", type := .long, accessFlags := 26, slot := 0, constantValue := 0 }, { name := "COMPACT_STRINGS", type := .boolean, accessFlags := 24, slot := 1, constantValue := 0 }, { name := "serialPersistentFields", type := (.array (.object "java/io/ObjectStreamField")), accessFlags := 26, slot := 2, constantValue := 0 }, { name := "REPL", type := .char, accessFlags := 26, slot := 3, constantValue := 0 }, { name := "CASE_INSENSITIVE_ORDER", type := (.object "java/util/Comparator"), accessFlags := 25, slot := 4, constantValue := 0 }, { name := "LATIN1", type := .byte, accessFlags := 24, slot := 5, constantValue := 0 }, { name := "UTF16", type := .byte, accessFlags := 24, slot := 6, constantValue := 0 }]
  methods := #[k7m0, k7m1, k7m2, k7m3, k7m4, k7m5, k7m6]
  instanceTypes := #[(.array .byte), .byte, .int, .boolean]
  staticTypes := #[.long, .boolean, (.array (.object "java/io/ObjectStreamField")), .char, (.object "java/util/Comparator"), .byte, .byte]
  resolved := Array.replicate 1451 none
  statics := some 0 }

def pool8 : Array CpInfo := pool [(6, .class_ 8), (1, u "java/lang/Object"), (0, u "<init>"), (0, u "()V"), (1, .class_ 14), (1, u "java/lang/StringUTF16"), (31, u "$assertionsDisabled"), (0, u "Z"), (13, u "HI_BYTE_SHIFT"), (0, u "I"), (2, u "LO_BYTE_SHIFT"), (49, .methodref 12 116), (0, .nameAndType 117 118), (0, u "compress"), (0, u "([CI[BII)I"), (3, u "([CII)[B"), (138, u "coderFromArrayLen"), (0, u "([BI)B"), (106, .class_ 371), (1, u "java/lang/StringUTF16$LinesSpliterator"), (58, u "MAX_LENGTH"), (196, .class_ 628), (0, u "java/lang/StringUTF16$CodePointsSpliterator"), (0, .class_ 630), (0, u "java/lang/StringUTF16$CharsSpliterator")] 4

def k8m0 : Method := { name := "<init>", desc := "()V", sig := { parameters := [], returnType := none }, accessFlags := 0, code := none }
def k8c1 : Code := { maxStack := 2, maxLocals := 2, code := jdk_52_method_15_code, exceptionTable := #[], attributes := #[] }
def k8m1 : Method := { name := "coderFromArrayLen", desc := "([BI)B", sig := { parameters := [(.array .byte), .int], returnType := some .byte }, accessFlags := 8, code := some k8c1 }
def k8c2 : Code := { maxStack := 5, maxLocals := 6, code := jdk_52_method_16_code, exceptionTable := #[], attributes := #[] }
def k8m2 : Method := { name := "compress", desc := "([CII)[B", sig := { parameters := [(.array .char), .int, .int], returnType := some (.array .byte) }, accessFlags := 9, code := some k8c2 }
def k8c3 : Code := { maxStack := 3, maxLocals := 7, code := jdk_52_method_21_code, exceptionTable := #[], attributes := #[] }
def k8m3 : Method := { name := "compress", desc := "([CI[BII)I", sig := { parameters := [(.array .char), .int, (.array .byte), .int, .int], returnType := some .int }, accessFlags := 9, code := some k8c3 }
/-- java/lang/StringUTF16 -/
def k8 : Class := { plain "java/lang/StringUTF16" (some 0) with
  accessFlags := 48
  interfaces := #[]
  cf := some (fileOf pool8 12 #[.nestMembers #[627, 629, 369]] #[{ accessFlags := 0, nameIndex := 9, descriptorIndex := 10, attributes := #[] }, { accessFlags := 8, nameIndex := 261, descriptorIndex := 262, attributes := #[] }, { accessFlags := 9, nameIndex := 117, descriptorIndex := 122, attributes := #[] }, { accessFlags := 9, nameIndex := 117, descriptorIndex := 118, attributes := #[] }] 48 6 #[] #[{ accessFlags := 26, nameIndex := 61, descriptorIndex := 62, attributes := #[] }, { accessFlags := 26, nameIndex := 65, descriptorIndex := 62, attributes := #[] }, { accessFlags := 24, nameIndex := 430, descriptorIndex := 62, attributes := #[] }, { accessFlags := 4120, nameIndex := 46, descriptorIndex := 47, attributes := #[] }])
  fields := #[{ name := "HI_BYTE_SHIFT", type := .int, accessFlags := 26, slot := 0, constantValue := 0 }, { name := "LO_BYTE_SHIFT", type := .int, accessFlags := 26, slot := 1, constantValue := 0 }, { name := "MAX_LENGTH", type := .int, accessFlags := 24, slot := 2, constantValue := 0 }, { name := "$assertionsDisabled", type := .boolean, accessFlags := 4120, slot := 3, constantValue := 0 }]
  methods := #[k8m0, k8m1, k8m2, k8m3]
  instanceTypes := #[]
  staticTypes := #[.int, .int, .int, .boolean]
  resolved := Array.replicate 635 none
  statics := none }

def pool9 : Array CpInfo := pool [(1, .class_ 2), (0, u "java/lang/String"), (1, .class_ 6), (1, u "java/lang/Object"), (0, u "<init>"), (0, u "()V"), (0, .methodref 1 10), (0, .nameAndType 11 12), (0, u "checkIndex"), (0, u "(II)V"), (1, .class_ 16), (1, u "java/lang/StringLatin1"), (36, u "([BI)C"), (67, u "$assertionsDisabled"), (0, u "Z"), (98, .class_ 223), (1, u "java/lang/StringLatin1$LinesSpliterator"), (28, u "charAt"), (28, u "equals"), (0, u "([B[B)Z"), (107, .class_ 391), (0, u "java/lang/StringLatin1$CharsSpliterator")] 3

def k9m0 : Method := { name := "<init>", desc := "()V", sig := { parameters := [], returnType := none }, accessFlags := 0, code := none }
def k9c1 : Code := { maxStack := 2, maxLocals := 2, code := jdk_43_method_2_code, exceptionTable := #[], attributes := #[] }
def k9m1 : Method := { name := "charAt", desc := "([BI)C", sig := { parameters := [(.array .byte), .int], returnType := some .char }, accessFlags := 9, code := some k9c1 }
def k9c2 : Code := { maxStack := 3, maxLocals := 3, code := jdk_43_method_13_code, exceptionTable := #[], attributes := #[] }
def k9m2 : Method := { name := "equals", desc := "([B[B)Z", sig := { parameters := [(.array .byte), (.array .byte)], returnType := some .boolean }, accessFlags := 9, code := some k9c2 }
/-- java/lang/StringLatin1 -/
def k9 : Class := { plain "java/lang/StringLatin1" (some 0) with
  accessFlags := 48
  interfaces := #[]
  cf := some (fileOf pool9 14 #[.nestMembers #[390, 221]] #[{ accessFlags := 0, nameIndex := 7, descriptorIndex := 8, attributes := #[] }, { accessFlags := 9, nameIndex := 252, descriptorIndex := 53, attributes := #[] }, { accessFlags := 9, nameIndex := 281, descriptorIndex := 282, attributes := #[] }] 48 4 #[] #[{ accessFlags := 4120, nameIndex := 121, descriptorIndex := 122, attributes := #[] }])
  fields := #[{ name := "$assertionsDisabled", type := .boolean, accessFlags := 4120, slot := 0, constantValue := 0 }]
  methods := #[k9m0, k9m1, k9m2]
  instanceTypes := #[]
  staticTypes := #[.boolean]
  resolved := Array.replicate 395 none
  statics := none }

def pool10 : Array CpInfo := pool [(2, .class_ 4), (1, u "java/lang/Object"), (0, u "<init>"), (0, u "()V"), (17, .class_ 26), (1, u "jdk/internal/util/Preconditions"), (6, u "checkIndex"), (21, .class_ 56), (0, u "jdk/internal/util/Preconditions$4"), (57, .class_ 115), (0, u "jdk/internal/util/Preconditions$1"), (7, u "SIOOBE_FORMATTER"), (0, u "Ljava/util/function/BiFunction;"), (0, .class_ 126), (0, u "jdk/internal/util/Preconditions$2"), (3, u "AIOOBE_FORMATTER"), (0, .class_ 132), (0, u "jdk/internal/util/Preconditions$3"), (3, u "IOOBE_FORMATTER"), (41, u "(IILjava/util/function/BiFunction;)I")] 15

def k10m0 : Method := { name := "<init>", desc := "()V", sig := { parameters := [], returnType := none }, accessFlags := 1, code := none }
def k10c1 : Code := { maxStack := 3, maxLocals := 3, code := jdk_41_method_11_code, exceptionTable := #[], attributes := #[] }
def k10m1 : Method := { name := "checkIndex", desc := "(IILjava/util/function/BiFunction;)I", sig := { parameters := [.int, .int, (.object "java/util/function/BiFunction")], returnType := some .int }, accessFlags := 9, code := some k10c1 }
/-- jdk/internal/util/Preconditions -/
def k10 : Class := { plain "jdk/internal/util/Preconditions" (some 0) with
  accessFlags := 33
  interfaces := #[]
  cf := some (fileOf pool10 24 #[.nestMembers #[55, 131, 125, 114]] #[{ accessFlags := 1, nameIndex := 5, descriptorIndex := 6, attributes := #[] }, { accessFlags := 9, nameIndex := 33, descriptorIndex := 178, attributes := #[] }] 33 2 #[] #[{ accessFlags := 25, nameIndex := 123, descriptorIndex := 124, attributes := #[] }, { accessFlags := 25, nameIndex := 130, descriptorIndex := 124, attributes := #[] }, { accessFlags := 25, nameIndex := 136, descriptorIndex := 124, attributes := #[] }])
  fields := #[{ name := "SIOOBE_FORMATTER", type := (.object "java/util/function/BiFunction"), accessFlags := 25, slot := 0, constantValue := 0 }, { name := "AIOOBE_FORMATTER", type := (.object "java/util/function/BiFunction"), accessFlags := 25, slot := 1, constantValue := 0 }, { name := "IOOBE_FORMATTER", type := (.object "java/util/function/BiFunction"), accessFlags := 25, slot := 2, constantValue := 0 }]
  methods := #[k10m0, k10m1]
  instanceTypes := #[]
  staticTypes := #[(.object "java/util/function/BiFunction"), (.object "java/util/function/BiFunction"), (.object "java/util/function/BiFunction")]
  resolved := Array.replicate 194 none
  statics := some 1 }

def pool11 : Array CpInfo := pool [(1, .methodref 2 3), (0, .class_ 4), (0, .nameAndType 5 6), (0, u "java/lang/Object"), (0, u "<init>"), (0, u "()V"), (0, .class_ 8), (0, u "java/lang/Record")] 13

def k11c0 : Code := { maxStack := 1, maxLocals := 1, code := jdk_30_method_1_code, exceptionTable := #[], attributes := #[] }
def k11m0 : Method := { name := "<init>", desc := "()V", sig := { parameters := [], returnType := none }, accessFlags := 4, code := some k11c0 }
/-- java/lang/Record -/
def k11 : Class := { plain "java/lang/Record" (some 0) with
  accessFlags := 1057
  interfaces := #[]
  cf := some (fileOf pool11 7 #[] #[{ accessFlags := 4, nameIndex := 5, descriptorIndex := 6, attributes := #[] }] 1057 2 #[] #[])
  fields := #[]
  methods := #[k11m0]
  instanceTypes := #[]
  staticTypes := #[]
  resolved := Array.replicate 22 none
  statics := none }

def pool12 : Array CpInfo := pool [(1, .methodref 2 3), (0, .class_ 4), (0, .nameAndType 5 6), (0, u "java/lang/Record"), (0, u "<init>"), (0, u "()V"), (0, .fieldref 8 9), (0, .class_ 10), (0, .nameAndType 11 12), (0, u "com/example/anchorwatch/anchorwatch/model/SemiSync"), (0, u "enabled"), (0, u "Z"), (0, .fieldref 8 14), (0, .nameAndType 15 16), (0, u "waitPoint"), (0, u "Ljava/lang/String;"), (0, .fieldref 8 18), (0, .nameAndType 19 12), (0, u "active"), (0, .fieldref 8 21), (0, .nameAndType 22 23), (0, u "clients"), (0, u "J"), (0, .string 25), (0, u "AFTER_SYNC"), (0, .methodref 27 28), (0, .class_ 29), (0, .nameAndType 30 31), (0, u "java/lang/String"), (0, u "equals"), (0, u "(Ljava/lang/Object;)Z"), (12, u "(ZLjava/lang/String;ZJ)V"), (3, u "lossless"), (0, u "()Z")] 27

def k12c0 : Code := { maxStack := 3, maxLocals := 6, code := prog_51_method_1_code, exceptionTable := #[], attributes := #[] }
def k12m0 : Method := { name := "<init>", desc := "(ZLjava/lang/String;ZJ)V", sig := { parameters := [.boolean, (.object "java/lang/String"), .boolean, .long], returnType := none }, accessFlags := 1, code := some k12c0 }
def k12c1 : Code := { maxStack := 4, maxLocals := 1, code := prog_51_method_2_code, exceptionTable := #[], attributes := #[] }
def k12m1 : Method := { name := "lossless", desc := "()Z", sig := { parameters := [], returnType := some .boolean }, accessFlags := 1, code := some k12c1 }
/-- com/example/anchorwatch/anchorwatch/model/SemiSync -/
def k12 : Class := { plain "com/example/anchorwatch/anchorwatch/model/SemiSync" (some 11) with
  accessFlags := 49
  interfaces := #[]
  cf := some (fileOf pool12 8 #[] #[{ accessFlags := 1, nameIndex := 5, descriptorIndex := 44, attributes := #[] }, { accessFlags := 1, nameIndex := 48, descriptorIndex := 49, attributes := #[] }] 49 2 #[] #[{ accessFlags := 18, nameIndex := 11, descriptorIndex := 12, attributes := #[] }, { accessFlags := 18, nameIndex := 15, descriptorIndex := 16, attributes := #[] }, { accessFlags := 18, nameIndex := 19, descriptorIndex := 12, attributes := #[] }, { accessFlags := 18, nameIndex := 22, descriptorIndex := 23, attributes := #[] }, { accessFlags := 25, nameIndex := 25, descriptorIndex := 16, attributes := #[] }])
  fields := #[{ name := "enabled", type := .boolean, accessFlags := 18, slot := 0, constantValue := 0 }, { name := "waitPoint", type := (.object "java/lang/String"), accessFlags := 18, slot := 1, constantValue := 0 }, { name := "active", type := .boolean, accessFlags := 18, slot := 2, constantValue := 0 }, { name := "clients", type := .long, accessFlags := 18, slot := 3, constantValue := 0 }, { name := "AFTER_SYNC", type := (.object "java/lang/String"), accessFlags := 25, slot := 0, constantValue := 0 }]
  methods := #[k12m0, k12m1]
  instanceTypes := #[.boolean, (.object "java/lang/String"), .boolean, .long]
  staticTypes := #[(.object "java/lang/String")]
  resolved := Array.replicate 77 none
  statics := none }

def pool13 : Array CpInfo := pool [(9, u "<init>"), (6, .class_ 18), (1, u "java/lang/Object"), (0, u "()V"), (1, .class_ 23), (1, u "jdk/internal/util/ArraysSupport"), (0, u "LOG2_ARRAY_LONG_INDEX_SCALE"), (0, u "I"), (2, u "U"), (0, u "Ljdk/internal/misc/Unsafe;"), (8, u "BIG_ENDIAN"), (0, u "Z"), (8, u "LOG2_BYTE_BIT_SIZE"), (4, u "LOG2_ARRAY_INT_INDEX_SCALE"), (54, u "JLA"), (0, u "Ljdk/internal/access/JavaLangAccess;"), (11, u "LOG2_ARRAY_BOOLEAN_INDEX_SCALE"), (9, u "LOG2_ARRAY_BYTE_INDEX_SCALE"), (5, u "LOG2_ARRAY_CHAR_INDEX_SCALE"), (5, u "LOG2_ARRAY_SHORT_INDEX_SCALE"), (18, u "LOG2_ARRAY_FLOAT_INDEX_SCALE"), (24, u "LOG2_ARRAY_DOUBLE_INDEX_SCALE"), (89, u "T_BOOLEAN"), (2, u "T_CHAR"), (1, u "T_FLOAT"), (1, u "T_DOUBLE"), (1, u "T_BYTE"), (1, u "T_SHORT"), (1, u "T_INT"), (1, u "T_LONG"), (1, u "SOFT_MAX_ARRAY_LENGTH")] 83

def k13m0 : Method := { name := "<init>", desc := "()V", sig := { parameters := [], returnType := none }, accessFlags := 2, code := none }
/-- jdk/internal/util/ArraysSupport -/
def k13 : Class := { plain "jdk/internal/util/ArraysSupport" (some 0) with
  accessFlags := 33
  interfaces := #[]
  cf := some (fileOf pool13 21 #[] #[{ accessFlags := 2, nameIndex := 9, descriptorIndex := 19, attributes := #[] }] 33 16 #[] #[{ accessFlags := 24, nameIndex := 28, descriptorIndex := 29, attributes := #[] }, { accessFlags := 26, nameIndex := 38, descriptorIndex := 39, attributes := #[] }, { accessFlags := 25, nameIndex := 121, descriptorIndex := 25, attributes := #[] }, { accessFlags := 25, nameIndex := 131, descriptorIndex := 25, attributes := #[] }, { accessFlags := 25, nameIndex := 137, descriptorIndex := 25, attributes := #[] }, { accessFlags := 25, nameIndex := 143, descriptorIndex := 25, attributes := #[] }, { accessFlags := 25, nameIndex := 53, descriptorIndex := 25, attributes := #[] }, { accessFlags := 25, nameIndex := 24, descriptorIndex := 25, attributes := #[] }, { accessFlags := 25, nameIndex := 162, descriptorIndex := 25, attributes := #[] }, { accessFlags := 25, nameIndex := 187, descriptorIndex := 25, attributes := #[] }, { accessFlags := 26, nameIndex := 48, descriptorIndex := 25, attributes := #[] }, { accessFlags := 25, nameIndex := 277, descriptorIndex := 25, attributes := #[] }, { accessFlags := 25, nameIndex := 280, descriptorIndex := 25, attributes := #[] }, { accessFlags := 25, nameIndex := 282, descriptorIndex := 25, attributes := #[] }, { accessFlags := 25, nameIndex := 284, descriptorIndex := 25, attributes := #[] }, { accessFlags := 25, nameIndex := 286, descriptorIndex := 25, attributes := #[] }, { accessFlags := 25, nameIndex := 288, descriptorIndex := 25, attributes := #[] }, { accessFlags := 25, nameIndex := 290, descriptorIndex := 25, attributes := #[] }, { accessFlags := 25, nameIndex := 292, descriptorIndex := 25, attributes := #[] }, { accessFlags := 26, nameIndex := 108, descriptorIndex := 109, attributes := #[] }, { accessFlags := 25, nameIndex := 294, descriptorIndex := 25, attributes := #[] }])
  fields := #[{ name := "U", type := (.object "jdk/internal/misc/Unsafe"), accessFlags := 24, slot := 0, constantValue := 0 }, { name := "BIG_ENDIAN", type := .boolean, accessFlags := 26, slot := 1, constantValue := 0 }, { name := "LOG2_ARRAY_BOOLEAN_INDEX_SCALE", type := .int, accessFlags := 25, slot := 2, constantValue := 0 }, { name := "LOG2_ARRAY_BYTE_INDEX_SCALE", type := .int, accessFlags := 25, slot := 3, constantValue := 0 }, { name := "LOG2_ARRAY_CHAR_INDEX_SCALE", type := .int, accessFlags := 25, slot := 4, constantValue := 0 }, { name := "LOG2_ARRAY_SHORT_INDEX_SCALE", type := .int, accessFlags := 25, slot := 5, constantValue := 0 }, { name := "LOG2_ARRAY_INT_INDEX_SCALE", type := .int, accessFlags := 25, slot := 6, constantValue := 0 }, { name := "LOG2_ARRAY_LONG_INDEX_SCALE", type := .int, accessFlags := 25, slot := 7, constantValue := 0 }, { name := "LOG2_ARRAY_FLOAT_INDEX_SCALE", type := .int, accessFlags := 25, slot := 8, constantValue := 0 }, { name := "LOG2_ARRAY_DOUBLE_INDEX_SCALE", type := .int, accessFlags := 25, slot := 9, constantValue := 0 }, { name := "LOG2_BYTE_BIT_SIZE", type := .int, accessFlags := 26, slot := 10, constantValue := 0 }, { name := "T_BOOLEAN", type := .int, accessFlags := 25, slot := 11, constantValue := 0 }, { name := "T_CHAR", type := .int, accessFlags := 25, slot := 12, constantValue := 0 }, { name := "T_FLOAT", type := .int, accessFlags := 25, slot := 13, constantValue := 0 }, { name := "T_DOUBLE", type := .int, accessFlags := 25, slot := 14, constantValue := 0 }, { name := "T_BYTE", type := .int, accessFlags := 25, slot := 15, constantValue := 0 }, { name := "T_SHORT", type := .int, accessFlags := 25, slot := 16, constantValue := 0 }, { name := "T_INT", type := .int, accessFlags := 25, slot := 17, constantValue := 0 }, { name := "T_LONG", type := .int, accessFlags := 25, slot := 18, constantValue := 0 }, { name := "JLA", type := (.object "jdk/internal/access/JavaLangAccess"), accessFlags := 26, slot := 19, constantValue := 0 }, { name := "SOFT_MAX_ARRAY_LENGTH", type := .int, accessFlags := 25, slot := 20, constantValue := 0 }]
  methods := #[k13m0]
  instanceTypes := #[]
  staticTypes := #[(.object "jdk/internal/misc/Unsafe"), .boolean, .int, .int, .int, .int, .int, .int, .int, .int, .int, .int, .int, .int, .int, .int, .int, .int, .int, (.object "jdk/internal/access/JavaLangAccess"), .int]
  resolved := Array.replicate 378 none
  statics := none }

def pool14 : Array CpInfo := pool [(1, u "java/lang/Cloneable"), (0, .class_ 1), (0, u "java/lang/Object"), (0, .class_ 3)] 3

/-- java/lang/Cloneable -/
def k14 : Class := { plain "java/lang/Cloneable" (some 0) with
  accessFlags := 1537
  interfaces := #[]
  cf := some (fileOf pool14 2 #[] #[] 1537 4 #[] #[])
  fields := #[]
  methods := #[]
  instanceTypes := #[]
  staticTypes := #[]
  resolved := Array.replicate 8 none
  statics := none }

/-- the primitive byte -/
def k15 : Class := { plain "byte" none with kind := .primitive 'B', accessFlags := 0x411 }
/-- [B -/
def k16 : Class := { plain "[B" (some 0) with kind := .array 15 .byte, interfaces := #[14, 2], accessFlags := 1041 }

/-- the primitive char -/
def k17 : Class := { plain "char" none with kind := .primitive 'C', accessFlags := 0x411 }
/-- [C -/
def k18 : Class := { plain "[C" (some 0) with kind := .array 17 .char, interfaces := #[14, 2], accessFlags := 1041 }

/-- the primitive int -/
def k19 : Class := { plain "int" none with kind := .primitive 'I', accessFlags := 0x411 }
/-- [I -/
def k20 : Class := { plain "[I" (some 0) with kind := .array 19 .int, interfaces := #[14, 2], accessFlags := 1041 }

def heap : Heap := #[{ cls := 7, slots := #[.long 0, .int 1, .null, .int 0, .null, .int 0, .int 0], vm := .statics 7 },
  { cls := 10, slots := #[.null, .null, .null], vm := .statics 10 }]
def classes : Array Class := #[k0, k1, k2, k3, k4, k5, k6, k7, k8, k9, k10, k11, k12, k13, k14, k15, k16, k17, k18, k19, k20]
def interned : List (Array UInt16 × Addr) := []
def slotsUsed : Nat := 10
def theMethod : MethodId := ⟨1, 1⟩
def args0 : Array Value := #[.int 3, .int 1, .int 70, .long 5]
def aboutOver (below : List Frame) : State where
  vm := { classes := classes, interned := interned.toArray }
  heap := heap
  slotsUsed := slotsUsed
  threads := #[{ frames := .invoking theMethod args0 :: below }]
def below0 : List Frame := [.native { method := ⟨0, 0⟩, args := #[] }]
def about1 : State := aboutOver below0
def p0 : Program := .bare "" "" ""
def e0 : Env := launch0.env 0 0 0
theorem w_frames : about1.frames = Frame.invoking theMethod args0 :: below0 := rfl
set_option maxRecDepth 65536 in
theorem w_args : argsFit about1.vm theMethod args0 = true := by decide +kernel
set_option maxRecDepth 65536 in
theorem w_heap : heapFits about1 = true := by decide +kernel
set_option maxRecDepth 65536 in
theorem w_runnable : about1.curStatus? = some .runnable := by decide +kernel
set_option maxRecDepth 65536 in
theorem w_alone : about1.alone = true := by decide +kernel
set_option maxRecDepth 65536 in
theorem w_named : about1.methodNamed? x = some theMethod := by decide +kernel
set_option maxRecDepth 65536 in
theorem w_hears : about1.hears theMethod below0 = true := by decide +kernel
set_option maxRecDepth 65536 in
theorem w_ripe : about1.ripe theMethod args0 below0 = true := by decide +kernel
theorem w_running : about1.status = .running := rfl
set_option maxRecDepth 65536 in
theorem w_room : about1.hasRoom e0.platform room_1 = true :=
  launch0.hasRoom_least _ room_1 (by decide +kernel) (by decide +kernel) (by decide +kernel) (by decide +kernel) (by decide +kernel) (by decide +kernel)
theorem allAtoms_all (ts : List Jvm.Cond) (a : Array Jvm.Value) (st : Jvm.State) : (allAtoms ts).before a st = ts.all (fun c => c.before a st) := by
  induction ts with
  | nil => rfl
  | cons c t ih =>
    show (Jvm.Cond.and c (allAtoms t)).before a st = _
    rw [Jvm.Cond.before_and, ih, List.all_cons]
def words1 : List Jvm.Cond := Jvm.Cond.code x code maxLocals ret :: tables_1
/-- a 'code' word, met by the world's own term for the bytes: nothing is compared byte by byte -/
theorem code_word {y : MethodName} {bytes : ByteArray} {mx : Nat} {rt : Option FieldType} {a : Array Value} {s : State} {m : MethodId} {meth : Method} {c : Code} (h1 : s.methodNamed? y = some m) (h2 : s.vm.method? m = some meth) (h3 : meth.code = some c) (h4 : c.code = bytes)
    (h5 : (c.maxLocals == mx && c.exceptionTable.isEmpty && decide (c.maxStack ≤ mostOperands) && decide (meth.sig.returnType = rt) && !meth.locks && decide (parseMethodDescriptor y.desc = some meth.sig)) = true) : (Jvm.Cond.code y bytes mx rt).before a s = true := by
  simp only [Bool.and_eq_true, beq_iff_eq, Bool.not_eq_true', decide_eq_true_eq] at h5
  obtain ⟨⟨⟨⟨⟨g1, g2⟩, g3⟩, g4⟩, g5⟩, g6⟩ := h5
  simp [Cond.before, Cond.holds, Cond.value, h1, h2, h3, h4, g1, g2, g3, g4, g5, g6]
def isCode : Jvm.Cond → Bool
  | .code _ _ _ _ => true
  | _ => false
theorem all_split {L : List Jvm.Cond} {P : Jvm.Cond → Bool} (h1 : L.all (fun c => isCode c || P c) = true) (h2 : ∀ c ∈ L.filter isCode, P c = true) : L.all P = true := by
  refine List.all_eq_true.mpr fun c hc => ?_
  have h := List.all_eq_true.mp h1 c hc
  rcases Bool.eq_false_or_eq_true (isCode c) with hi | hi
  · exact h2 c (List.mem_filter.mpr ⟨hc, hi⟩)
  · simpa [hi] using h
set_option maxRecDepth 65536 in
theorem w_c0 : (Jvm.Cond.code x code maxLocals ret).before args0 about1 = true := code_word (m := ⟨1, 1⟩) (meth := k1m1) (c := k1c1) (by decide +kernel) rfl rfl rfl (by decide +kernel)
set_option maxRecDepth 65536 in
theorem w_c1 : (Jvm.Cond.code ({ cls := "java/lang/String", name := "<init>", desc := "([C)V" } : Jvm.MethodName) jdk_42_method_3_code (2 : Nat) (Option.none : Option Jvm.ClassFile.FieldType)).before args0 about1 = true := code_word (m := ⟨7, 1⟩) (meth := k7m1) (c := k7c1) (by decide +kernel) rfl rfl rfl (by decide +kernel)
set_option maxRecDepth 65536 in
theorem w_c2 : (Jvm.Cond.code ({ cls := "java/lang/String", name := "<init>", desc := "([CIILjava/lang/Void;)V" } : Jvm.MethodName) jdk_42_method_149_code (6 : Nat) (Option.none : Option Jvm.ClassFile.FieldType)).before args0 about1 = true := code_word (m := ⟨7, 4⟩) (meth := k7m4) (c := k7c4) (by decide +kernel) rfl rfl rfl (by decide +kernel)
set_option maxRecDepth 65536 in
theorem w_c3 : (Jvm.Cond.code ({ cls := "java/lang/Object", name := "<init>", desc := "()V" } : Jvm.MethodName) object_method_1_code (1 : Nat) (Option.none : Option Jvm.ClassFile.FieldType)).before args0 about1 = true := code_word (m := ⟨0, 0⟩) (meth := k0m0) (c := k0c0) (by decide +kernel) rfl rfl rfl (by decide +kernel)
set_option maxRecDepth 65536 in
theorem w_c4 : (Jvm.Cond.code ({ cls := "java/lang/StringUTF16", name := "compress", desc := "([CII)[B" } : Jvm.MethodName) jdk_52_method_16_code (6 : Nat) (Option.some (Jvm.ClassFile.FieldType.array Jvm.ClassFile.FieldType.byte))).before args0 about1 = true := code_word (m := ⟨8, 2⟩) (meth := k8m2) (c := k8c2) (by decide +kernel) rfl rfl rfl (by decide +kernel)
set_option maxRecDepth 65536 in
theorem w_c5 : (Jvm.Cond.code ({ cls := "java/lang/StringUTF16", name := "compress", desc := "([CI[BII)I" } : Jvm.MethodName) jdk_52_method_21_code (7 : Nat) (Option.some Jvm.ClassFile.FieldType.int)).before args0 about1 = true := code_word (m := ⟨8, 3⟩) (meth := k8m3) (c := k8c3) (by decide +kernel) rfl rfl rfl (by decide +kernel)
set_option maxRecDepth 65536 in
theorem w_c6 : (Jvm.Cond.code ({ cls := "java/lang/StringUTF16", name := "coderFromArrayLen", desc := "([BI)B" } : Jvm.MethodName) jdk_52_method_15_code (2 : Nat) (Option.some Jvm.ClassFile.FieldType.byte)).before args0 about1 = true := code_word (m := ⟨8, 1⟩) (meth := k8m1) (c := k8c1) (by decide +kernel) rfl rfl rfl (by decide +kernel)
set_option maxRecDepth 65536 in
theorem w_c7 : (Jvm.Cond.code ({ cls := "java/lang/String", name := "charAt", desc := "(I)C" } : Jvm.MethodName) jdk_42_method_56_code (2 : Nat) (Option.some Jvm.ClassFile.FieldType.char)).before args0 about1 = true := code_word (m := ⟨7, 2⟩) (meth := k7m2) (c := k7c2) (by decide +kernel) rfl rfl rfl (by decide +kernel)
set_option maxRecDepth 65536 in
theorem w_c8 : (Jvm.Cond.code ({ cls := "java/lang/String", name := "isLatin1", desc := "()Z" } : Jvm.MethodName) jdk_42_method_154_code (1 : Nat) (Option.some Jvm.ClassFile.FieldType.boolean)).before args0 about1 = true := code_word (m := ⟨7, 5⟩) (meth := k7m5) (c := k7c5) (by decide +kernel) rfl rfl rfl (by decide +kernel)
set_option maxRecDepth 65536 in
theorem w_c9 : (Jvm.Cond.code ({ cls := "java/lang/StringLatin1", name := "charAt", desc := "([BI)C" } : Jvm.MethodName) jdk_43_method_2_code (2 : Nat) (Option.some Jvm.ClassFile.FieldType.char)).before args0 about1 = true := code_word (m := ⟨9, 1⟩) (meth := k9m1) (c := k9c1) (by decide +kernel) rfl rfl rfl (by decide +kernel)
set_option maxRecDepth 65536 in
theorem w_c10 : (Jvm.Cond.code ({ cls := "java/lang/String", name := "checkIndex", desc := "(II)V" } : Jvm.MethodName) jdk_42_method_155_code (2 : Nat) (Option.none : Option Jvm.ClassFile.FieldType)).before args0 about1 = true := code_word (m := ⟨7, 6⟩) (meth := k7m6) (c := k7c6) (by decide +kernel) rfl rfl rfl (by decide +kernel)
set_option maxRecDepth 65536 in
theorem w_c11 : (Jvm.Cond.code ({ cls := "jdk/internal/util/Preconditions", name := "checkIndex", desc := "(IILjava/util/function/BiFunction;)I" } : Jvm.MethodName) jdk_41_method_11_code (3 : Nat) (Option.some Jvm.ClassFile.FieldType.int)).before args0 about1 = true := code_word (m := ⟨10, 1⟩) (meth := k10m1) (c := k10c1) (by decide +kernel) rfl rfl rfl (by decide +kernel)
set_option maxRecDepth 65536 in
theorem w_c12 : (Jvm.Cond.code ({ cls := "com/example/anchorwatch/anchorwatch/model/SemiSync", name := "<init>", desc := "(ZLjava/lang/String;ZJ)V" } : Jvm.MethodName) prog_51_method_1_code (6 : Nat) (Option.none : Option Jvm.ClassFile.FieldType)).before args0 about1 = true := code_word (m := ⟨12, 0⟩) (meth := k12m0) (c := k12c0) (by decide +kernel) rfl rfl rfl (by decide +kernel)
set_option maxRecDepth 65536 in
theorem w_c13 : (Jvm.Cond.code ({ cls := "java/lang/Record", name := "<init>", desc := "()V" } : Jvm.MethodName) jdk_30_method_1_code (1 : Nat) (Option.none : Option Jvm.ClassFile.FieldType)).before args0 about1 = true := code_word (m := ⟨11, 0⟩) (meth := k11m0) (c := k11c0) (by decide +kernel) rfl rfl rfl (by decide +kernel)
set_option maxRecDepth 65536 in
theorem w_c14 : (Jvm.Cond.code ({ cls := "com/example/anchorwatch/anchorwatch/model/SemiSync", name := "lossless", desc := "()Z" } : Jvm.MethodName) prog_51_method_2_code (1 : Nat) (Option.some Jvm.ClassFile.FieldType.boolean)).before args0 about1 = true := code_word (m := ⟨12, 1⟩) (meth := k12m1) (c := k12c1) (by decide +kernel) rfl rfl rfl (by decide +kernel)
set_option maxRecDepth 65536 in
theorem w_c15 : (Jvm.Cond.code ({ cls := "java/lang/String", name := "equals", desc := "(Ljava/lang/Object;)Z" } : Jvm.MethodName) jdk_42_method_66_code (3 : Nat) (Option.some Jvm.ClassFile.FieldType.boolean)).before args0 about1 = true := code_word (m := ⟨7, 3⟩) (meth := k7m3) (c := k7c3) (by decide +kernel) rfl rfl rfl (by decide +kernel)
set_option maxRecDepth 65536 in
theorem w_c16 : (Jvm.Cond.code ({ cls := "java/lang/StringLatin1", name := "equals", desc := "([B[B)Z" } : Jvm.MethodName) jdk_43_method_13_code (3 : Nat) (Option.some Jvm.ClassFile.FieldType.boolean)).before args0 about1 = true := code_word (m := ⟨9, 2⟩) (meth := k9m2) (c := k9c2) (by decide +kernel) rfl rfl rfl (by decide +kernel)
def codes1 : List Jvm.Cond := [Jvm.Cond.code x code maxLocals ret, Jvm.Cond.code ({ cls := "java/lang/String", name := "<init>", desc := "([C)V" } : Jvm.MethodName) jdk_42_method_3_code (2 : Nat) (Option.none : Option Jvm.ClassFile.FieldType), Jvm.Cond.code ({ cls := "java/lang/String", name := "<init>", desc := "([CIILjava/lang/Void;)V" } : Jvm.MethodName) jdk_42_method_149_code (6 : Nat) (Option.none : Option Jvm.ClassFile.FieldType), Jvm.Cond.code ({ cls := "java/lang/Object", name := "<init>", desc := "()V" } : Jvm.MethodName) object_method_1_code (1 : Nat) (Option.none : Option Jvm.ClassFile.FieldType), Jvm.Cond.code ({ cls := "java/lang/StringUTF16", name := "compress", desc := "([CII)[B" } : Jvm.MethodName) jdk_52_method_16_code (6 : Nat) (Option.some (Jvm.ClassFile.FieldType.array Jvm.ClassFile.FieldType.byte)), Jvm.Cond.code ({ cls := "java/lang/StringUTF16", name := "compress", desc := "([CI[BII)I" } : Jvm.MethodName) jdk_52_method_21_code (7 : Nat) (Option.some Jvm.ClassFile.FieldType.int), Jvm.Cond.code ({ cls := "java/lang/StringUTF16", name := "coderFromArrayLen", desc := "([BI)B" } : Jvm.MethodName) jdk_52_method_15_code (2 : Nat) (Option.some Jvm.ClassFile.FieldType.byte), Jvm.Cond.code ({ cls := "java/lang/String", name := "charAt", desc := "(I)C" } : Jvm.MethodName) jdk_42_method_56_code (2 : Nat) (Option.some Jvm.ClassFile.FieldType.char), Jvm.Cond.code ({ cls := "java/lang/String", name := "isLatin1", desc := "()Z" } : Jvm.MethodName) jdk_42_method_154_code (1 : Nat) (Option.some Jvm.ClassFile.FieldType.boolean), Jvm.Cond.code ({ cls := "java/lang/StringLatin1", name := "charAt", desc := "([BI)C" } : Jvm.MethodName) jdk_43_method_2_code (2 : Nat) (Option.some Jvm.ClassFile.FieldType.char), Jvm.Cond.code ({ cls := "java/lang/String", name := "checkIndex", desc := "(II)V" } : Jvm.MethodName) jdk_42_method_155_code (2 : Nat) (Option.none : Option Jvm.ClassFile.FieldType), Jvm.Cond.code ({ cls := "jdk/internal/util/Preconditions", name := "checkIndex", desc := "(IILjava/util/function/BiFunction;)I" } : Jvm.MethodName) jdk_41_method_11_code (3 : Nat) (Option.some Jvm.ClassFile.FieldType.int), Jvm.Cond.code ({ cls := "com/example/anchorwatch/anchorwatch/model/SemiSync", name := "<init>", desc := "(ZLjava/lang/String;ZJ)V" } : Jvm.MethodName) prog_51_method_1_code (6 : Nat) (Option.none : Option Jvm.ClassFile.FieldType), Jvm.Cond.code ({ cls := "java/lang/Record", name := "<init>", desc := "()V" } : Jvm.MethodName) jdk_30_method_1_code (1 : Nat) (Option.none : Option Jvm.ClassFile.FieldType), Jvm.Cond.code ({ cls := "com/example/anchorwatch/anchorwatch/model/SemiSync", name := "lossless", desc := "()Z" } : Jvm.MethodName) prog_51_method_2_code (1 : Nat) (Option.some Jvm.ClassFile.FieldType.boolean), Jvm.Cond.code ({ cls := "java/lang/String", name := "equals", desc := "(Ljava/lang/Object;)Z" } : Jvm.MethodName) jdk_42_method_66_code (3 : Nat) (Option.some Jvm.ClassFile.FieldType.boolean), Jvm.Cond.code ({ cls := "java/lang/StringLatin1", name := "equals", desc := "([B[B)Z" } : Jvm.MethodName) jdk_43_method_13_code (3 : Nat) (Option.some Jvm.ClassFile.FieldType.boolean)]
set_option maxRecDepth 65536 in
theorem codes_eq : words1.filter isCode = codes1 := rfl
theorem w_codes : ∀ c ∈ words1.filter isCode, c.before args0 about1 = true := by
  rw [codes_eq]
  intro c hc
  simp only [codes1, List.mem_cons, List.not_mem_nil, or_false] at hc
  rcases hc with rfl | rfl | rfl | rfl | rfl | rfl | rfl | rfl | rfl | rfl | rfl | rfl | rfl | rfl | rfl | rfl | rfl
  · exact w_c0
  · exact w_c1
  · exact w_c2
  · exact w_c3
  · exact w_c4
  · exact w_c5
  · exact w_c6
  · exact w_c7
  · exact w_c8
  · exact w_c9
  · exact w_c10
  · exact w_c11
  · exact w_c12
  · exact w_c13
  · exact w_c14
  · exact w_c15
  · exact w_c16
set_option maxRecDepth 65536 in
theorem w_t1 : (words1.take 24).all (fun c => isCode c || c.before args0 about1) = true := by decide +kernel
set_option maxRecDepth 65536 in
theorem w_t2 : ((words1.drop 24).take 24).all (fun c => isCode c || c.before args0 about1) = true := by decide +kernel
set_option maxRecDepth 65536 in
theorem w_t3 : (((words1.drop 24).drop 24).take 24).all (fun c => isCode c || c.before args0 about1) = true := by decide +kernel
set_option maxRecDepth 65536 in
theorem w_t4 : (((words1.drop 24).drop 24).drop 24).all (fun c => isCode c || c.before args0 about1) = true := by decide +kernel
theorem w_tables : (allAtoms (Jvm.Cond.code x code maxLocals ret :: tables_1)).before args0 about1 = true := by
  rw [allAtoms_all]
  show words1.all (fun c => c.before args0 about1) = true
  refine all_split ?_ w_codes
  rw [← List.take_append_drop 24 words1, List.all_append, w_t1, ← List.take_append_drop 24 (words1.drop 24), List.all_append, w_t2, ← List.take_append_drop 24 ((words1.drop 24).drop 24), List.all_append, w_t3, w_t4]
  rfl
set_option maxRecDepth 65536 in
theorem w_rest : rest_1_c.before args0 about1 = true := by decide +kernel
set_option maxRecDepth 65536 in
theorem w_case : (Jvm.Cond.and given_1 narrow_1).before args0 about1 = true := by decide +kernel
set_option maxRecDepth 65536 in
theorem w_consts : constsHeld consts_1 about1 := Jvm.Lit.constsHeldB_iff.mp (by decide +kernel)
theorem w_applies : (headSpec (Jvm.Cond.code x code maxLocals ret :: tables_1) room_1).applies x e0.platform about1 = true :=
  (Spec.applies_iff w_frames).mpr ⟨w_running, w_runnable, w_alone, w_named, w_hears, w_ripe, w_room, w_tables⟩
theorem atStart : AtStart classFile x code maxLocals ret World_1 tables_1 room_1 Calls_1 rest_1 Pre_1 launch0 p0 e0 about1 theMethod args0 below0 :=
  ⟨lists_1, trivial, launch0.admits_env _ _ _, launch0.least_env, fairChoices_fair.cas, fairChoices_fair.clock, w_frames, w_args, w_heap, w_applies, ⟨w_consts, trivial⟩, w_rest, w_case⟩
end start1
theorem witness_1 : WitnessClaimed_1 := ⟨start1.p0, start1.e0, start1.about1, start1.theMethod, start1.args0, start1.below0, start1.atStart⟩
end Jvm.Pilot.@@N@@
