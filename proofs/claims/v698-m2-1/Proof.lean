import JvmDerived
import JvmDerived.Pilot.@@N@@Statement
import JvmDerived.Pilot.@@N@@Code
set_option linter.unusedVariables false
set_option linter.unusedSimpArgs false
namespace Jvm.OwnKit
open Sem ClassFile Op Lib Jvm.Stand Jvm.Free Jvm.LawKit Jvm.RoadKit
section Go
variable {p : Program} {l : Launch} {e : Env} {R : Room} {s : State} {m : MethodId} {args : Array Value} {below : List Frame} {meth : Method} {c : Code} {T T' : State} {locs : List Loc} {cells slots : Nat} {g g' : JFrame} {P : Outcome → State → Prop} {Q : Option Value → Heap → List Loc → Prop} {k n pc : Nat} {Ls : Array Slot} {rest : List Value}
/-- from this state and frame the invocation comes to its end, and the end is as P says -/
def Go (p : Program) (e : Env) (below : List Frame) (T : State) (g : JFrame) (P : Outcome → State → Prop) : Prop :=
  ∃ s₂ o, Steps p.tables e below (T.setTop g) s₂ ∧ s₂.status = .running ∧ Ended s₂ below o ∧ P o s₂
abbrev Po (s : State) (Q : Option Value → Heap → List Loc → Prop) (k n : Nat) : Outcome → State → Prop := fun o U' => ∃ v L, o = .returned v ∧ Q v U'.heap L ∧ FrameEnd s o U' L k n
theorem stp (h : ∀ t, Steps p.tables e below (T'.setTop g') t → Steps p.tables e below (T.setTop g) t) (K : Go p e below T' g' P) : Go p e below T g P := by
  obtain ⟨s2, o, h1, h2⟩ := K
  exact ⟨s2, o, h _ h1, h2⟩
theorem stt (h : Steps p.tables e below (T.setTop g) (T'.setTop g')) (K : Go p e below T' g' P) : Go p e below T g P := by
  obtain ⟨s2, o, h1, h2⟩ := K
  exact ⟨s2, o, h.trans h1, h2⟩
theorem out (X : Stand p l e R s m args below meth c T locs cells slots) {v : Option Value} (hl : meth.locks = false) (hv : meth.sig.returnType = none → v = none)
    (hst : ∀ fs : List Frame, (∀ (f : JFrame) (acts : List Action), f.method = m → f.locked = none → f.entered = [] → (doReturn e (T.setTop f) acts v).1 = T.setFrames fs) → Steps p.tables e below (T.setTop g) (T.setFrames fs))
    (hc : cells ≤ k) (hn : slots ≤ n) (hQ : Q v T.heap locs) : Go p e below T g (Po s Q k n) := by
  obtain ⟨fs, hr, hrun, hended, hW, hsame⟩ := X.leave (v := v) hv hl
  exact ⟨_, _, hst fs hr, hrun, hended, v, locs, rfl, hQ, ⟨_, rfl⟩, hW, hsame.mono hc hn⟩
theorem outN (X : Stand p l e R s m args below meth c T locs cells slots) (hx : p.tables.exec = Jvm.exec) {t : FieldType} {z : Int32} (hret : meth.sig.returnType = some t) (ht : t = .boolean ∨ t = .byte ∨ t = .char ∨ t = .short) (hd : decode c.code pc = .ok (.ireturn, 1)) (hl : meth.locks = false)
    (hc : cells ≤ k) (hn : slots ≤ n) (hQ : Q (some (.int (nar t z))) T.heap locs) : Go p e below T (mkF m pc Ls (.int z :: rest)) (Po s Q k n) :=
  out X hl (fun h => by rw [hret] at h; cases h) (fun fs hr => retN X hx hret ht hd hr) hc hn hQ
theorem outI (X : Stand p l e R s m args below meth c T locs cells slots) (hx : p.tables.exec = Jvm.exec) {z : Int32} (hret : meth.sig.returnType = some .int) (hd : decode c.code pc = .ok (.ireturn, 1)) (hl : meth.locks = false)
    (hc : cells ≤ k) (hn : slots ≤ n) (hQ : Q (some (.int z)) T.heap locs) : Go p e below T (mkF m pc Ls (.int z :: rest)) (Po s Q k n) :=
  out X hl (fun h => by rw [hret] at h; cases h) (fun fs hr => retOut X hx hret rfl (Or.inl ⟨rfl, Or.inl rfl, _, rfl⟩) hd hr) hc hn hQ
theorem outJ (X : Stand p l e R s m args below meth c T locs cells slots) (hx : p.tables.exec = Jvm.exec) {z : Int64} (hret : meth.sig.returnType = some .long) (hd : decode c.code pc = .ok (.lreturn, 1)) (hl : meth.locks = false)
    (hc : cells ≤ k) (hn : slots ≤ n) (hQ : Q (some (.long z)) T.heap locs) : Go p e below T (mkF m pc Ls (.long z :: rest)) (Po s Q k n) :=
  out X hl (fun h => by rw [hret] at h; cases h) (fun fs hr => retOut X hx hret rfl (Or.inr (Or.inl ⟨rfl, rfl, _, rfl⟩)) hd hr) hc hn hQ
theorem outD (X : Stand p l e R s m args below meth c T locs cells slots) (hx : p.tables.exec = Jvm.exec) {w : Value} (hret : meth.sig.returnType = some .double) (hw : ∃ z, w = .double z) (hd : decode c.code pc = .ok (.dreturn, 1)) (hl : meth.locks = false)
    (hc : cells ≤ k) (hn : slots ≤ n) (hQ : Q (some w) T.heap locs) : Go p e below T (mkF m pc Ls (w :: rest)) (Po s Q k n) := by
  obtain ⟨z, rfl⟩ := hw
  exact out X hl (fun h => by rw [hret] at h; cases h) (fun fs hr => retOut X hx hret rfl (Or.inr (Or.inr (Or.inl ⟨rfl, rfl, _, rfl⟩))) hd hr) hc hn hQ
theorem outA (X : Stand p l e R s m args below meth c T locs cells slots) (hx : p.tables.exec = Jvm.exec) {w : Value} {t : FieldType} (hret : meth.sig.returnType = some t) (ht : t.isReference = true) (hw : w.isRef = true) (hd : decode c.code pc = .ok (.areturn, 1)) (hl : meth.locks = false)
    (hc : cells ≤ k) (hn : slots ≤ n) (hQ : Q (some w) T.heap locs) : Go p e below T (mkF m pc Ls (w :: rest)) (Po s Q k n) := by
  refine out X hl (fun h => by rw [hret] at h; cases h) (fun fs hr => retOut X hx hret ?_ (Or.inr (Or.inr (Or.inr (Or.inr ⟨rfl, ht, hw⟩)))) hd hr) hc hn hQ
  rcases ref_cases hw with rfl | ⟨a, rfl⟩ <;> cases t <;> first | rfl | cases ht
theorem outV (X : Stand p l e R s m args below meth c T locs cells slots) (hx : p.tables.exec = Jvm.exec) (hret : meth.sig.returnType = none) (hd : decode c.code pc = .ok (.return_, 1)) (hl : meth.locks = false)
    (hc : cells ≤ k) (hn : slots ≤ n) (hQ : Q none T.heap locs) : Go p e below T (mkF m pc Ls []) (Po s Q k n) :=
  out X hl (fun _ => rfl) (fun fs hr => X.returnOut hx hret hd hr) hc hn hQ
theorem start {y : MethodName} {bytes : ByteArray} {maxL : Nat} {ret : Option FieldType} {ws : List Cond} {rm : Room} {Z : State} {as' : Array Value} {h0 : Heap} (hpl : plainFor y = true)
    (body : ∀ p e s m below meth c T, Stand p l e rm s m as' below meth c T [] 0 0 → p.tables.exec = Jvm.exec → c.code = bytes → c.maxLocals = maxL → s.vm.findClass y.cls = some m.cls → meth.name = y.name → meth.sig.returnType = ret → meth.locks = false → Z.Warmed39 s.vm → T.heap = h0 →
      Go p e below T (entryFrame m as' maxL) (Po s Q k n)) :
    MetFree l y (head1 (Cond.code y bytes maxL ret :: ws) rm) (fun a U => a = as' ∧ Z.Warmed39 U.vm ∧ U.heap = h0) (fun _ _ _ _ _ => True) (fun _ U o U' => ∃ v L, o = .returned v ∧ Q v U'.heap L ∧ FrameEnd U o U' L k n) := by
  refine MetFree.of_bodySF hpl hisR ?_
  intro p e s m args below meth c s₁ Bd hml0 hP hK
  obtain ⟨rfl, hZ, hh⟩ := hP
  exact body p e s m below meth c s₁ (Stand.of_body Bd) Bd.exec Bd.bytes hml0 (findClass_of_methodNamed Bd.named) (name_of_methodNamed Bd.named Bd.method).1 Bd.returns Bd.notSynchronized hZ (by rw [← hh, Bd.state]; rfl)
theorem goAt (q : g = g') (K : Go p e below T g' P) : Go p e below T g P := q ▸ K
end Go
theorem cat_ref {v : Value} (h : v.isRef = true) : v.category = 1 := by cases v <;> simp_all [Value.isRef, Value.category]
section Facts
variable {Z : State} {args : Array Value}
theorem old_le {n0 : Nat} {h : Heap} (O : Old Z n0 h) : n0 ≤ h.size := by
  obtain ⟨rfl, h2⟩ := O
  exact h2.1
theorem fld_of {C n d : String} {t : Term} {a : Addr} {k : Int32} (ev : t.eval args Z none [] Z = some (.ref a)) (h : (Cond.eq (.field t C n d) (.int k)).value args Z none Z [] = some true) : Fld Z Z.heap a C n d (.int k) := by
  obtain ⟨x, y, h1, h2, -, hk⟩ := cmp_v (Or.inl h)
  have h3 : y = .int k := (Option.some.inj h2).symm
  subst h3
  obtain ⟨z, rfl⟩ := hk
  have h4 : z = k := gotT (Cond.eq_ints h1 h2) h
  subst h4
  rw [fld_at ev] at h1
  exact Fld.start h1
theorem fldnull_of {C n d : String} {t : Term} {a : Addr} (ev : t.eval args Z none [] Z = some (.ref a)) (h : (Cond.eq (.field t C n d) .null).value args Z none Z [] = some true) : Fld Z Z.heap a C n d .null := by
  have h1 := null_v h
  rw [fld_at ev] at h1
  exact Fld.start h1
theorem eqint_v {t : Term} {k : Int32} (h : (Cond.eq t (.int k)).value args Z none Z [] = some true) : t.eval args Z none [] Z = some (.int k) := by
  obtain ⟨x, y, h1, h2, -, hk⟩ := cmp_v (Or.inl h)
  have h3 : y = .int k := (Option.some.inj h2).symm
  subst h3
  obtain ⟨z, rfl⟩ := hk
  have h4 : z = k := gotT (Cond.eq_ints h1 h2) h
  subst h4
  exact h1
end Facts
section Small
variable {h h' : Heap} {a : Addr} {sl : Nat} {x : Int32}
theorem ow_wr_char (e : x.toUInt32.toUInt16.toUInt32.toInt32 = x) (W : Wr h h' a sl (.int (nar .char x))) : Wr h h' a sl (.int x) := by rwa [show nar .char x = x from e] at W
theorem ow_fits_char (e : x.toUInt32.toUInt16.toUInt32.toInt32 = x) : fits .char (.int x) = true := by
  have q := fits_nar_char x
  rwa [show nar .char x = x from e] at q
theorem ow_wr_byte (e : x.toInt8.toInt32 = x) (W : Wr h h' a sl (.int (nar .byte x))) : Wr h h' a sl (.int x) := by rwa [show nar .byte x = x from e] at W
theorem ow_fits_byte (e : x.toInt8.toInt32 = x) : fits .byte (.int x) = true := by
  have q := fits_nar_byte x
  rwa [e] at q
theorem char_small (h0 : ¬ x < 0) (h1 : ¬ (65535 : Int32) < x) : x.toUInt32.toUInt16.toUInt32.toInt32 = x := by
  obtain ⟨q1, q2, q3⟩ := c_i2c x
  simp only [Int32.lt_iff_toInt_lt, Int32.reduceToInt] at h0 h1
  exact Int32.toInt_inj.mp (by omega)
theorem char255 (q : ¬ x < 0 ∧ ¬ (255 : Int32) < x) : x.toUInt32.toUInt16.toUInt32.toInt32 = x := char_small q.1 (by
  obtain ⟨q1, q2⟩ := q
  simp only [Int32.lt_iff_toInt_lt, Int32.reduceToInt] at q1 q2 ⊢
  omega)
theorem byte_small (h0 : ¬ x < (-128 : Int32)) (h1 : ¬ (127 : Int32) < x) : x.toInt8.toInt32 = x := by
  obtain ⟨q1, q2, q3⟩ := c_i2b x
  simp only [Int32.lt_iff_toInt_lt, Int32.reduceToInt] at h0 h1
  exact Int32.toInt_inj.mp (by omega)
theorem byte_twice : x.toInt8.toInt32.toInt8.toInt32 = x.toInt8.toInt32 := by simp
theorem and255 (x : Int32) : ¬ (x &&& (255 : Int32)) < 0 ∧ ¬ (255 : Int32) < (x &&& (255 : Int32)) := by
  have h := c_mask x 255 8 (by decide) (by decide)
  simp only [Int32.lt_iff_toInt_lt, Int32.reduceToInt]
  omega
end Small
section Sub
variable {Z : State} {a0 : Array Value}
theorem NSroot {O K : String} {n : Nat} (w : (Cond.noSuperclass O).before a0 Z = true) (wk : (Cond.instantiable K n).before a0 Z = true) (hn : O ≠ K) : NS Z O K := by
  obtain ⟨c, k, h1, h2, h3, -, -⟩ := Cond.noSuperclass_spec w
  obtain ⟨t, kt, g1, -⟩ := Cond.instantiable_spec wk
  have ne := ids_ne h1 g1 hn
  refine ⟨c, t, h1, g1, fun fuel => ?_⟩
  cases fuel with
  | zero => rfl
  | succ f => simp [Vm.isSubclassAux, ne, h2, h3]
theorem NSno {C S K : String} {n : Nat} (w : (Cond.superclass C S).before a0 Z = true) (wk : (Cond.instantiable K n).before a0 Z = true) (N : NS Z C K) (hn : C ≠ K) : ∃ c t, Z.vm.findClass C = some c ∧ Z.vm.findClass K = some t ∧ Z.vm.assignable c t = false := by
  obtain ⟨c, t, h0, g0, n3⟩ := N
  obtain ⟨p, k, kp, h1, h2, h3, h4, h5, -, h7⟩ := Cond.superclass_spec h0 w
  obtain ⟨t', kt, g1, g2, g5, g7, -⟩ := Cond.instantiable_spec wk
  cases g0.symm.trans g1
  rw [Bool.or_eq_false_iff] at g7
  have ne := ids_ne h0 g0 hn
  refine ⟨c, t, h0, g0, ?_⟩
  show Z.vm.assignableAux (255 + 1) c t = false
  simp [Vm.assignableAux, ne, h2, g2, h5, g5, g7.1, Vm.isSubclass, n3]
end Sub
/-- an array of n elements, told by a function -/
def Arf (Z : State) (h : Heap) (a : Addr) (k : ClassId) (ty : FieldType) (n : Nat) (f : Nat → Value) : Prop := ∃ c : Cell, Arr Z h a c ty ∧ c.cls = k ∧ c.slots.size = n ∧ (∀ i, i < n → c.slots[i]? = some (f i)) ∧ ∀ i, i < n → fits ty (f i) = true
section Arf
variable {Z : State} {h h' : Heap} {a b : Addr} {k : ClassId} {ty : FieldType} {n sl : Nat} {f g : Nat → Value} {v : Value} {ws : List Addr} {c : Cell} {j : Int32} {i : Nat}
theorem Arf.lt (F : Arf Z h a k ty n f) : a < h.size := by
  obtain ⟨c, A, -⟩ := F
  exact A.lt
theorem Arf.ext (F : Arf Z h a k ty n f) (E : Ext h h') : Arf Z h' a k ty n f := by
  obtain ⟨c, A, r⟩ := F
  exact ⟨c, A.ext E, r⟩
theorem Arf.other (F : Arf Z h b k ty n f) (W : Wr h h' a sl v) (q : b ≠ a) : Arf Z h' b k ty n f := by
  obtain ⟨c, A, r⟩ := F
  exact ⟨c, A.other W q, r⟩
theorem Arf.keep (F : Arf Z h a k ty n f) (K : Keep h h' ws) (q : a ∉ ws) : Arf Z h' a k ty n f := by
  obtain ⟨c, A, r⟩ := F
  exact ⟨c, ⟨K.2.1 a c A.1 q, A.2⟩, r⟩
theorem Arf.congr (F : Arf Z h a k ty n f) (q : ∀ i, i < n → g i = f i) : Arf Z h a k ty n g := by
  obtain ⟨c, A, r1, r2, H, G⟩ := F
  exact ⟨c, A, r1, r2, fun i hi => by rw [q i hi]; exact H i hi, fun i hi => by rw [q i hi]; exact G i hi⟩
theorem Arf.set (A : Arr Z h a c ty) (q1 : c.cls = k) (S : c.slots.size = n) (H : ∀ i, i < n → c.slots[i]? = some (f i)) (G : ∀ i, i < n → fits ty (f i) = true) (hv : fits ty v = true) (W : Wr h h' a i v) (hi : i < n) : Arf Z h' a k ty n (fun x => if x = i then v else f x) := by
  refine ⟨c.setSlot i v, A.same W, q1, by rw [sz_set]; exact S, fun x hx => ?_, fun x hx => ?_⟩
  · show (c.setSlot i v).slots[x]? = some (if x = i then v else f x)
    by_cases e : x = i
    · subst e
      simp [Cell.setSlot, S, hx]
    · rw [if_neg e, ← H x hx]
      exact Cell.slots_setSlot_ne v (Ne.symm e)
  · by_cases e : x = i
    · simp [e, hv]
    · simp [e, G x hx]
theorem Arv.arf {z : Int32} {vs : List Value} {d : Value} (F : Arv Z h a k ty z vs d) (hz : z.toNatClampNeg = n) : Arf Z h a k ty n (fun i => vs.getD i d) := by
  obtain ⟨c, A, r1, r2, r3, H, G⟩ := F
  exact ⟨c, A, r1, by rw [r2, hz], fun i hi => H i (by rw [r2, hz]; exact hi), fun i hi => G i (by rw [r2, hz]; exact hi)⟩
theorem arf_in (S : c.slots.size = n) (hk : j.toInt = i) (hn : i < n) : ¬ (j < 0 ∨ c.slots.size ≤ j.toNatClampNeg) := by
  simp only [Int32.lt_iff_toInt_lt, Int32.toNatClampNeg, Int32.reduceToInt, S, hk]
  omega
theorem arf_at (H : ∀ i, i < n → c.slots[i]? = some (f i)) (hk : j.toInt = i) (hn : i < n) : c.slots[j.toNatClampNeg]? = some (f i) := by
  have e : j.toNatClampNeg = i := by simp only [Int32.toNatClampNeg, hk]; omega
  rw [e]
  exact H i hn
theorem arf_ix (hk : j.toInt = i) : j.toNatClampNeg = i := by simp only [Int32.toNatClampNeg, hk]; omega
theorem arf_len {z : Int32} (S : c.slots.size = n) (hz : z.toInt = n) : c.slots.size.toInt32 = z := by
  rw [S]
  have h1 := Int32.toInt_lt z
  exact Int32.toInt_inj.mp (by rw [len_toInt (by omega)]; exact hz.symm)
theorem Arf.one (F : Arf Z h a k ty n f) (hi : i < n) : fits ty (f i) = true := by
  obtain ⟨c, A, r1, r2, H, G⟩ := F
  exact G i hi
theorem Arf.new {z : Int32} (A : Arr Z h a (newA k ty z) ty) (q : ¬ z < 0) (hz : z.toNatClampNeg = n) : Arf Z h a k ty n (fun _ => defaultValue ty) := (Arv.arf (Arv.new A q) hz).congr fun i _ => by simp
theorem cloneF {p : Program} {l : Launch} {e : Env} {R : Room} {s : State} {m : MethodId} {args : Array Value} {below : List Frame} {meth : Method} {c : Code} {T : State} {locs : List Loc} {cells slots : Nat} (X : Stand p l e R s m args below meth c T locs cells slots) (hx : p.tables.exec = Jvm.exec) (hZ : Z.Warmed39 s.vm) {a0 : Array Value} {own ad : String} {index : Nat} (hown : s.vm.findClass own = some m.cls)
    (w1 : (Cond.methodLink own index ⟨ad, "clone", "()Ljava/lang/Object;"⟩).before a0 Z = true) (w2 : (Cond.sameMethod ad "java/lang/Object" "clone" "()Ljava/lang/Object;").before a0 Z = true) (w3 : (Cond.native ⟨"java/lang/Object", "clone", "()Ljava/lang/Object;"⟩).before a0 Z = true)
    (w4 : (Cond.instanceMethod ⟨"java/lang/Object", "clone", "()Ljava/lang/Object;"⟩).before a0 Z = true) (w5 : (Cond.selects ad ⟨ad, "clone", "()Ljava/lang/Object;"⟩ ⟨"java/lang/Object", "clone", "()Ljava/lang/Object;"⟩).before a0 Z = true) (w6 : (Cond.castable ad "java/lang/Cloneable").before a0 Z = true)
    (eT : T.heap = h) (F : Arf Z h a k ty n f) (E : Exa Z h a ad) {g : JFrame} (hg : g.method = m) (hsize : g.locals.size = c.maxLocals) {rest : List Value} (hst : g.stack = .ref a :: rest) (hd : decode c.code g.pc = .ok (.invokevirtual index, 3))
    (hf : 1 ≤ R.frames) {W cap : Nat} (hW : 2 * g.monitorRoom + (rest.map fun v => v.category).sum ≤ W) (hl : W + 14 ≤ R.locals) (hcap : n ≤ cap) (hc : cells + 1 ≤ R.cells) (hsl : slots + cap ≤ R.slots) :
    ∃ T' h', Stand p l e R s m args below meth c T' locs (cells + 1) (slots + cap) ∧ T'.heap = h' ∧ Ext h h' ∧ Arf Z h' h.size k ty n f ∧ Exa Z h' h.size ad ∧
      ∀ target, Steps p.tables e below (T'.setTop { g with pc := g.pc + 3, stack := .ref h.size :: rest }) target → Steps p.tables e below (T.setTop g) target := by
  obtain ⟨cl, A, q1, S, H, G⟩ := F
  have FC : FitC Z cl := fitC_of A fun i hi v hv => by rw [H i (S ▸ hi)] at hv; cases hv; exact G i (S ▸ hi)
  obtain ⟨T', h', X', e', ex, A', E', st⟩ := cloneA X hx hZ hown w1 w2 w3 w4 w5 w6 eT A E FC hg hsize hst hd hf hW hl (by rw [S]; exact hcap) hc hsl
  exact ⟨T', h', X', e', ex, ⟨cloneOf cl, A', q1, S, H, G⟩, E', st⟩
end Arf
theorem and1_cases (x : Int32) : x &&& (1 : Int32) = (0 : Int32) ∨ x &&& (1 : Int32) = (1 : Int32) := and_one x
theorem and3_cases (x : Int32) : x &&& (3 : Int32) = (0 : Int32) ∨ x &&& (3 : Int32) = (1 : Int32) ∨ x &&& (3 : Int32) = (2 : Int32) ∨ x &&& (3 : Int32) = (3 : Int32) := by
  have h := c_mask x 3 2 (by decide) (by decide)
  simp only [← Int32.toInt_inj]
  have : (0 : Int32).toInt = 0 := by decide
  have : (1 : Int32).toInt = 1 := by decide
  have : (2 : Int32).toInt = 2 := by decide
  have : (3 : Int32).toInt = 3 := by decide
  omega
end Jvm.OwnKit
namespace Jvm.OwnFl
open Jvm.FP.Core
theorem b_qmin : b64.qmin = -1074 := by decide
theorem b_qmax : b64.qmax = 971 := by decide
/-- A 2^e and A' 2^e' are the same number -/
def VE (A : Nat) (e : Int) (A' : Nat) (e' : Int) : Prop := ∃ m : Int, m ≤ e ∧ m ≤ e' ∧ A * 2 ^ (e - m).toNat = A' * 2 ^ (e' - m).toNat
theorem pow_toNat {a b c : Int} (h1 : c ≤ b) (h2 : b ≤ a) : 2 ^ (a - c).toNat = 2 ^ (a - b).toNat * 2 ^ (b - c).toNat := by
  rw [← Nat.pow_add]
  congr 1
  omega
theorem VE.base {A A' : Nat} {e e' : Int} (h : VE A e A' e') {m : Int} (h1 : m ≤ e) (h2 : m ≤ e') : A * 2 ^ (e - m).toNat = A' * 2 ^ (e' - m).toNat := by
  obtain ⟨k, k1, k2, hk⟩ := h
  by_cases hkm : k ≤ m
  · rw [pow_toNat (b := m) hkm h1, pow_toNat (b := m) hkm h2, ← Nat.mul_assoc, ← Nat.mul_assoc] at hk
    exact Nat.eq_of_mul_eq_mul_right (Nat.two_pow_pos _) hk
  · have hmk : m ≤ k := by omega
    rw [pow_toNat (b := k) hmk k1, pow_toNat (b := k) hmk k2, ← Nat.mul_assoc, ← Nat.mul_assoc, hk]
theorem VE.refl (A : Nat) (e : Int) : VE A e A e := ⟨e, Int.le_refl _, Int.le_refl _, rfl⟩
theorem VE.symm {A A' : Nat} {e e' : Int} (h : VE A e A' e') : VE A' e' A e := by
  obtain ⟨m, h1, h2, h3⟩ := h
  exact ⟨m, h2, h1, h3.symm⟩
theorem VE.trans {A B C : Nat} {a b c : Int} (h : VE A a B b) (g : VE B b C c) : VE A a C c := by
  refine ⟨min a (min b c), by omega, by omega, ?_⟩
  rw [h.base (m := min a (min b c)) (by omega) (by omega), g.base (m := min a (min b c)) (by omega) (by omega)]
theorem VE.congr {A A' : Nat} {e e' : Int} (h : VE A e A' e') : A * 1 * 2 ^ (e - e').toNat = A' * 1 * 2 ^ (e' - e).toNat := by
  rw [Nat.mul_one, Nat.mul_one]
  by_cases q : e' ≤ e
  · have := h.base (m := e') q (Int.le_refl _)
    rw [show (e' - e).toNat = 0 by omega, this, show (e' - e').toNat = 0 by omega]
  · have := h.base (m := e) (Int.le_refl _) (by omega)
    rw [show (e - e').toNat = 0 by omega, ← this, show (e - e).toNat = 0 by omega]
/-- factors of 2 go from the number to the exponent -/
theorem VE.up (A k : Nat) (e : Int) : VE (A * 2 ^ k) e A (e + k) := by
  refine ⟨e, Int.le_refl _, by omega, ?_⟩
  rw [show (e - e).toNat = 0 by omega, show (e + (k : Int) - e).toNat = k by omega, Nat.pow_zero, Nat.mul_one]
theorem VE.move {A A' : Nat} {e e' : Int} (h : VE A e A' e') (r : Int) : VE A (e + r) A' (e' + r) := by
  obtain ⟨m, h1, h2, h3⟩ := h
  refine ⟨m + r, by omega, by omega, ?_⟩
  rw [show (e + r - (m + r)).toNat = (e - m).toNat by omega, show (e' + r - (m + r)).toNat = (e' - m).toNat by omega]
  exact h3
theorem VE.times {A A' : Nat} {e e' : Int} (h : VE A e A' e') (k : Nat) : VE (A * k) e (A' * k) e' := by
  obtain ⟨m, h1, h2, h3⟩ := h
  refine ⟨m, h1, h2, ?_⟩
  rw [Nat.mul_right_comm, h3, Nat.mul_right_comm]
/-- a is the double c 2^q, no negative one -/
def D (a : UInt64) (c : Nat) (q : Int) : Prop := ∃ c' q', val64 a = Datum.fin false c' q' ∧ VE c' q' c q
theorem D.alt {a : UInt64} {c c2 : Nat} {q q2 : Int} (h : D a c q) (v : VE c q c2 q2) : D a c2 q2 := by
  obtain ⟨c', q', h1, h2⟩ := h
  exact ⟨c', q', h1, h2.trans v⟩
/-- rounding what is a number of the format -/
theorem round_D {a : UInt64} {A c : Nat} {e q : Int} (h : val64 a = round b64 (Datum.fin false A e)) (v : VE A e c q) (hc : c < 2 ^ 53) (h1 : -1074 ≤ q) (h2 : q ≤ 971) : D a c q := by
  have e1 : round b64 (Datum.fin false A e) = round b64 (Datum.fin false c q) := roundRatio_congr (by decide) (by decide) v.congr
  obtain ⟨c', q', h3, h4⟩ := round_exact good_b64 false (c := c) (q := q) hc (by rw [b_qmin]; exact h1) (by rw [b_qmax]; exact h2)
  have hv : val64 a = Datum.fin false c' q' := by rw [h, e1, h3]
  have hf := val64_fits a
  rw [hv] at hf
  refine ⟨c', q', hv, b64.qmin, hf.2.1, by rw [b_qmin]; exact h1, h4⟩
theorem ratio_D {a : UInt64} {A B c : Nat} {e q : Int} (h : val64 a = roundRatio b64 false A B e) (hB : 0 < B) (v : VE A e (c * B) q) (hc : c < 2 ^ 53) (h1 : -1074 ≤ q) (h2 : q ≤ 971) : D a c q := by
  refine round_D (A := c) (e := q) ?_ (VE.refl _ _) hc h1 h2
  rw [h]
  show _ = roundRatio b64 false c 1 q
  refine roundRatio_congr hB (by decide) ?_
  have := v.congr
  rw [Nat.mul_one, Nat.mul_one] at this
  rw [Nat.mul_one]
  exact this
theorem mul_D {a b : UInt64} {c : Nat} {q r : Int} (h : D a c q) (hb : val64 b = Datum.fin false (2 ^ 52) r) (hc : c < 2 ^ 53) (h1 : -1074 ≤ q + r + 52) (h2 : q + r + 52 ≤ 971) : D (dmul a b) c (q + r + 52) := by
  obtain ⟨c', q', e1, v⟩ := h
  refine round_D (A := c' * 2 ^ 52) (e := q' + r) (by rw [val64_dmul, e1, hb]; rfl) ?_ hc h1 h2
  have w := (VE.up c' 52 (q' + r)).trans ((v.move (r + 52)).trans (VE.refl _ _) |> fun z => by
    rw [show q' + r + ((52 : Nat) : Int) = q' + (r + 52) by omega]
    exact z)
  rw [show q + r + 52 = q + (r + 52) by omega]
  exact w
theorem div_D {a b : UInt64} {c : Nat} {q r : Int} (h : D a c q) (hb : val64 b = Datum.fin false (2 ^ 52) r) (hc : c < 2 ^ 53) (h1 : -1074 ≤ q - r - 52) (h2 : q - r - 52 ≤ 971) : D (ddiv a b) c (q - r - 52) := by
  obtain ⟨c', q', e1, v⟩ := h
  have e2 : val64 (ddiv a b) = roundRatio b64 false c' (2 ^ 52) (q' - r) := by
    rw [val64_ddiv, e1, hb]
    rfl
  refine ratio_D e2 (Nat.two_pow_pos _) ?_ hc h1 h2
  have w1 : VE c' (q' + -r) c (q + -r) := v.move (-r)
  have w2 := VE.up c 52 (q - r - 52)
  rw [show q - r - 52 + ((52 : Nat) : Int) = q + -r by omega] at w2
  rw [show q' - r = q' + -r by omega]
  exact w1.trans w2.symm
theorem sub_D {a b : UInt64} {c d : Nat} {q : Int} (h : D a c q) (g : D b d q) (hd : d ≤ c) (hc : c - d < 2 ^ 53) (h1 : -1074 ≤ q) (h2 : q ≤ 971) : D (dsub a b) (c - d) q := by
  obtain ⟨c', q', e1, v⟩ := h
  obtain ⟨d', r', e2, w⟩ := g
  have e3 : val64 (dsub a b) = round b64 (exactSum (Datum.fin false c' q') (Datum.fin true d' r')) := by
    rw [val64_dsub, e1, e2]
    rfl
  have hm : min q' r' ≤ q' ∧ min q' r' ≤ r' := by omega
  -- in a low unit
  have k1 := v.base (m := min (min q' r') q) (by omega) (by omega)
  have k2 := w.base (m := min (min q' r') q) (by omega) (by omega)
  have p1 := pow_toNat (a := q') (b := min q' r') (c := min (min q' r') q) (by omega) (by omega)
  have p2 := pow_toNat (a := r') (b := min q' r') (c := min (min q' r') q) (by omega) (by omega)
  rw [p1, ← Nat.mul_assoc] at k1
  rw [p2, ← Nat.mul_assoc] at k2
  have hle : d' * 2 ^ (r' - min q' r').toNat ≤ c' * 2 ^ (q' - min q' r').toNat := by
    have : d' * 2 ^ (r' - min q' r').toNat * 2 ^ (min q' r' - min (min q' r') q).toNat ≤ c' * 2 ^ (q' - min q' r').toNat * 2 ^ (min q' r' - min (min q' r') q).toNat := by
      rw [k1, k2]
      exact Nat.mul_le_mul_right _ hd
    exact Nat.le_of_mul_le_mul_right this (Nat.two_pow_pos _)
  have e4 : exactSum (Datum.fin false c' q') (Datum.fin true d' r') = Datum.fin false (c' * 2 ^ (q' - min q' r').toNat - d' * 2 ^ (r' - min q' r').toNat) (min q' r') := by
    show Datum.fin (sumSign false true (sumUnits false c' q' true d' r' (min q' r'))) (sumUnits false c' q' true d' r' (min q' r')).natAbs (min q' r') = _
    have hu : sumUnits false c' q' true d' r' (min q' r') = ((c' * 2 ^ (q' - min q' r').toNat - d' * 2 ^ (r' - min q' r').toNat : Nat) : Int) := by
      show ((c' * 2 ^ (q' - min q' r').toNat : Nat) : Int) + -((d' * 2 ^ (r' - min q' r').toNat : Nat) : Int) = _
      omega
    rw [hu]
    generalize c' * 2 ^ (q' - min q' r').toNat - d' * 2 ^ (r' - min q' r').toNat = n
    have hs : sumSign false true ((n : Nat) : Int) = false := by
      unfold sumSign
      split
      · rfl
      · exact decide_eq_false (by omega)
    rw [hs]
    rfl
  rw [e4] at e3
  refine round_D e3 ⟨min (min q' r') q, by omega, by omega, ?_⟩ hc h1 h2
  rw [Nat.sub_mul, k1, k2, Nat.sub_mul]
/-- the whole part of c 2^q -/
def whole (c : Nat) (q : Int) : Nat := c * 2 ^ q.toNat / 2 ^ (-q).toNat
theorem whole_base (c : Nat) {q m : Int} (h1 : m ≤ q) (h2 : m ≤ 0) : whole c q = c * 2 ^ (q - m).toNat / 2 ^ (0 - m).toNat := by
  unfold whole
  by_cases h : 0 ≤ q
  · rw [show (-q).toNat = 0 by omega, Nat.pow_zero, Nat.div_one, pow_toNat (a := q) (b := 0) (c := m) h2 h, ← Nat.mul_assoc, Nat.mul_div_cancel _ (Nat.two_pow_pos _), show (q - 0).toNat = q.toNat by omega]
  · rw [show q.toNat = 0 by omega, Nat.pow_zero, Nat.mul_one, pow_toNat (a := 0) (b := q) (c := m) h1 (by omega), Nat.mul_div_mul_right _ _ (Nat.two_pow_pos _), show (0 - q).toNat = (-q).toNat by omega]
theorem VE.whole {A A' : Nat} {e e' : Int} (h : VE A e A' e') : whole A e = whole A' e' := by
  rw [whole_base A (m := min (min e e') 0) (by omega) (by omega), whole_base A' (m := min (min e e') 0) (by omega) (by omega), h.base (m := min (min e e') 0) (by omega) (by omega)]
theorem d2l_D {a : UInt64} {c : Nat} {q : Int} (h : D a c q) (hw : whole c q < 2 ^ 63) : (d2l a).toInt = (whole c q : Int) := by
  obtain ⟨c', q', e1, v⟩ := h
  have e2 : d2l a = Int64.ofInt (toInt (-2 ^ 63) (2 ^ 63 - 1) (val64 a)) := rfl
  have e3 : toInt (-2 ^ 63) (2 ^ 63 - 1) (Datum.fin false c' q') = max (-2 ^ 63) (min (2 ^ 63 - 1) ((whole c' q' : Nat) : Int)) := rfl
  rw [e2, e1, e3, v.whole]
  generalize whole c q = n at hw
  have hn : max (-2 ^ 63) (min (2 ^ 63 - 1) ((n : Nat) : Int)) = (n : Int) := by omega
  rw [hn, Int64.toInt_ofInt, Int.bmod_def, show ((Int64.size : Nat) : Int) = 18446744073709551616 from rfl]
  omega

theorem l2d_D {x : Int64} {A c : Nat} {q : Int} (hx : x.toInt = (A : Int)) (v : VE A 0 c q) (hc : c < 2 ^ 53) (h1 : -1074 ≤ q) (h2 : q ≤ 971) : D (l2d x) c q := by
  have e : ofInt x.toInt = Datum.fin false A 0 := by
    unfold ofInt
    rw [hx]
    have : decide ((A : Int) < 0) = false := decide_eq_false (by omega)
    rw [this]
    rfl
  exact round_D (by rw [val64_l2d, e]) v hc h1 h2
/-- the double of a power of two, as the format writes it -/
theorem l2d_pow {x : Int64} {t : Nat} (ht : t < 63) (hx : x.toInt = ((2 ^ t : Nat) : Int)) : val64 (l2d x) = Datum.fin false (2 ^ 52) ((t : Int) - 52) := by
  have e : ofInt x.toInt = Datum.fin false (2 ^ t) 0 := by
    unfold ofInt
    rw [hx]
    have : decide (((2 ^ t : Nat) : Int) < 0) = false := decide_eq_false (Int.not_lt.mpr (Int.natCast_nonneg _))
    rw [this]
    rfl
  rw [val64_l2d, e]
  show roundRatio b64 false (2 ^ t) 1 0 = _
  refine roundRatio_exact good_b64 (by decide) ⟨by decide, by rw [b_qmin]; omega, by rw [b_qmax]; omega, Or.inr (by decide)⟩ ?_
  by_cases h : t ≤ 52
  · rw [show (0 - ((t : Int) - 52)).toNat = 52 - t by omega, show ((t : Int) - 52 - 0).toNat = 0 by omega, ← Nat.pow_add, Nat.pow_zero, Nat.mul_one, Nat.mul_one]
    congr 1
    omega
  · rw [show (0 - ((t : Int) - 52)).toNat = 0 by omega, show ((t : Int) - 52 - 0).toNat = t - 52 by omega, Nat.pow_zero, Nat.mul_one, Nat.mul_one, ← Nat.pow_add]
    congr 1
    omega
theorem D.nonan {a : UInt64} {c : Nat} {q : Int} (h : D a c q) : val64 a ≠ Datum.nan := by
  obtain ⟨c', q', e, -⟩ := h
  rw [e]
  exact Datum.noConfusion
theorem D.zval {a : UInt64} {c : Nat} {q : Int} (h : D a c q) (h1 : -1074 ≤ q) : zval b64 (val64 a) = ((c * 2 ^ (q + 1074).toNat : Nat) : Int) := by
  have hf := val64_fits a
  obtain ⟨c', q', e, v⟩ := h
  rw [e] at hf
  rw [e]
  show ((inUnits c' q' b64.qmin : Nat) : Int) = _
  have := v.base (m := b64.qmin) hf.2.1 (by rw [b_qmin]; exact h1)
  unfold inUnits
  rw [this, b_qmin, show (q - -1074).toNat = (q + 1074).toNat by omega]

theorem c120 : val64 (5147614374084476928 : UInt64) = Datum.fin false (2 ^ 52) 68 := by decide +kernel
theorem cm63 : val64 (4323455642275676160 : UInt64) = Datum.fin false (2 ^ 52) (-115) := by decide +kernel
theorem c63 : val64 (4890909195324358656 : UInt64) = Datum.fin false (2 ^ 52) 11 := by decide +kernel
theorem c52 : val64 (4841369599423283200 : UInt64) = Datum.fin false (2 ^ 52) 0 := by decide +kernel
/-- what 'add' reckons of a term M 2^(K - 120) -/
theorem split {x : UInt64} {M : Nat} {K : Int} (hM : M < 2 ^ 53) (k1 : -60 < K) (k2 : K < 70) (h : D x M (K - 120)) :
    D (dmul x 5147614374084476928) M K ∧ D (dmul (dmul x 5147614374084476928) 4323455642275676160) M (K - 63) ∧
    (d2l (dmul (dmul x 5147614374084476928) 4323455642275676160)).toInt = (whole M (K - 63) : Int) ∧
    (∃ c q, D (dmul (l2d (d2l (dmul (dmul x 5147614374084476928) 4323455642275676160))) 4890909195324358656) c q) ∧
    (∃ c q, D (dsub (dmul x 5147614374084476928) (dmul (l2d (d2l (dmul (dmul x 5147614374084476928) 4323455642275676160))) 4890909195324358656)) c q) ∧
    (d2l (dsub (dmul x 5147614374084476928) (dmul (l2d (d2l (dmul (dmul x 5147614374084476928) 4323455642275676160))) 4890909195324358656))).toInt = ((if K < 63 then whole (M % 2 ^ (63 - K).toNat) K else 0 : Nat) : Int) := by
  have u1 : D (dmul x 5147614374084476928) M K := by
    have := mul_D h c120 hM (by omega) (by omega)
    rwa [show K - 120 + 68 + 52 = K by omega] at this
  have u2 : D (dmul (dmul x 5147614374084476928) 4323455642275676160) M (K - 63) := by
    have := mul_D u1 cm63 hM (by omega) (by omega)
    rwa [show K + -115 + 52 = K - 63 by omega] at this
  have w63 : whole M (K - 63) < 2 ^ 63 := by
    unfold whole
    refine Nat.lt_of_le_of_lt (Nat.div_le_self _ _) ?_
    by_cases hk : K ≤ 63
    · rw [show (K - 63).toNat = 0 by omega, Nat.pow_zero]
      omega
    · have : 2 ^ (K - 63).toNat ≤ 2 ^ 10 := Nat.pow_le_pow_right (by decide) (by omega)
      calc M * 2 ^ (K - 63).toNat ≤ M * 2 ^ 10 := Nat.mul_le_mul_left _ this
        _ < 2 ^ 63 := by omega
  have hH := d2l_D u2 w63
  generalize dmul x 5147614374084476928 = units at *
  generalize d2l (dmul units 4323455642275676160) = H at *
  refine ⟨u1, u2, hH, ?_⟩
  by_cases hk : K < 63
  · have hw : whole M (K - 63) = M / 2 ^ (63 - K).toNat := by
      unfold whole
      rw [show (K - 63).toNat = 0 by omega, Nat.pow_zero, Nat.mul_one, show (-(K - 63)).toNat = (63 - K).toNat by omega]
    rw [hw] at hH
    have hN : M / 2 ^ (63 - K).toNat < 2 ^ 53 := Nat.lt_of_le_of_lt (Nat.div_le_self _ _) hM
    have d1 : D (l2d H) (M / 2 ^ (63 - K).toNat) 0 := l2d_D hH (VE.refl _ _) hN (by decide) (by decide)
    have d2 := mul_D d1 c63 hN (by decide) (by decide)
    have v : VE (M / 2 ^ (63 - K).toNat) (0 + 11 + 52) (M / 2 ^ (63 - K).toNat * 2 ^ (63 - K).toNat) K := by
      have := VE.up (M / 2 ^ (63 - K).toNat) (63 - K).toNat K
      rw [show K + (((63 - K).toNat : Nat) : Int) = 0 + 11 + 52 by omega] at this
      exact this.symm
    have d3 := d2.alt v
    have hmod : M - M / 2 ^ (63 - K).toNat * 2 ^ (63 - K).toNat = M % 2 ^ (63 - K).toNat := by
      have := Nat.div_add_mod M (2 ^ (63 - K).toNat)
      rw [Nat.mul_comm] at this
      omega
    have hlt : M % 2 ^ (63 - K).toNat < 2 ^ 53 := Nat.lt_of_le_of_lt (Nat.mod_le _ _) hM
    have d4 := sub_D u1 d3 (Nat.div_mul_le_self _ _) (by rw [hmod]; exact hlt) (by omega) (by omega)
    rw [hmod] at d4
    refine ⟨⟨_, _, d2⟩, ⟨_, _, d4⟩, ?_⟩
    rw [if_pos hk]
    refine d2l_D d4 ?_
    unfold whole
    refine Nat.lt_of_le_of_lt (Nat.div_le_self _ _) ?_
    by_cases h0 : 0 ≤ K
    · have h1 : M % 2 ^ (63 - K).toNat < 2 ^ (63 - K).toNat := Nat.mod_lt _ (Nat.two_pow_pos _)
      calc M % 2 ^ (63 - K).toNat * 2 ^ K.toNat < 2 ^ (63 - K).toNat * 2 ^ K.toNat := Nat.mul_lt_mul_of_pos_right h1 (Nat.two_pow_pos _)
        _ = 2 ^ 63 := by rw [← Nat.pow_add]; congr 1; omega
    · rw [show K.toNat = 0 by omega, Nat.pow_zero]
      omega
  · have hw : whole M (K - 63) = M * 2 ^ (K - 63).toNat := by
      unfold whole
      rw [show (-(K - 63)).toNat = 0 by omega, Nat.pow_zero, Nat.div_one]
    rw [hw] at hH
    have d1 : D (l2d H) M (K - 63) := l2d_D hH (by
      have := VE.up M (K - 63).toNat 0
      rwa [show (0 : Int) + (((K - 63).toNat : Nat) : Int) = K - 63 by omega] at this) hM (by omega) (by omega)
    have d2 := mul_D d1 c63 hM (by omega) (by omega)
    rw [show K - 63 + 11 + 52 = K by omega] at d2
    have d4 := sub_D u1 d2 (Nat.le_refl _) (by omega) (by omega) (by omega)
    refine ⟨⟨_, _, d2⟩, ⟨_, _, d4⟩, ?_⟩
    rw [if_neg hk]
    have := d2l_D d4 (by unfold whole; rw [Nat.sub_self, Nat.zero_mul, Nat.zero_div]; exact Nat.two_pow_pos _)
    rw [this]
    unfold whole
    rw [Nat.sub_self, Nat.zero_mul, Nat.zero_div]
end Jvm.OwnFl
namespace Jvm.Pilot.@@N@@
open Jvm Jvm.ClassFile Sem Op Lib Jvm.Free Jvm.Stand Jvm.LawKit Jvm.RoadKit Jvm.OwnKit Bundle Jvm.Pilot.@@N@@.Jvm.D
theorem own_n64 {x : Int64} {n : Nat} (h : x.toBitVec.toNat = n) (hn : n < 2 ^ 63) : x.toInt = (n : Int) := by
  show x.toBitVec.toInt = _
  rw [BitVec.toInt_eq_toNat_cond, h, if_pos (by omega)]
theorem own_b64 {x : Int64} {n : Nat} (h : x.toInt = (n : Int)) : x.toBitVec.toNat = n := by
  have e : x.toBitVec.toInt = (n : Int) := h
  rw [BitVec.toInt_eq_toNat_cond] at e
  have := x.toBitVec.isLt
  split at e <;> omega
theorem own_isJ {j : Int32} {J : Nat} (h : j.toInt = (J : Int)) : j = Int32.ofNat J := by
  have hl := Int32.toInt_lt j
  apply Int32.toInt_inj.mp
  rw [h, Int32.toInt_ofNat', Int.bmod_def, show ((Int32.size : Nat) : Int) = 4294967296 from rfl]
  omega
theorem own_amtR : ∀ J, J < 64 → (((Int32.ofNat J) &&& 0x3f).toInt64.toUInt64).toNat % 64 = J := by decide
theorem own_amtL : ∀ J, J < 64 → ((((Int32.ofNat J) &&& 0x3f).toInt64).toBitVec.smod 64).toNat = J := by decide
theorem own_shr {m : Int64} {M J : Nat} {j : Int32} (hm : m.toInt = (M : Int)) (hM : M < 2 ^ 63) (hj : j.toInt = (J : Int)) (hJ : J < 64) : ((m.toUInt64 >>> (j &&& 0x3f).toInt64.toUInt64).toInt64).toInt = ((M / 2 ^ J : Nat) : Int) := by
  apply own_n64
  · show (m.toUInt64 >>> (j &&& 0x3f).toInt64.toUInt64).toNat = _
    rw [UInt64.toNat_shiftRight, own_isJ hj, own_amtR J hJ, show m.toUInt64.toNat = M from own_b64 hm, Nat.shiftRight_eq_div_pow]
  · exact Nat.lt_of_le_of_lt (Nat.div_le_self _ _) hM
theorem own_shlN {m : Int64} {M J : Nat} {j : Int32} (hm : m.toInt = (M : Int)) (hj : j.toInt = (J : Int)) (hJ : J < 64) : (m <<< (j &&& 0x3f).toInt64).toBitVec.toNat = M * 2 ^ J % 2 ^ 64 := by
  rw [Int64.toBitVec_shiftLeft, BitVec.shiftLeft_eq', own_isJ hj, own_amtL J hJ, BitVec.toNat_shiftLeft, own_b64 hm, Nat.shiftLeft_eq]
theorem own_shl {m : Int64} {M J : Nat} {j : Int32} (hm : m.toInt = (M : Int)) (hj : j.toInt = (J : Int)) (hJ : J < 64) (h : M * 2 ^ J < 2 ^ 63) : (m <<< (j &&& 0x3f).toInt64).toInt = ((M * 2 ^ J : Nat) : Int) := by
  refine own_n64 ?_ h
  rw [own_shlN hm hj hJ]
  exact Nat.mod_eq_of_lt (by omega)
theorem own_max {x : Int64} {n : Nat} (h : x.toBitVec.toNat = n) : (x &&& (9223372036854775807 : Int64)).toInt = ((n % 2 ^ 63 : Nat) : Int) := by
  refine own_n64 ?_ (Nat.mod_lt _ (by decide))
  show (x.toBitVec &&& (9223372036854775807 : Int64).toBitVec).toNat = _
  rw [BitVec.toNat_and, h, show (9223372036854775807 : Int64).toBitVec.toNat = 2 ^ 63 - 1 from rfl, Nat.and_two_pow_sub_one_eq_mod]
theorem own_m53 (x : Int64) : ∃ M : Nat, (x &&& (9007199254740991 : Int64)).toInt = (M : Int) ∧ M < 2 ^ 53 := by
  refine ⟨x.toBitVec.toNat % 2 ^ 53, own_n64 ?_ ?_, Nat.mod_lt _ (by decide)⟩
  · show (x.toBitVec &&& (9007199254740991 : Int64).toBitVec).toNat = _
    rw [BitVec.toNat_and, show (9007199254740991 : Int64).toBitVec.toNat = 2 ^ 53 - 1 from rfl, Nat.and_two_pow_sub_one_eq_mod]
  · have : x.toBitVec.toNat % 2 ^ 53 < 2 ^ 53 := Nat.mod_lt _ (by decide)
    omega
theorem own_m62 (x : Int64) : ∃ M : Nat, (x &&& (4611686018427387903 : Int64)).toInt = (M : Int) ∧ M < 2 ^ 62 := by
  refine ⟨x.toBitVec.toNat % 2 ^ 62, own_n64 ?_ ?_, Nat.mod_lt _ (by decide)⟩
  · show (x.toBitVec &&& (4611686018427387903 : Int64).toBitVec).toNat = _
    rw [BitVec.toNat_and, show (4611686018427387903 : Int64).toBitVec.toNat = 2 ^ 62 - 1 from rfl, Nat.and_two_pow_sub_one_eq_mod]
  · have : x.toBitVec.toNat % 2 ^ 62 < 2 ^ 62 := Nat.mod_lt _ (by decide)
    omega
theorem own_pow {j : Int32} {J : Nat} (hj : j.toInt = (J : Int)) (hJ : J < 63) : ((1 : Int64) <<< (j &&& 0x3f).toInt64).toInt = ((2 ^ J : Nat) : Int) := by
  have h : 2 ^ J < 2 ^ 63 := Nat.pow_lt_pow_right (by decide) hJ
  have := own_shl (m := 1) (M := 1) rfl hj (by omega) (by omega)
  rw [Nat.one_mul] at this
  exact this
theorem own_carry (s : Int64) : ∃ C : Nat, ((s.toUInt64 >>> ((63 : Int32) &&& 0x3f).toInt64.toUInt64).toInt64).toInt = (C : Int) ∧ C ≤ 1 := by
  have e : (s.toUInt64 >>> ((63 : Int32) &&& 0x3f).toInt64.toUInt64).toNat = s.toBitVec.toNat / 2 ^ 63 := by
    rw [UInt64.toNat_shiftRight, show (((63 : Int32) &&& 0x3f).toInt64.toUInt64).toNat % 64 = 63 by decide, Nat.shiftRight_eq_div_pow]
    rfl
  have hl := s.toBitVec.isLt
  refine ⟨s.toBitVec.toNat / 2 ^ 63, own_n64 e (by omega), by omega⟩
theorem own_t63 {x t : Int32} (h : t = (x &&& (2147483647 : Int32)) % (63 : Int32)) (q : (x &&& (2147483647 : Int32)).toInt = x.toInt % (2 ^ 31 : Nat)) : ∃ T : Nat, t.toInt = (T : Int) ∧ T < 63 := by
  have e5 : (63 : Int32).toInt = 63 := by decide
  have q0 : 0 ≤ (x &&& (2147483647 : Int32)).toInt := by omega
  have e : t.toInt = (x &&& (2147483647 : Int32)).toInt % 63 := by rw [h, Int32.toInt_mod, e5, Int.tmod_eq_emod_of_nonneg q0]
  exact ⟨t.toInt.toNat, by omega, by omega⟩
theorem own_kk {t u : Int32} {T U : Nat} (ht : t.toInt = (T : Int)) (hu : u.toInt = (U : Int)) (hT : T < 63) (hU : U < 63) : (((68 : Int32) - t) - u).toInt = 68 - (T : Int) - (U : Int) := by
  rw [Int32.toInt_sub, Int32.toInt_sub, ht, hu, show (68 : Int32).toInt = 68 from rfl, Int.bmod_def, Int.bmod_def]
  omega
theorem own_neg {k : Int32} {J : Nat} (h : k.toInt = -(J : Int)) (hJ : J < 64) : (-k).toInt = (J : Int) := by
  rw [Int32.toInt_neg, h, Int.bmod_def]
  omega
theorem own_63k {k : Int32} {J : Nat} (h : k.toInt = 63 - (J : Int)) (hJ : J < 64) : ((63 : Int32) - k).toInt = (J : Int) := by
  rw [Int32.toInt_sub, h, show (63 : Int32).toInt = 63 from rfl, Int.bmod_def]
  omega
theorem own_k63 {k : Int32} {J : Nat} (h : k.toInt = 63 + (J : Int)) (hJ : J < 64) : (k - (63 : Int32)).toInt = (J : Int) := by
  rw [Int32.toInt_sub, h, show (63 : Int32).toInt = 63 from rfl, Int.bmod_def]
  omega
/-- the sum's upper part doesn't turn negative -/
theorem own_pos {h0 uh cr : Int64} {A B C : Nat} (h1 : h0.toInt = (A : Int)) (h2 : uh.toInt = (B : Int)) (h3 : cr.toInt = (C : Int)) (hA : A < 2 ^ 62) (hB : B < 2 ^ 60) (hC : C ≤ 1) : ¬ (h0 + (uh + cr)) < 0 := by
  rw [Int64.lt_iff_toInt_lt, Int64.toInt_add, Int64.toInt_add, h1, h2, h3, show (0 : Int64).toInt = 0 from rfl, Int.bmod_def, Int.bmod_def]
  omega
def own_U (x : UInt64) : UInt64 := FP.dmul x (5147614374084476928 : UInt64)
def own_H (x : UInt64) : Int64 := FP.d2l (FP.dmul (own_U x) (4323455642275676160 : UInt64))
def own_B (x : UInt64) : UInt64 := FP.dmul (FP.l2d (own_H x)) (4890909195324358656 : UInt64)
def own_L (x : UInt64) : Int64 := FP.d2l (FP.dsub (own_U x) (own_B x))
open Jvm.OwnFl in
theorem own_nn {a : UInt64} {c : Nat} {q : Int} (h : D a c q) : Jvm.Free.Fl.NoNaN64 a := by
  rw [Jvm.Free.Fl.noNaN64_no, Jvm.FP.Core.notNaN_iff]
  exact h.nonan
open Jvm.OwnFl in
theorem own_d0 {mz : Int64} {M : Nat} (hm : mz.toInt = (M : Int)) (hM : M < 2 ^ 53) : D (FP.ddiv (FP.l2d mz) (4841369599423283200 : UInt64)) M (-52) := by
  have := div_D (l2d_D hm (VE.refl _ _) hM (by decide) (by decide)) c52 hM (by decide) (by decide)
  exact this
open Jvm.OwnFl in
theorem own_d1 {a : UInt64} {tz : Int32} {M T : Nat} {q : Int} (h : D a M q) (hM : M < 2 ^ 53) (ht : tz.toInt = (T : Int)) (hT : T < 63) (hq : -500 < q) (hq2 : q < 500) : D (FP.ddiv a (FP.l2d ((1 : Int64) <<< (tz &&& 0x3f).toInt64))) M (q - T) := by
  have := div_D h (l2d_pow hT (own_pow ht hT)) hM (by omega) (by omega)
  rw [show q - ((T : Int) - 52) - 52 = q - T by omega] at this
  exact this
/-- the term and its parts -/
def own_Ok (xz : UInt64) (mz : Int64) (kz : Int32) : Prop := ∃ (M : Nat) (K : Int), mz.toInt = (M : Int) ∧ M < 2 ^ 53 ∧ kz.toInt = K ∧ -60 < K ∧ K < 69 ∧ Jvm.OwnFl.D xz M (K - 120)
open Jvm.OwnFl in
theorem own_ok {xz : UInt64} {mz : Int64} {tz uz : Int32} {M T U : Nat} (hm : mz.toInt = (M : Int)) (hM : M < 2 ^ 53) (ht : tz.toInt = (T : Int)) (hT : T < 63) (hu : uz.toInt = (U : Int)) (hU : U < 63)
    (hx : xz = FP.ddiv (FP.ddiv (FP.ddiv (FP.l2d mz) (4841369599423283200 : UInt64)) (FP.l2d ((1 : Int64) <<< (tz &&& 0x3f).toInt64))) (FP.l2d ((1 : Int64) <<< (uz &&& 0x3f).toInt64))) : own_Ok xz mz (((68 : Int32) - tz) - uz) := by
  refine ⟨M, _, hm, hM, own_kk ht hu hT hU, by omega, by omega, ?_⟩
  rw [hx]
  have := own_d1 (own_d1 (own_d0 hm hM) hM ht hT (by omega) (by omega)) hM hu hU (by omega) (by omega)
  rw [show (-52 : Int) - (T : Int) - (U : Int) = 68 - (T : Int) - (U : Int) - 120 by omega] at this
  exact this
open Jvm.OwnFl Jvm.FP.Core in
theorem own_ord {x y : UInt64} (nx : val64 x ≠ Datum.nan) (ny : val64 y ≠ Datum.nan) : FP.dcmp x y = some (compare (zval b64 (val64 x)) (zval b64 (val64 y))) := order_zval good_b64 (val64_fits x) (val64_fits y) nx ny
open Jvm.OwnFl Jvm.FP.Core in
theorem own_v0 : val64 (0 : UInt64) = Datum.fin false 0 (-1074) := by decide +kernel
open Jvm.OwnFl Jvm.FP.Core in
theorem own_v2 : val64 (4611686018427387904 : UInt64) = Datum.fin false (2 ^ 52) (-51) := by decide +kernel
open Jvm.OwnFl Jvm.FP.Core in
theorem own_ge0 {xz : UInt64} {mz : Int64} {kz : Int32} (h : own_Ok xz mz kz) : ¬ cmpValue (FP.dcmp xz (0 : UInt64)) .l < 0 := by
  obtain ⟨M, K, -, -, -, k1, k2, d⟩ := h
  rw [own_ord d.nonan (by rw [own_v0]; exact Datum.noConfusion), d.zval (by omega), own_v0]
  have e : zval b64 (Datum.fin false 0 (-1074)) = 0 := by decide
  rw [e]
  have hz : (0 : Int) ≤ ((M * 2 ^ (K - 120 + 1074).toNat : Nat) : Int) := Int.natCast_nonneg _
  generalize ((M * 2 ^ (K - 120 + 1074).toNat : Nat) : Int) = z at hz
  rcases Int.lt_or_eq_of_le hz with h | h
  · rw [show compare z 0 = .gt from Int.compare_eq_gt.mpr h]
    decide
  · rw [show compare z 0 = .eq from Int.compare_eq_eq.mpr h.symm]
    decide
open Jvm.OwnFl Jvm.FP.Core in
theorem own_lt2 {xz : UInt64} {mz : Int64} {kz : Int32} (h : own_Ok xz mz kz) : cmpValue (FP.dcmp xz (4611686018427387904 : UInt64)) .g < 0 := by
  obtain ⟨M, K, -, hM, -, k1, k2, d⟩ := h
  have d2 : D (4611686018427387904 : UInt64) (2 ^ 52) (-51) := ⟨_, _, own_v2, VE.refl _ _⟩
  rw [own_ord d.nonan d2.nonan, d.zval (by omega), d2.zval (by decide)]
  have hlt : M * 2 ^ (K - 120 + 1074).toNat < 2 ^ 52 * 2 ^ ((-51 : Int) + 1074).toNat := by
    have h1 : 2 ^ (K - 120 + 1074).toNat ≤ 2 ^ 1022 := Nat.pow_le_pow_right (by decide) (by omega)
    have h2 : 0 < 2 ^ 1022 := Nat.two_pow_pos _
    rw [show ((-51 : Int) + 1074).toNat = 1 + 1022 from rfl, Nat.pow_add]
    generalize 2 ^ 1022 = P at h1 h2
    calc M * 2 ^ (K - 120 + 1074).toNat ≤ M * P := Nat.mul_le_mul_left _ h1
      _ < 2 ^ 53 * P := Nat.mul_lt_mul_of_pos_right hM h2
      _ = 2 ^ 52 * (2 ^ 1 * P) := by rw [← Nat.mul_assoc]
  rw [show compare ((M * 2 ^ (K - 120 + 1074).toNat : Nat) : Int) ((2 ^ 52 * 2 ^ ((-51 : Int) + 1074).toNat : Nat) : Int) = .lt from Int.compare_eq_lt.mpr (Int.ofNat_lt.mpr hlt)]
  decide
open Jvm.OwnFl in
theorem own_parts {xz : UInt64} {mz : Int64} {kz : Int32} (h : own_Ok xz mz kz) : Jvm.Free.Fl.NoNaN64 (own_U xz) ∧ Jvm.Free.Fl.NoNaN64 (FP.dmul (own_U xz) (4323455642275676160 : UInt64)) ∧ Jvm.Free.Fl.NoNaN64 (own_B xz) ∧ Jvm.Free.Fl.NoNaN64 (FP.dsub (own_U xz) (own_B xz)) ∧
    ∃ (M : Nat) (K : Int), mz.toInt = (M : Int) ∧ M < 2 ^ 53 ∧ kz.toInt = K ∧ -60 < K ∧ K < 69 ∧ (own_H xz).toInt = (whole M (K - 63) : Int) ∧ (own_L xz).toInt = ((if K < 63 then whole (M % 2 ^ (63 - K).toNat) K else 0 : Nat) : Int) := by
  obtain ⟨M, K, hm, hM, hk, k1, k2, d⟩ := h
  obtain ⟨s1, s2, s3, ⟨c1, q1, s4⟩, ⟨c2, q2, s5⟩, s6⟩ := split hM (by omega) (by omega) d
  exact ⟨own_nn s1, own_nn s2, own_nn s4, own_nn s5, M, K, hm, hM, hk, k1, k2, s3, s6⟩
theorem own_eq64 {x y : Int64} {n : Nat} (h1 : x.toInt = (n : Int)) (h2 : y.toInt = (n : Int)) : x = y := Int64.toInt_inj.mp (h1.trans h2.symm)
open Jvm.OwnFl in
theorem own_hbound {xz : UInt64} {mz : Int64} {kz : Int32} (h : own_Ok xz mz kz) : ∃ B : Nat, (own_H xz).toInt = (B : Int) ∧ B < 2 ^ 60 := by
  obtain ⟨-, -, -, -, M, K, hm, hM, hk, k1, k2, hH, -⟩ := own_parts h
  refine ⟨_, hH, ?_⟩
  unfold whole
  refine Nat.lt_of_le_of_lt (Nat.div_le_self _ _) ?_
  have : 2 ^ (K - 63).toNat ≤ 2 ^ 5 := Nat.pow_le_pow_right (by decide) (by omega)
  calc M * 2 ^ (K - 63).toNat ≤ M * 2 ^ 5 := Nat.mul_le_mul_left _ this
    _ < 2 ^ 60 := by omega
open Jvm.OwnFl in
theorem own_A {xz : UInt64} {mz : Int64} {kz : Int32} (h : own_Ok xz mz kz) (hc : ¬ 0 < kz) : own_H xz = (0 : Int64) ∧ own_L xz = ((mz.toUInt64 >>> ((-kz) &&& 0x3f).toInt64.toUInt64).toInt64) := by
  obtain ⟨-, -, -, -, M, K, hm, hM, hk, k1, k2, hH, hL⟩ := own_parts h
  rw [Int32.lt_iff_toInt_lt, hk, show (0 : Int32).toInt = 0 from rfl] at hc
  constructor
  · apply own_eq64 (n := 0) _ rfl
    rw [hH]
    unfold whole
    rw [show (K - 63).toNat = 0 by omega, Nat.pow_zero, Nat.mul_one, Nat.div_eq_of_lt]
    have : 2 ^ 63 ≤ 2 ^ (-(K - 63)).toNat := Nat.pow_le_pow_right (by decide) (by omega)
    omega
  · have e : (-kz).toInt = (((-K).toNat : Nat) : Int) := own_neg (by rw [hk]; omega) (by omega)
    refine own_eq64 (n := M / 2 ^ (-K).toNat) ?_ (own_shr hm (by omega) e (by omega))
    rw [hL, if_pos (by omega)]
    unfold whole
    rw [show K.toNat = 0 by omega, Nat.pow_zero, Nat.mul_one, Nat.mod_eq_of_lt]
    have : 2 ^ 63 ≤ 2 ^ (63 - K).toNat := Nat.pow_le_pow_right (by decide) (by omega)
    omega
open Jvm.OwnFl in
theorem own_Bb {xz : UInt64} {mz : Int64} {kz : Int32} (h : own_Ok xz mz kz) (h0 : 0 < kz) (h1 : kz < (63 : Int32)) : own_H xz = ((mz.toUInt64 >>> (((63 : Int32) - kz) &&& 0x3f).toInt64.toUInt64).toInt64) ∧ own_L xz = ((mz <<< (kz &&& 0x3f).toInt64) &&& (9223372036854775807 : Int64)) := by
  obtain ⟨-, -, -, -, M, K, hm, hM, hk, k1, k2, hH, hL⟩ := own_parts h
  rw [Int32.lt_iff_toInt_lt, hk, show (0 : Int32).toInt = 0 from rfl] at h0
  rw [Int32.lt_iff_toInt_lt, hk, show (63 : Int32).toInt = 63 from rfl] at h1
  constructor
  · have e : ((63 : Int32) - kz).toInt = (((63 - K).toNat : Nat) : Int) := own_63k (by rw [hk]; omega) (by omega)
    refine own_eq64 (n := M / 2 ^ (63 - K).toNat) ?_ (own_shr hm (by omega) e (by omega))
    rw [hH]
    unfold whole
    rw [show (K - 63).toNat = 0 by omega, Nat.pow_zero, Nat.mul_one, show (-(K - 63)).toNat = (63 - K).toNat by omega]
  · have e : kz.toInt = ((K.toNat : Nat) : Int) := by rw [hk]; omega
    refine own_eq64 (n := M * 2 ^ K.toNat % 2 ^ 64 % 2 ^ 63) ?_ (own_max (own_shlN hm e (by omega)))
    rw [hL, if_pos h1]
    unfold whole
    rw [show (-K).toNat = 0 by omega, Nat.pow_zero, Nat.div_one, Nat.mod_mod_of_dvd _ (show 2 ^ 63 ∣ 2 ^ 64 by decide), show 2 ^ 63 = 2 ^ (63 - K).toNat * 2 ^ K.toNat by rw [← Nat.pow_add]; congr 1; omega, Nat.mul_mod_mul_right]
open Jvm.OwnFl in
theorem own_Cc {xz : UInt64} {mz : Int64} {kz : Int32} (h : own_Ok xz mz kz) (h1 : ¬ kz < (63 : Int32)) : own_H xz = (mz <<< ((kz - (63 : Int32)) &&& 0x3f).toInt64) ∧ own_L xz = (0 : Int64) := by
  obtain ⟨-, -, -, -, M, K, hm, hM, hk, k1, k2, hH, hL⟩ := own_parts h
  rw [Int32.lt_iff_toInt_lt, hk, show (63 : Int32).toInt = 63 from rfl] at h1
  constructor
  · have e : (kz - (63 : Int32)).toInt = (((K - 63).toNat : Nat) : Int) := own_k63 (by rw [hk]; omega) (by omega)
    have hb : M * 2 ^ (K - 63).toNat < 2 ^ 63 := by
      have : 2 ^ (K - 63).toNat ≤ 2 ^ 5 := Nat.pow_le_pow_right (by decide) (by omega)
      calc M * 2 ^ (K - 63).toNat ≤ M * 2 ^ 5 := Nat.mul_le_mul_left _ this
        _ < 2 ^ 63 := by omega
    refine own_eq64 (n := M * 2 ^ (K - 63).toNat) ?_ (own_shl hm e (by omega) hb)
    rw [hH]
    unfold whole
    rw [show (-(K - 63)).toNat = 0 by omega, Nat.pow_zero, Nat.div_one]
  · apply own_eq64 (n := 0) _ rfl
    rw [hL, if_neg h1]
theorem own_high {xz : UInt64} {mz h0 l0 : Int64} {kz : Int32} {A : Nat} (h : own_Ok xz mz kz) (hA : h0.toInt = (A : Int)) (hA2 : A < 2 ^ 62) : ¬ (h0 + ((own_H xz) + (((l0 + (own_L xz)).toUInt64 >>> ((63 : Int32) &&& 0x3f).toInt64.toUInt64).toInt64))) < (0 : Int64) := by
  obtain ⟨B, hB, hB2⟩ := own_hbound h
  obtain ⟨C, hC, hC2⟩ := own_carry (l0 + own_L xz)
  exact own_pos hA hB hC hA2 hB2 hC2
theorem d1_0 : decode prog_20_method_1_code 0 = .ok (.aload_n 0, 1) := by decide +kernel
theorem d1_1 : decode prog_20_method_1_code 1 = .ok (.invokespecial 3, 3) := by decide +kernel
theorem d1_4 : decode prog_20_method_1_code 4 = .ok (.return_, 1) := by decide +kernel
theorem ef_rm_ini (m : MethodId) (t : Addr)  : entryFrame m #[(.ref t)] 1 = mkF m 0 #[.val (.ref t)] [] := by first | (simp [entryFrame, mkF, argsToLocals, Value.category]; done) | rfl
def Q_rm_ini (Z : State) (t : Addr)  (h0 : Heap) (n0 : Nat) (v : Option Value) (h : Heap) (L : List Loc) : Prop := v = none ∧ Fr n0 L ∧ h = h0
theorem pn_0_ : plainName "com/example/heedful_rank/heedfulrank/solver/FixedPointSum" = true := by first | (simp [plainName, overriddenIn]; done) | decide +kernel
theorem pn_0 : plainFor (⟨"com/example/heedful_rank/heedfulrank/solver/FixedPointSum", "<init>", "()V"⟩ : MethodName) = true := plainFor_of_name pn_0_
set_option maxRecDepth 65536 in
set_option maxHeartbeats 40000000 in
theorem rm_ini (l : Launch) (Z : State) (a0 : Array Value) (hw : ∀ d ∈ tables_1, d.before a0 Z = true) (ws : List Jvm.Cond) (t : Addr)  (h0 : Heap) (n0 : Nat) (O0 : Old Z n0 h0)  :
    MetFree l (⟨"com/example/heedful_rank/heedfulrank/solver/FixedPointSum", "<init>", "()V"⟩ : MethodName) (head1 (Jvm.Cond.code (⟨"com/example/heedful_rank/heedfulrank/solver/FixedPointSum", "<init>", "()V"⟩ : MethodName) prog_20_method_1_code 1 none :: ws) ({ frames := 1, cells := 0, slots := 0, locals := 12 } : Room)) (fun args_ U => args_ = #[(.ref t)] ∧ Z.Warmed39 U.vm ∧ U.heap = h0) (fun _ _ _ _ _ => True) (fun _ U out_ U' => ∃ val_ loc_, out_ = .returned val_ ∧ (Q_rm_ini Z t h0 n0) val_ U'.heap loc_ ∧ FrameEnd U out_ U' loc_ ({ frames := 1, cells := 0, slots := 0, locals := 12 } : Room).cells ({ frames := 1, cells := 0, slots := 0, locals := 12 } : Room).slots) := by
  refine start (Q := (Q_rm_ini Z t h0 n0)) pn_0 ?_
  intro p e s m below meth c T0 X0 hx hby hml hown hnm hret hlk hZ e0
  replace hown : s.vm.findClass "com/example/heedful_rank/heedfulrank/solver/FixedPointSum" = some m.cls := hown
  replace hml : c.maxLocals = 1 := hml
  refine goAt (ef_rm_ini m t ) ?_
  have N0 := Fr.nil n0
  show Go p e below T0 (mkF m 0 #[.val (.ref t)] []) _
  refine stp (fun _ => XS.aloadN X0.here hx rfl (hb hby d1_0) rfl rfl) ?_
  show Go p e below T0 (mkF m 1 #[.val (.ref t)] [(.ref t)]) _
  obtain ⟨T1, X1, e1, st1⟩ := initO X0 hx hZ hown (hw _ (List.mem_of_getElem? (i := 11) rfl)) (hw _ (List.mem_of_getElem? (i := 12) rfl)) (hw _ (List.mem_of_getElem? (i := 13) rfl)) e0 (g := (mkF m 1 #[.val (.ref t)] [(.ref t)])) rfl (by rw [hml]; rfl) rfl (hb hby d1_1) (by decide) (W := 0) (by show 2 * 0 + _ ≤ _; exact Nat.le_of_eq rfl) (by decide)
  refine stp st1 ?_
  show Go p e below T1 (mkF m 4 #[.val (.ref t)] []) _
  refine outV X1 hx hret (hb hby d1_4) hlk (by decide) (by decide) ?_
  exact ⟨rfl, N0, e1⟩
theorem d3_0 : decode prog_20_method_3_code 0 = .ok (.aload_n 0, 1) := by decide +kernel
theorem d3_1 : decode prog_20_method_3_code 1 = .ok (.lload_n 1, 1) := by decide +kernel
theorem d3_2 : decode prog_20_method_3_code 2 = .ok (.putfield 9, 3) := by decide +kernel
theorem d3_5 : decode prog_20_method_3_code 5 = .ok (.aload_n 0, 1) := by decide +kernel
theorem d3_6 : decode prog_20_method_3_code 6 = .ok (.lload_n 3, 1) := by decide +kernel
theorem d3_7 : decode prog_20_method_3_code 7 = .ok (.putfield 13, 3) := by decide +kernel
theorem d3_10 : decode prog_20_method_3_code 10 = .ok (.return_, 1) := by decide +kernel
theorem ef_rm_res (m : MethodId) (t : Addr) (hh : Int64) (ll : Int64)  : entryFrame m #[(.ref t), (.long hh), (.long ll)] 5 = mkF m 0 #[.val (.ref t), .val (.long hh), .second, .val (.long ll), .second] [] := by first | (simp [entryFrame, mkF, argsToLocals, Value.category]; done) | rfl
def Q_rm_res (Z : State) (t : Addr) (hh : Int64) (ll : Int64)  (h0 : Heap) (n0 : Nat) (v : Option Value) (h : Heap) (L : List Loc) : Prop := v = none ∧ Fr n0 L ∧ Keep h0 h [t] ∧ Exa Z h t "com/example/heedful_rank/heedfulrank/solver/FixedPointSum" ∧ Fld Z h t "com/example/heedful_rank/heedfulrank/solver/FixedPointSum" "high" "J" (.long hh) ∧ Fld Z h t "com/example/heedful_rank/heedfulrank/solver/FixedPointSum" "low" "J" (.long ll)
theorem pn_1_ : plainName "com/example/heedful_rank/heedfulrank/solver/FixedPointSum" = true := by first | (simp [plainName, overriddenIn]; done) | decide +kernel
theorem pn_1 : plainFor (⟨"com/example/heedful_rank/heedfulrank/solver/FixedPointSum", "resume", "(JJ)V"⟩ : MethodName) = true := plainFor_of_name pn_1_
set_option maxRecDepth 65536 in
set_option maxHeartbeats 40000000 in
theorem rm_res (l : Launch) (Z : State) (a0 : Array Value) (hw : ∀ d ∈ tables_1, d.before a0 Z = true) (ws : List Jvm.Cond) (t : Addr) (hh : Int64) (ll : Int64)  (h0 : Heap) (n0 : Nat) (O0 : Old Z n0 h0) (E_t : Exa Z h0 t "com/example/heedful_rank/heedfulrank/solver/FixedPointSum") (F_t_high : Fld Z h0 t "com/example/heedful_rank/heedfulrank/solver/FixedPointSum" "high" "J" (.long (0 : Int64))) (F_t_low : Fld Z h0 t "com/example/heedful_rank/heedfulrank/solver/FixedPointSum" "low" "J" (.long (0 : Int64))) (ge_t : n0 ≤ t) :
    MetFree l (⟨"com/example/heedful_rank/heedfulrank/solver/FixedPointSum", "resume", "(JJ)V"⟩ : MethodName) (head1 (Jvm.Cond.code (⟨"com/example/heedful_rank/heedfulrank/solver/FixedPointSum", "resume", "(JJ)V"⟩ : MethodName) prog_20_method_3_code 5 none :: ws) ({ frames := 0, cells := 0, slots := 0, locals := 0 } : Room)) (fun args_ U => args_ = #[(.ref t), (.long hh), (.long ll)] ∧ Z.Warmed39 U.vm ∧ U.heap = h0) (fun _ _ _ _ _ => True) (fun _ U out_ U' => ∃ val_ loc_, out_ = .returned val_ ∧ (Q_rm_res Z t hh ll h0 n0) val_ U'.heap loc_ ∧ FrameEnd U out_ U' loc_ ({ frames := 0, cells := 0, slots := 0, locals := 0 } : Room).cells ({ frames := 0, cells := 0, slots := 0, locals := 0 } : Room).slots) := by
  refine start (Q := (Q_rm_res Z t hh ll h0 n0)) pn_1 ?_
  intro p e s m below meth c T0 X0 hx hby hml hown hnm hret hlk hZ e0
  replace hown : s.vm.findClass "com/example/heedful_rank/heedfulrank/solver/FixedPointSum" = some m.cls := hown
  replace hml : c.maxLocals = 5 := hml
  refine goAt (ef_rm_res m t hh ll ) ?_
  have N0 := Fr.nil n0
  show Go p e below T0 (mkF m 0 #[.val (.ref t), .val (.long hh), .second, .val (.long ll), .second] []) _
  refine stp (fun _ => XS.aloadN X0.here hx rfl (hb hby d3_0) rfl rfl) ?_
  show Go p e below T0 (mkF m 1 #[.val (.ref t), .val (.long hh), .second, .val (.long ll), .second] [(.ref t)]) _
  refine stp (fun _ => XS.lloadN X0.here hx rfl (hb hby d3_1) rfl) ?_
  show Go p e below T0 (mkF m 2 #[.val (.ref t), .val (.long hh), .second, .val (.long ll), .second] [(.long hh), (.ref t)]) _
  obtain ⟨T1, h1, X1, e1, W1, st1⟩ := putF X0 hx hZ hown (host := "") (Or.inl (hw _ (List.mem_of_getElem? (i := 19) rfl))) Via.refl e0 F_t_high E_t (Or.inl (hw _ (List.mem_of_getElem? (i := 20) rfl))) (hw _ (List.mem_of_getElem? (i := 6) rfl)) (ty := .long) (by decide) rfl rfl (g := (mkF m 2 #[.val (.ref t), .val (.long hh), .second, .val (.long ll), .second] [(.long hh), (.ref t)])) rfl rfl (hb hby d3_2)
  have Fw1 := F_t_high.same W1
  have f2 := E_t.wr W1
  have f4 := F_t_low.other W1 (Or.inr (slot_ne (Or.inl (hw _ (List.mem_of_getElem? (i := 22) rfl))) (Or.inl (hw _ (List.mem_of_getElem? (i := 20) rfl))) (by decide) (t := .long) (t' := .long) (by decide) (by decide)))
  have K1 : Keep h0 h1 [t] := (Keep.refl h0 [t]).wr W1 (Or.inl (List.mem_of_getElem? (i := 0) rfl))
  have O1 := O0.wr W1 ge_t
  have N1 := Fr.snoc X1 N0 ge_t
  refine stp st1 ?_
  show Go p e below T1 (mkF m 5 #[.val (.ref t), .val (.long hh), .second, .val (.long ll), .second] []) _
  refine stp (fun _ => XS.aloadN X1.here hx rfl (hb hby d3_5) rfl rfl) ?_
  show Go p e below T1 (mkF m 6 #[.val (.ref t), .val (.long hh), .second, .val (.long ll), .second] [(.ref t)]) _
  refine stp (fun _ => XS.lloadN X1.here hx rfl (hb hby d3_6) rfl) ?_
  show Go p e below T1 (mkF m 7 #[.val (.ref t), .val (.long hh), .second, .val (.long ll), .second] [(.long ll), (.ref t)]) _
  obtain ⟨T5, h5, X5, e5, W5, st5⟩ := putF X1 hx hZ hown (host := "") (Or.inl (hw _ (List.mem_of_getElem? (i := 21) rfl))) Via.refl e1 f4 f2 (Or.inl (hw _ (List.mem_of_getElem? (i := 22) rfl))) (hw _ (List.mem_of_getElem? (i := 6) rfl)) (ty := .long) (by decide) rfl rfl (g := (mkF m 7 #[.val (.ref t), .val (.long hh), .second, .val (.long ll), .second] [(.long ll), (.ref t)])) rfl rfl (hb hby d3_7)
  have Fw5 := f4.same W5
  have f6 := f2.wr W5
  have f7 := Fw1.other W5 (Or.inr (slot_ne (Or.inl (hw _ (List.mem_of_getElem? (i := 20) rfl))) (Or.inl (hw _ (List.mem_of_getElem? (i := 22) rfl))) (by decide) (t := .long) (t' := .long) (by decide) (by decide)))
  have K5 : Keep h0 h5 [t] := K1.wr W5 (Or.inl (List.mem_of_getElem? (i := 0) rfl))
  have O5 := O1.wr W5 ge_t
  have N5 := Fr.snoc X5 N1 ge_t
  refine stp st5 ?_
  show Go p e below T5 (mkF m 10 #[.val (.ref t), .val (.long hh), .second, .val (.long ll), .second] []) _
  refine outV X5 hx hret (hb hby d3_10) hlk (by decide) (by decide) ?_
  rw [e5]
  exact ⟨rfl, N5, K5, f6, f7, Fw5⟩
theorem d5_0 : decode prog_20_method_6_code 0 = .ok (.aload_n 0, 1) := by decide +kernel
theorem d5_1 : decode prog_20_method_6_code 1 = .ok (.getfield 9, 3) := by decide +kernel
theorem d5_4 : decode prog_20_method_6_code 4 = .ok (.lreturn, 1) := by decide +kernel
theorem ef_rm_hi (m : MethodId) (t : Addr)  : entryFrame m #[(.ref t)] 1 = mkF m 0 #[.val (.ref t)] [] := by first | (simp [entryFrame, mkF, argsToLocals, Value.category]; done) | rfl
def Q_rm_hi (Z : State) (t : Addr) (hh : Int64) (h0 : Heap) (n0 : Nat) (v : Option Value) (h : Heap) (L : List Loc) : Prop := v = some (.long hh) ∧ Fr n0 L ∧ h = h0
theorem pn_2_ : plainName "com/example/heedful_rank/heedfulrank/solver/FixedPointSum" = true := by first | (simp [plainName, overriddenIn]; done) | decide +kernel
theorem pn_2 : plainFor (⟨"com/example/heedful_rank/heedfulrank/solver/FixedPointSum", "high", "()J"⟩ : MethodName) = true := plainFor_of_name pn_2_
set_option maxRecDepth 65536 in
set_option maxHeartbeats 40000000 in
theorem rm_hi (l : Launch) (Z : State) (a0 : Array Value) (hw : ∀ d ∈ tables_1, d.before a0 Z = true) (ws : List Jvm.Cond) (t : Addr) (hh : Int64) (h0 : Heap) (n0 : Nat) (O0 : Old Z n0 h0) (F_t_high : Fld Z h0 t "com/example/heedful_rank/heedfulrank/solver/FixedPointSum" "high" "J" (.long hh)) :
    MetFree l (⟨"com/example/heedful_rank/heedfulrank/solver/FixedPointSum", "high", "()J"⟩ : MethodName) (head1 (Jvm.Cond.code (⟨"com/example/heedful_rank/heedfulrank/solver/FixedPointSum", "high", "()J"⟩ : MethodName) prog_20_method_6_code 1 (some .long) :: ws) ({ frames := 0, cells := 0, slots := 0, locals := 0 } : Room)) (fun args_ U => args_ = #[(.ref t)] ∧ Z.Warmed39 U.vm ∧ U.heap = h0) (fun _ _ _ _ _ => True) (fun _ U out_ U' => ∃ val_ loc_, out_ = .returned val_ ∧ (Q_rm_hi Z t hh h0 n0) val_ U'.heap loc_ ∧ FrameEnd U out_ U' loc_ ({ frames := 0, cells := 0, slots := 0, locals := 0 } : Room).cells ({ frames := 0, cells := 0, slots := 0, locals := 0 } : Room).slots) := by
  refine start (Q := (Q_rm_hi Z t hh h0 n0)) pn_2 ?_
  intro p e s m below meth c T0 X0 hx hby hml hown hnm hret hlk hZ e0
  replace hown : s.vm.findClass "com/example/heedful_rank/heedfulrank/solver/FixedPointSum" = some m.cls := hown
  replace hml : c.maxLocals = 1 := hml
  refine goAt (ef_rm_hi m t ) ?_
  have N0 := Fr.nil n0
  show Go p e below T0 (mkF m 0 #[.val (.ref t)] []) _
  refine stp (fun _ => XS.aloadN X0.here hx rfl (hb hby d5_0) rfl rfl) ?_
  show Go p e below T0 (mkF m 1 #[.val (.ref t)] [(.ref t)]) _
  obtain ⟨T1, X1, e1, st1⟩ := getF X0 hx hZ hown (host := "") (Or.inl (hw _ (List.mem_of_getElem? (i := 19) rfl))) Via.refl e0 F_t_high (g := (mkF m 1 #[.val (.ref t)] [(.ref t)])) rfl rfl (hb hby d5_1)
  refine stp st1 ?_
  show Go p e below T1 (mkF m 4 #[.val (.ref t)] [(.long hh)]) _
  refine outJ X1 hx hret (hb hby d5_4) hlk (by decide) (by decide) ?_
  exact ⟨rfl, N0, e1⟩
theorem d6_0 : decode prog_20_method_7_code 0 = .ok (.aload_n 0, 1) := by decide +kernel
theorem d6_1 : decode prog_20_method_7_code 1 = .ok (.getfield 13, 3) := by decide +kernel
theorem d6_4 : decode prog_20_method_7_code 4 = .ok (.lreturn, 1) := by decide +kernel
theorem ef_rm_lo (m : MethodId) (t : Addr)  : entryFrame m #[(.ref t)] 1 = mkF m 0 #[.val (.ref t)] [] := by first | (simp [entryFrame, mkF, argsToLocals, Value.category]; done) | rfl
def Q_rm_lo (Z : State) (t : Addr) (ll : Int64) (h0 : Heap) (n0 : Nat) (v : Option Value) (h : Heap) (L : List Loc) : Prop := v = some (.long ll) ∧ Fr n0 L ∧ h = h0
theorem pn_3_ : plainName "com/example/heedful_rank/heedfulrank/solver/FixedPointSum" = true := by first | (simp [plainName, overriddenIn]; done) | decide +kernel
theorem pn_3 : plainFor (⟨"com/example/heedful_rank/heedfulrank/solver/FixedPointSum", "low", "()J"⟩ : MethodName) = true := plainFor_of_name pn_3_
set_option maxRecDepth 65536 in
set_option maxHeartbeats 40000000 in
theorem rm_lo (l : Launch) (Z : State) (a0 : Array Value) (hw : ∀ d ∈ tables_1, d.before a0 Z = true) (ws : List Jvm.Cond) (t : Addr) (ll : Int64) (h0 : Heap) (n0 : Nat) (O0 : Old Z n0 h0) (F_t_low : Fld Z h0 t "com/example/heedful_rank/heedfulrank/solver/FixedPointSum" "low" "J" (.long ll)) :
    MetFree l (⟨"com/example/heedful_rank/heedfulrank/solver/FixedPointSum", "low", "()J"⟩ : MethodName) (head1 (Jvm.Cond.code (⟨"com/example/heedful_rank/heedfulrank/solver/FixedPointSum", "low", "()J"⟩ : MethodName) prog_20_method_7_code 1 (some .long) :: ws) ({ frames := 0, cells := 0, slots := 0, locals := 0 } : Room)) (fun args_ U => args_ = #[(.ref t)] ∧ Z.Warmed39 U.vm ∧ U.heap = h0) (fun _ _ _ _ _ => True) (fun _ U out_ U' => ∃ val_ loc_, out_ = .returned val_ ∧ (Q_rm_lo Z t ll h0 n0) val_ U'.heap loc_ ∧ FrameEnd U out_ U' loc_ ({ frames := 0, cells := 0, slots := 0, locals := 0 } : Room).cells ({ frames := 0, cells := 0, slots := 0, locals := 0 } : Room).slots) := by
  refine start (Q := (Q_rm_lo Z t ll h0 n0)) pn_3 ?_
  intro p e s m below meth c T0 X0 hx hby hml hown hnm hret hlk hZ e0
  replace hown : s.vm.findClass "com/example/heedful_rank/heedfulrank/solver/FixedPointSum" = some m.cls := hown
  replace hml : c.maxLocals = 1 := hml
  refine goAt (ef_rm_lo m t ) ?_
  have N0 := Fr.nil n0
  show Go p e below T0 (mkF m 0 #[.val (.ref t)] []) _
  refine stp (fun _ => XS.aloadN X0.here hx rfl (hb hby d6_0) rfl rfl) ?_
  show Go p e below T0 (mkF m 1 #[.val (.ref t)] [(.ref t)]) _
  obtain ⟨T1, X1, e1, st1⟩ := getF X0 hx hZ hown (host := "") (Or.inl (hw _ (List.mem_of_getElem? (i := 21) rfl))) Via.refl e0 F_t_low (g := (mkF m 1 #[.val (.ref t)] [(.ref t)])) rfl rfl (hb hby d6_1)
  refine stp st1 ?_
  show Go p e below T1 (mkF m 4 #[.val (.ref t)] [(.long ll)]) _
  refine outJ X1 hx hret (hb hby d6_4) hlk (by decide) (by decide) ?_
  exact ⟨rfl, N0, e1⟩
theorem d4_0 : decode prog_20_method_8_code 0 = .ok (.dload_n 1, 1) := by decide +kernel
theorem d4_1 : decode prog_20_method_8_code 1 = .ok (.dconst 0, 1) := by decide +kernel
theorem d4_2 : decode prog_20_method_8_code 2 = .ok (.dcmp .l, 1) := by decide +kernel
theorem d4_3 : decode prog_20_method_8_code 3 = .ok (.ifCond .lt 11, 3) := by decide +kernel
theorem d4_6 : decode prog_20_method_8_code 6 = .ok (.dload_n 1, 1) := by decide +kernel
theorem d4_7 : decode prog_20_method_8_code 7 = .ok (.ldc2_w 20, 3) := by decide +kernel
theorem d4_10 : decode prog_20_method_8_code 10 = .ok (.dcmp .g, 1) := by decide +kernel
theorem d4_11 : decode prog_20_method_8_code 11 = .ok (.ifCond .lt 17, 3) := by decide +kernel
theorem d4_28 : decode prog_20_method_8_code 28 = .ok (.dload_n 1, 1) := by decide +kernel
theorem d4_29 : decode prog_20_method_8_code 29 = .ok (.ldc2_w 31, 3) := by decide +kernel
theorem d4_32 : decode prog_20_method_8_code 32 = .ok (.dmul, 1) := by decide +kernel
theorem d4_33 : decode prog_20_method_8_code 33 = .ok (.dstore_n 3, 1) := by decide +kernel
theorem d4_34 : decode prog_20_method_8_code 34 = .ok (.dload_n 3, 1) := by decide +kernel
theorem d4_35 : decode prog_20_method_8_code 35 = .ok (.ldc2_w 33, 3) := by decide +kernel
theorem d4_38 : decode prog_20_method_8_code 38 = .ok (.dmul, 1) := by decide +kernel
theorem d4_39 : decode prog_20_method_8_code 39 = .ok (.d2l, 1) := by decide +kernel
theorem d4_40 : decode prog_20_method_8_code 40 = .ok (.lstore 5, 2) := by decide +kernel
theorem d4_42 : decode prog_20_method_8_code 42 = .ok (.dload_n 3, 1) := by decide +kernel
theorem d4_43 : decode prog_20_method_8_code 43 = .ok (.lload 5, 2) := by decide +kernel
theorem d4_45 : decode prog_20_method_8_code 45 = .ok (.l2d, 1) := by decide +kernel
theorem d4_46 : decode prog_20_method_8_code 46 = .ok (.ldc2_w 35, 3) := by decide +kernel
theorem d4_49 : decode prog_20_method_8_code 49 = .ok (.dmul, 1) := by decide +kernel
theorem d4_50 : decode prog_20_method_8_code 50 = .ok (.dsub, 1) := by decide +kernel
theorem d4_51 : decode prog_20_method_8_code 51 = .ok (.d2l, 1) := by decide +kernel
theorem d4_52 : decode prog_20_method_8_code 52 = .ok (.lstore 7, 2) := by decide +kernel
theorem d4_54 : decode prog_20_method_8_code 54 = .ok (.aload_n 0, 1) := by decide +kernel
theorem d4_55 : decode prog_20_method_8_code 55 = .ok (.dup, 1) := by decide +kernel
theorem d4_56 : decode prog_20_method_8_code 56 = .ok (.getfield 13, 3) := by decide +kernel
theorem d4_59 : decode prog_20_method_8_code 59 = .ok (.lload 7, 2) := by decide +kernel
theorem d4_61 : decode prog_20_method_8_code 61 = .ok (.ladd, 1) := by decide +kernel
theorem d4_62 : decode prog_20_method_8_code 62 = .ok (.putfield 13, 3) := by decide +kernel
theorem d4_65 : decode prog_20_method_8_code 65 = .ok (.aload_n 0, 1) := by decide +kernel
theorem d4_66 : decode prog_20_method_8_code 66 = .ok (.dup, 1) := by decide +kernel
theorem d4_67 : decode prog_20_method_8_code 67 = .ok (.getfield 9, 3) := by decide +kernel
theorem d4_70 : decode prog_20_method_8_code 70 = .ok (.lload 5, 2) := by decide +kernel
theorem d4_72 : decode prog_20_method_8_code 72 = .ok (.aload_n 0, 1) := by decide +kernel
theorem d4_73 : decode prog_20_method_8_code 73 = .ok (.getfield 13, 3) := by decide +kernel
theorem d4_76 : decode prog_20_method_8_code 76 = .ok (.bipush 63, 2) := by decide +kernel
theorem d4_78 : decode prog_20_method_8_code 78 = .ok (.lushr, 1) := by decide +kernel
theorem d4_79 : decode prog_20_method_8_code 79 = .ok (.ladd, 1) := by decide +kernel
theorem d4_80 : decode prog_20_method_8_code 80 = .ok (.ladd, 1) := by decide +kernel
theorem d4_81 : decode prog_20_method_8_code 81 = .ok (.putfield 9, 3) := by decide +kernel
theorem d4_84 : decode prog_20_method_8_code 84 = .ok (.aload_n 0, 1) := by decide +kernel
theorem d4_85 : decode prog_20_method_8_code 85 = .ok (.dup, 1) := by decide +kernel
theorem d4_86 : decode prog_20_method_8_code 86 = .ok (.getfield 13, 3) := by decide +kernel
theorem d4_89 : decode prog_20_method_8_code 89 = .ok (.ldc2_w 39, 3) := by decide +kernel
theorem d4_92 : decode prog_20_method_8_code 92 = .ok (.land, 1) := by decide +kernel
theorem d4_93 : decode prog_20_method_8_code 93 = .ok (.putfield 13, 3) := by decide +kernel
theorem d4_96 : decode prog_20_method_8_code 96 = .ok (.aload_n 0, 1) := by decide +kernel
theorem d4_97 : decode prog_20_method_8_code 97 = .ok (.getfield 9, 3) := by decide +kernel
theorem d4_100 : decode prog_20_method_8_code 100 = .ok (.lconst 0, 1) := by decide +kernel
theorem d4_101 : decode prog_20_method_8_code 101 = .ok (.lcmp, 1) := by decide +kernel
theorem d4_102 : decode prog_20_method_8_code 102 = .ok (.ifCond .ge 13, 3) := by decide +kernel
theorem d4_115 : decode prog_20_method_8_code 115 = .ok (.return_, 1) := by decide +kernel
theorem ef_rm_add (m : MethodId) (t : Addr) (xz : UInt64)  : entryFrame m #[(.ref t), (.double xz)] 9 = mkF m 0 #[.val (.ref t), .val (.double xz), .second, .unset, .unset, .unset, .unset, .unset, .unset] [] := by first | (simp [entryFrame, mkF, argsToLocals, Value.category]; done) | rfl
def Q_rm_add (Z : State) (t : Addr) (xz : UInt64) (hh : Int64) (ll : Int64) (h0 : Heap) (n0 : Nat) (v : Option Value) (h : Heap) (L : List Loc) : Prop := v = none ∧ Fr n0 L ∧ Keep h0 h [t] ∧ Exa Z h t "com/example/heedful_rank/heedfulrank/solver/FixedPointSum" ∧ Fld Z h t "com/example/heedful_rank/heedfulrank/solver/FixedPointSum" "high" "J" (.long (hh + ((own_H xz) + (((ll + (own_L xz)).toUInt64 >>> ((63 : Int32) &&& 0x3f).toInt64.toUInt64).toInt64)))) ∧ Fld Z h t "com/example/heedful_rank/heedfulrank/solver/FixedPointSum" "low" "J" (.long ((ll + (own_L xz)) &&& (9223372036854775807 : Int64)))
theorem pn_4_ : plainName "com/example/heedful_rank/heedfulrank/solver/FixedPointSum" = true := by first | (simp [plainName, overriddenIn]; done) | decide +kernel
theorem pn_4 : plainFor (⟨"com/example/heedful_rank/heedfulrank/solver/FixedPointSum", "add", "(D)V"⟩ : MethodName) = true := plainFor_of_name pn_4_
set_option maxRecDepth 65536 in
set_option maxHeartbeats 40000000 in
theorem rm_add (l : Launch) (Z : State) (a0 : Array Value) (hw : ∀ d ∈ tables_1, d.before a0 Z = true) (ws : List Jvm.Cond) (t : Addr) (xz : UInt64) (hh : Int64) (ll : Int64) (h0 : Heap) (n0 : Nat) (O0 : Old Z n0 h0) (E_t : Exa Z h0 t "com/example/heedful_rank/heedfulrank/solver/FixedPointSum") (F_t_high : Fld Z h0 t "com/example/heedful_rank/heedfulrank/solver/FixedPointSum" "high" "J" (.long hh)) (F_t_low : Fld Z h0 t "com/example/heedful_rank/heedfulrank/solver/FixedPointSum" "low" "J" (.long ll)) (ge_t : n0 ≤ t) (n1 : ¬ cmpValue (FP.dcmp xz (0 : UInt64)) .l < 0) (n2 : cmpValue (FP.dcmp xz (4611686018427387904 : UInt64)) .g < 0) (n3 : Jvm.Free.Fl.NoNaN64 (own_U xz)) (n4 : Jvm.Free.Fl.NoNaN64 (FP.dmul (own_U xz) (4323455642275676160 : UInt64))) (n5 : Jvm.Free.Fl.NoNaN64 (own_B xz)) (n6 : Jvm.Free.Fl.NoNaN64 (FP.dsub (own_U xz) (own_B xz))) (n7 : ¬ (hh + ((own_H xz) + (((ll + (own_L xz)).toUInt64 >>> ((63 : Int32) &&& 0x3f).toInt64.toUInt64).toInt64))) < (0 : Int64)) :
    MetFree l (⟨"com/example/heedful_rank/heedfulrank/solver/FixedPointSum", "add", "(D)V"⟩ : MethodName) (head1 (Jvm.Cond.code (⟨"com/example/heedful_rank/heedfulrank/solver/FixedPointSum", "add", "(D)V"⟩ : MethodName) prog_20_method_8_code 9 none :: ws) ({ frames := 0, cells := 0, slots := 0, locals := 0 } : Room)) (fun args_ U => args_ = #[(.ref t), (.double xz)] ∧ Z.Warmed39 U.vm ∧ U.heap = h0) (fun _ _ _ _ _ => True) (fun _ U out_ U' => ∃ val_ loc_, out_ = .returned val_ ∧ (Q_rm_add Z t xz hh ll h0 n0) val_ U'.heap loc_ ∧ FrameEnd U out_ U' loc_ ({ frames := 0, cells := 0, slots := 0, locals := 0 } : Room).cells ({ frames := 0, cells := 0, slots := 0, locals := 0 } : Room).slots) := by
  refine start (Q := (Q_rm_add Z t xz hh ll h0 n0)) pn_4 ?_
  intro p e s m below meth c T0 X0 hx hby hml hown hnm hret hlk hZ e0
  replace hown : s.vm.findClass "com/example/heedful_rank/heedfulrank/solver/FixedPointSum" = some m.cls := hown
  replace hml : c.maxLocals = 9 := hml
  refine goAt (ef_rm_add m t xz ) ?_
  have N0 := Fr.nil n0
  show Go p e below T0 (mkF m 0 #[.val (.ref t), .val (.double xz), .second, .unset, .unset, .unset, .unset, .unset, .unset] []) _
  refine stp (fun _ => XS.dloadN X0.here hx rfl (hb hby d4_0) rfl) ?_
  show Go p e below T0 (mkF m 1 #[.val (.ref t), .val (.double xz), .second, .unset, .unset, .unset, .unset, .unset, .unset] [(.double xz)]) _
  refine stp (fun _ => XS.dconst0 X0.here hx rfl (hb hby d4_1) (v := (0 : UInt64)) (by decide +kernel)) ?_
  show Go p e below T0 (mkF m 2 #[.val (.ref t), .val (.double xz), .second, .unset, .unset, .unset, .unset, .unset, .unset] [(.double (0 : UInt64)), (.double xz)]) _
  refine stp (fun _ => XS.dcmpS X0.here hx rfl (hb hby d4_2) rfl rfl) ?_
  show Go p e below T0 (mkF m 3 #[.val (.ref t), .val (.double xz), .second, .unset, .unset, .unset, .unset, .unset, .unset] [(.int (cmpValue (FP.dcmp xz (0 : UInt64)) .l))]) _
  refine stp (fun _ => XS.ifNo X0.here hx rfl (hb hby d4_3) rfl (XT.i0_lt_f n1)) ?_
  show Go p e below T0 (mkF m 6 #[.val (.ref t), .val (.double xz), .second, .unset, .unset, .unset, .unset, .unset, .unset] []) _
  refine stp (fun _ => XS.dloadN X0.here hx rfl (hb hby d4_6) rfl) ?_
  show Go p e below T0 (mkF m 7 #[.val (.ref t), .val (.double xz), .second, .unset, .unset, .unset, .unset, .unset, .unset] [(.double xz)]) _
  refine stp (fun _ => X0.ldc2DoubleC hx hown (mvT hZ (hw _ (List.mem_of_getElem? (i := 28) rfl))) (g := (mkF m 7 #[.val (.ref t), .val (.double xz), .second, .unset, .unset, .unset, .unset, .unset, .unset] [(.double xz)])) rfl (hb hby d4_7) _) ?_
  show Go p e below T0 (mkF m 10 #[.val (.ref t), .val (.double xz), .second, .unset, .unset, .unset, .unset, .unset, .unset] [(.double (4611686018427387904 : UInt64)), (.double xz)]) _
  refine stp (fun _ => XS.dcmpS X0.here hx rfl (hb hby d4_10) rfl rfl) ?_
  show Go p e below T0 (mkF m 11 #[.val (.ref t), .val (.double xz), .second, .unset, .unset, .unset, .unset, .unset, .unset] [(.int (cmpValue (FP.dcmp xz (4611686018427387904 : UInt64)) .g))]) _
  refine stp (fun _ => XS.ifYes X0.here hx rfl (pc0 := 11) (pc' := 28) rfl (hb hby d4_11) rfl (XT.i0_lt_t n2) (by decide) (by decide)) ?_
  show Go p e below T0 (mkF m 28 #[.val (.ref t), .val (.double xz), .second, .unset, .unset, .unset, .unset, .unset, .unset] []) _
  refine stp (fun _ => XS.dloadN X0.here hx rfl (hb hby d4_28) rfl) ?_
  show Go p e below T0 (mkF m 29 #[.val (.ref t), .val (.double xz), .second, .unset, .unset, .unset, .unset, .unset, .unset] [(.double xz)]) _
  refine stp (fun _ => X0.ldc2DoubleC hx hown (mvT hZ (hw _ (List.mem_of_getElem? (i := 29) rfl))) (g := (mkF m 29 #[.val (.ref t), .val (.double xz), .second, .unset, .unset, .unset, .unset, .unset, .unset] [(.double xz)])) rfl (hb hby d4_29) _) ?_
  show Go p e below T0 (mkF m 32 #[.val (.ref t), .val (.double xz), .second, .unset, .unset, .unset, .unset, .unset, .unset] [(.double (5147614374084476928 : UInt64)), (.double xz)]) _
  refine stp (fun _ => XS.dmulS X0.here hx rfl (hb hby d4_32) rfl n3 rfl) ?_
  show Go p e below T0 (mkF m 33 #[.val (.ref t), .val (.double xz), .second, .unset, .unset, .unset, .unset, .unset, .unset] [(.double (FP.dmul xz (5147614374084476928 : UInt64)))]) _
  show Go p e below T0 (mkF m 33 #[.val (.ref t), .val (.double xz), .second, .unset, .unset, .unset, .unset, .unset, .unset] [(.double (own_U xz))]) _
  refine stp (fun _ => XS.dstoreN X0.here hx rfl (hb hby d4_33) rfl (l' := #[.val (.ref t), .val (.double xz), .second, .val (.double (own_U xz)), .second, .unset, .unset, .unset, .unset]) rfl) ?_
  show Go p e below T0 (mkF m 34 #[.val (.ref t), .val (.double xz), .second, .val (.double (own_U xz)), .second, .unset, .unset, .unset, .unset] []) _
  refine stp (fun _ => XS.dloadN X0.here hx rfl (hb hby d4_34) rfl) ?_
  show Go p e below T0 (mkF m 35 #[.val (.ref t), .val (.double xz), .second, .val (.double (own_U xz)), .second, .unset, .unset, .unset, .unset] [(.double (own_U xz))]) _
  refine stp (fun _ => X0.ldc2DoubleC hx hown (mvT hZ (hw _ (List.mem_of_getElem? (i := 30) rfl))) (g := (mkF m 35 #[.val (.ref t), .val (.double xz), .second, .val (.double (own_U xz)), .second, .unset, .unset, .unset, .unset] [(.double (own_U xz))])) rfl (hb hby d4_35) _) ?_
  show Go p e below T0 (mkF m 38 #[.val (.ref t), .val (.double xz), .second, .val (.double (own_U xz)), .second, .unset, .unset, .unset, .unset] [(.double (4323455642275676160 : UInt64)), (.double (own_U xz))]) _
  refine stp (fun _ => XS.dmulS X0.here hx rfl (hb hby d4_38) rfl n4 rfl) ?_
  show Go p e below T0 (mkF m 39 #[.val (.ref t), .val (.double xz), .second, .val (.double (own_U xz)), .second, .unset, .unset, .unset, .unset] [(.double (FP.dmul (own_U xz) (4323455642275676160 : UInt64)))]) _
  refine stp (fun _ => XS.d2lS X0.here hx rfl (hb hby d4_39) rfl rfl) ?_
  show Go p e below T0 (mkF m 40 #[.val (.ref t), .val (.double xz), .second, .val (.double (own_U xz)), .second, .unset, .unset, .unset, .unset] [(.long (FP.d2l (FP.dmul (own_U xz) (4323455642275676160 : UInt64))))]) _
  show Go p e below T0 (mkF m 40 #[.val (.ref t), .val (.double xz), .second, .val (.double (own_U xz)), .second, .unset, .unset, .unset, .unset] [(.long (own_H xz))]) _
  refine stp (fun _ => XS.lstore X0.here hx rfl (hb hby d4_40) rfl (l' := #[.val (.ref t), .val (.double xz), .second, .val (.double (own_U xz)), .second, .val (.long (own_H xz)), .second, .unset, .unset]) rfl) ?_
  show Go p e below T0 (mkF m 42 #[.val (.ref t), .val (.double xz), .second, .val (.double (own_U xz)), .second, .val (.long (own_H xz)), .second, .unset, .unset] []) _
  refine stp (fun _ => XS.dloadN X0.here hx rfl (hb hby d4_42) rfl) ?_
  show Go p e below T0 (mkF m 43 #[.val (.ref t), .val (.double xz), .second, .val (.double (own_U xz)), .second, .val (.long (own_H xz)), .second, .unset, .unset] [(.double (own_U xz))]) _
  refine stp (fun _ => XS.lload X0.here hx rfl (hb hby d4_43) rfl) ?_
  show Go p e below T0 (mkF m 45 #[.val (.ref t), .val (.double xz), .second, .val (.double (own_U xz)), .second, .val (.long (own_H xz)), .second, .unset, .unset] [(.long (own_H xz)), (.double (own_U xz))]) _
  refine stp (fun _ => XS.l2dS X0.here hx rfl (hb hby d4_45) rfl rfl) ?_
  show Go p e below T0 (mkF m 46 #[.val (.ref t), .val (.double xz), .second, .val (.double (own_U xz)), .second, .val (.long (own_H xz)), .second, .unset, .unset] [(.double (FP.l2d (own_H xz))), (.double (own_U xz))]) _
  refine stp (fun _ => X0.ldc2DoubleC hx hown (mvT hZ (hw _ (List.mem_of_getElem? (i := 31) rfl))) (g := (mkF m 46 #[.val (.ref t), .val (.double xz), .second, .val (.double (own_U xz)), .second, .val (.long (own_H xz)), .second, .unset, .unset] [(.double (FP.l2d (own_H xz))), (.double (own_U xz))])) rfl (hb hby d4_46) _) ?_
  show Go p e below T0 (mkF m 49 #[.val (.ref t), .val (.double xz), .second, .val (.double (own_U xz)), .second, .val (.long (own_H xz)), .second, .unset, .unset] [(.double (4890909195324358656 : UInt64)), (.double (FP.l2d (own_H xz))), (.double (own_U xz))]) _
  refine stp (fun _ => XS.dmulS X0.here hx rfl (hb hby d4_49) rfl n5 rfl) ?_
  show Go p e below T0 (mkF m 50 #[.val (.ref t), .val (.double xz), .second, .val (.double (own_U xz)), .second, .val (.long (own_H xz)), .second, .unset, .unset] [(.double (FP.dmul (FP.l2d (own_H xz)) (4890909195324358656 : UInt64))), (.double (own_U xz))]) _
  show Go p e below T0 (mkF m 50 #[.val (.ref t), .val (.double xz), .second, .val (.double (own_U xz)), .second, .val (.long (own_H xz)), .second, .unset, .unset] [(.double (own_B xz)), (.double (own_U xz))]) _
  refine stp (fun _ => XS.dsubS X0.here hx rfl (hb hby d4_50) rfl n6 rfl) ?_
  show Go p e below T0 (mkF m 51 #[.val (.ref t), .val (.double xz), .second, .val (.double (own_U xz)), .second, .val (.long (own_H xz)), .second, .unset, .unset] [(.double (FP.dsub (own_U xz) (own_B xz)))]) _
  refine stp (fun _ => XS.d2lS X0.here hx rfl (hb hby d4_51) rfl rfl) ?_
  show Go p e below T0 (mkF m 52 #[.val (.ref t), .val (.double xz), .second, .val (.double (own_U xz)), .second, .val (.long (own_H xz)), .second, .unset, .unset] [(.long (FP.d2l (FP.dsub (own_U xz) (own_B xz))))]) _
  show Go p e below T0 (mkF m 52 #[.val (.ref t), .val (.double xz), .second, .val (.double (own_U xz)), .second, .val (.long (own_H xz)), .second, .unset, .unset] [(.long (own_L xz))]) _
  refine stp (fun _ => XS.lstore X0.here hx rfl (hb hby d4_52) rfl (l' := #[.val (.ref t), .val (.double xz), .second, .val (.double (own_U xz)), .second, .val (.long (own_H xz)), .second, .val (.long (own_L xz)), .second]) rfl) ?_
  show Go p e below T0 (mkF m 54 #[.val (.ref t), .val (.double xz), .second, .val (.double (own_U xz)), .second, .val (.long (own_H xz)), .second, .val (.long (own_L xz)), .second] []) _
  refine stp (fun _ => XS.aloadN X0.here hx rfl (hb hby d4_54) rfl rfl) ?_
  show Go p e below T0 (mkF m 55 #[.val (.ref t), .val (.double xz), .second, .val (.double (own_U xz)), .second, .val (.long (own_H xz)), .second, .val (.long (own_L xz)), .second] [(.ref t)]) _
  refine stp (fun _ => XS.dup X0.here hx rfl (hb hby d4_55) rfl rfl) ?_
  show Go p e below T0 (mkF m 56 #[.val (.ref t), .val (.double xz), .second, .val (.double (own_U xz)), .second, .val (.long (own_H xz)), .second, .val (.long (own_L xz)), .second] [(.ref t), (.ref t)]) _
  obtain ⟨T1, X1, e1, st1⟩ := getF X0 hx hZ hown (host := "") (Or.inl (hw _ (List.mem_of_getElem? (i := 21) rfl))) Via.refl e0 F_t_low (g := (mkF m 56 #[.val (.ref t), .val (.double xz), .second, .val (.double (own_U xz)), .second, .val (.long (own_H xz)), .second, .val (.long (own_L xz)), .second] [(.ref t), (.ref t)])) rfl rfl (hb hby d4_56)
  refine stp st1 ?_
  show Go p e below T1 (mkF m 59 #[.val (.ref t), .val (.double xz), .second, .val (.double (own_U xz)), .second, .val (.long (own_H xz)), .second, .val (.long (own_L xz)), .second] [(.long ll), (.ref t)]) _
  refine stp (fun _ => XS.lload X1.here hx rfl (hb hby d4_59) rfl) ?_
  show Go p e below T1 (mkF m 61 #[.val (.ref t), .val (.double xz), .second, .val (.double (own_U xz)), .second, .val (.long (own_H xz)), .second, .val (.long (own_L xz)), .second] [(.long (own_L xz)), (.long ll), (.ref t)]) _
  refine stp (fun _ => XS.ladd X1.here hx rfl (hb hby d4_61) rfl) ?_
  show Go p e below T1 (mkF m 62 #[.val (.ref t), .val (.double xz), .second, .val (.double (own_U xz)), .second, .val (.long (own_H xz)), .second, .val (.long (own_L xz)), .second] [(.long (ll + (own_L xz))), (.ref t)]) _
  obtain ⟨T2, h2, X2, e2, W2, st2⟩ := putF X1 hx hZ hown (host := "") (Or.inl (hw _ (List.mem_of_getElem? (i := 21) rfl))) Via.refl e1 F_t_low E_t (Or.inl (hw _ (List.mem_of_getElem? (i := 22) rfl))) (hw _ (List.mem_of_getElem? (i := 6) rfl)) (ty := .long) (by decide) rfl rfl (g := (mkF m 62 #[.val (.ref t), .val (.double xz), .second, .val (.double (own_U xz)), .second, .val (.long (own_H xz)), .second, .val (.long (own_L xz)), .second] [(.long (ll + (own_L xz))), (.ref t)])) rfl rfl (hb hby d4_62)
  have Fw2 := F_t_low.same W2
  have f3 := E_t.wr W2
  have f4 := F_t_high.other W2 (Or.inr (slot_ne (Or.inl (hw _ (List.mem_of_getElem? (i := 20) rfl))) (Or.inl (hw _ (List.mem_of_getElem? (i := 22) rfl))) (by decide) (t := .long) (t' := .long) (by decide) (by decide)))
  have K2 : Keep h0 h2 [t] := (Keep.refl h0 [t]).wr W2 (Or.inl (List.mem_of_getElem? (i := 0) rfl))
  have O2 := O0.wr W2 ge_t
  have N2 := Fr.snoc X2 N0 ge_t
  refine stp st2 ?_
  show Go p e below T2 (mkF m 65 #[.val (.ref t), .val (.double xz), .second, .val (.double (own_U xz)), .second, .val (.long (own_H xz)), .second, .val (.long (own_L xz)), .second] []) _
  refine stp (fun _ => XS.aloadN X2.here hx rfl (hb hby d4_65) rfl rfl) ?_
  show Go p e below T2 (mkF m 66 #[.val (.ref t), .val (.double xz), .second, .val (.double (own_U xz)), .second, .val (.long (own_H xz)), .second, .val (.long (own_L xz)), .second] [(.ref t)]) _
  refine stp (fun _ => XS.dup X2.here hx rfl (hb hby d4_66) rfl rfl) ?_
  show Go p e below T2 (mkF m 67 #[.val (.ref t), .val (.double xz), .second, .val (.double (own_U xz)), .second, .val (.long (own_H xz)), .second, .val (.long (own_L xz)), .second] [(.ref t), (.ref t)]) _
  obtain ⟨T6, X6, e6, st6⟩ := getF X2 hx hZ hown (host := "") (Or.inl (hw _ (List.mem_of_getElem? (i := 19) rfl))) Via.refl e2 f4 (g := (mkF m 67 #[.val (.ref t), .val (.double xz), .second, .val (.double (own_U xz)), .second, .val (.long (own_H xz)), .second, .val (.long (own_L xz)), .second] [(.ref t), (.ref t)])) rfl rfl (hb hby d4_67)
  refine stp st6 ?_
  show Go p e below T6 (mkF m 70 #[.val (.ref t), .val (.double xz), .second, .val (.double (own_U xz)), .second, .val (.long (own_H xz)), .second, .val (.long (own_L xz)), .second] [(.long hh), (.ref t)]) _
  refine stp (fun _ => XS.lload X6.here hx rfl (hb hby d4_70) rfl) ?_
  show Go p e below T6 (mkF m 72 #[.val (.ref t), .val (.double xz), .second, .val (.double (own_U xz)), .second, .val (.long (own_H xz)), .second, .val (.long (own_L xz)), .second] [(.long (own_H xz)), (.long hh), (.ref t)]) _
  refine stp (fun _ => XS.aloadN X6.here hx rfl (hb hby d4_72) rfl rfl) ?_
  show Go p e below T6 (mkF m 73 #[.val (.ref t), .val (.double xz), .second, .val (.double (own_U xz)), .second, .val (.long (own_H xz)), .second, .val (.long (own_L xz)), .second] [(.ref t), (.long (own_H xz)), (.long hh), (.ref t)]) _
  obtain ⟨T7, X7, e7, st7⟩ := getF X6 hx hZ hown (host := "") (Or.inl (hw _ (List.mem_of_getElem? (i := 21) rfl))) Via.refl e6 Fw2 (g := (mkF m 73 #[.val (.ref t), .val (.double xz), .second, .val (.double (own_U xz)), .second, .val (.long (own_H xz)), .second, .val (.long (own_L xz)), .second] [(.ref t), (.long (own_H xz)), (.long hh), (.ref t)])) rfl rfl (hb hby d4_73)
  refine stp st7 ?_
  show Go p e below T7 (mkF m 76 #[.val (.ref t), .val (.double xz), .second, .val (.double (own_U xz)), .second, .val (.long (own_H xz)), .second, .val (.long (own_L xz)), .second] [(.long (ll + (own_L xz))), (.long (own_H xz)), (.long hh), (.ref t)]) _
  refine stp (fun _ => XS.bipush X7.here hx rfl (hb hby d4_76)) ?_
  show Go p e below T7 (mkF m 78 #[.val (.ref t), .val (.double xz), .second, .val (.double (own_U xz)), .second, .val (.long (own_H xz)), .second, .val (.long (own_L xz)), .second] [(.int (63 : Int32)), (.long (ll + (own_L xz))), (.long (own_H xz)), (.long hh), (.ref t)]) _
  refine stp (fun _ => XS.lushr X7.here hx rfl (hb hby d4_78) rfl) ?_
  show Go p e below T7 (mkF m 79 #[.val (.ref t), .val (.double xz), .second, .val (.double (own_U xz)), .second, .val (.long (own_H xz)), .second, .val (.long (own_L xz)), .second] [(.long (((ll + (own_L xz)).toUInt64 >>> ((63 : Int32) &&& 0x3f).toInt64.toUInt64).toInt64)), (.long (own_H xz)), (.long hh), (.ref t)]) _
  refine stp (fun _ => XS.ladd X7.here hx rfl (hb hby d4_79) rfl) ?_
  show Go p e below T7 (mkF m 80 #[.val (.ref t), .val (.double xz), .second, .val (.double (own_U xz)), .second, .val (.long (own_H xz)), .second, .val (.long (own_L xz)), .second] [(.long ((own_H xz) + (((ll + (own_L xz)).toUInt64 >>> ((63 : Int32) &&& 0x3f).toInt64.toUInt64).toInt64))), (.long hh), (.ref t)]) _
  refine stp (fun _ => XS.ladd X7.here hx rfl (hb hby d4_80) rfl) ?_
  show Go p e below T7 (mkF m 81 #[.val (.ref t), .val (.double xz), .second, .val (.double (own_U xz)), .second, .val (.long (own_H xz)), .second, .val (.long (own_L xz)), .second] [(.long (hh + ((own_H xz) + (((ll + (own_L xz)).toUInt64 >>> ((63 : Int32) &&& 0x3f).toInt64.toUInt64).toInt64)))), (.ref t)]) _
  obtain ⟨T8, h8, X8, e8, W8, st8⟩ := putF X7 hx hZ hown (host := "") (Or.inl (hw _ (List.mem_of_getElem? (i := 19) rfl))) Via.refl e7 f4 f3 (Or.inl (hw _ (List.mem_of_getElem? (i := 20) rfl))) (hw _ (List.mem_of_getElem? (i := 6) rfl)) (ty := .long) (by decide) rfl rfl (g := (mkF m 81 #[.val (.ref t), .val (.double xz), .second, .val (.double (own_U xz)), .second, .val (.long (own_H xz)), .second, .val (.long (own_L xz)), .second] [(.long (hh + ((own_H xz) + (((ll + (own_L xz)).toUInt64 >>> ((63 : Int32) &&& 0x3f).toInt64.toUInt64).toInt64)))), (.ref t)])) rfl rfl (hb hby d4_81)
  have Fw8 := f4.same W8
  have f9 := f3.wr W8
  have f11 := Fw2.other W8 (Or.inr (slot_ne (Or.inl (hw _ (List.mem_of_getElem? (i := 22) rfl))) (Or.inl (hw _ (List.mem_of_getElem? (i := 20) rfl))) (by decide) (t := .long) (t' := .long) (by decide) (by decide)))
  have K8 : Keep h0 h8 [t] := K2.wr W8 (Or.inl (List.mem_of_getElem? (i := 0) rfl))
  have O8 := O2.wr W8 ge_t
  have N8 := Fr.snoc X8 N2 ge_t
  refine stp st8 ?_
  show Go p e below T8 (mkF m 84 #[.val (.ref t), .val (.double xz), .second, .val (.double (own_U xz)), .second, .val (.long (own_H xz)), .second, .val (.long (own_L xz)), .second] []) _
  refine stp (fun _ => XS.aloadN X8.here hx rfl (hb hby d4_84) rfl rfl) ?_
  show Go p e below T8 (mkF m 85 #[.val (.ref t), .val (.double xz), .second, .val (.double (own_U xz)), .second, .val (.long (own_H xz)), .second, .val (.long (own_L xz)), .second] [(.ref t)]) _
  refine stp (fun _ => XS.dup X8.here hx rfl (hb hby d4_85) rfl rfl) ?_
  show Go p e below T8 (mkF m 86 #[.val (.ref t), .val (.double xz), .second, .val (.double (own_U xz)), .second, .val (.long (own_H xz)), .second, .val (.long (own_L xz)), .second] [(.ref t), (.ref t)]) _
  obtain ⟨T12, X12, e12, st12⟩ := getF X8 hx hZ hown (host := "") (Or.inl (hw _ (List.mem_of_getElem? (i := 21) rfl))) Via.refl e8 f11 (g := (mkF m 86 #[.val (.ref t), .val (.double xz), .second, .val (.double (own_U xz)), .second, .val (.long (own_H xz)), .second, .val (.long (own_L xz)), .second] [(.ref t), (.ref t)])) rfl rfl (hb hby d4_86)
  refine stp st12 ?_
  show Go p e below T12 (mkF m 89 #[.val (.ref t), .val (.double xz), .second, .val (.double (own_U xz)), .second, .val (.long (own_H xz)), .second, .val (.long (own_L xz)), .second] [(.long (ll + (own_L xz))), (.ref t)]) _
  refine stp (fun _ => X12.ldc2Long hx hown (mvT hZ (hw _ (List.mem_of_getElem? (i := 32) rfl))) (g := (mkF m 89 #[.val (.ref t), .val (.double xz), .second, .val (.double (own_U xz)), .second, .val (.long (own_H xz)), .second, .val (.long (own_L xz)), .second] [(.long (ll + (own_L xz))), (.ref t)])) rfl (hb hby d4_89) _) ?_
  show Go p e below T12 (mkF m 92 #[.val (.ref t), .val (.double xz), .second, .val (.double (own_U xz)), .second, .val (.long (own_H xz)), .second, .val (.long (own_L xz)), .second] [(.long (9223372036854775807 : Int64)), (.long (ll + (own_L xz))), (.ref t)]) _
  refine stp (fun _ => XS.land X12.here hx rfl (hb hby d4_92) rfl) ?_
  show Go p e below T12 (mkF m 93 #[.val (.ref t), .val (.double xz), .second, .val (.double (own_U xz)), .second, .val (.long (own_H xz)), .second, .val (.long (own_L xz)), .second] [(.long ((ll + (own_L xz)) &&& (9223372036854775807 : Int64))), (.ref t)]) _
  obtain ⟨T13, h13, X13, e13, W13, st13⟩ := putF X12 hx hZ hown (host := "") (Or.inl (hw _ (List.mem_of_getElem? (i := 21) rfl))) Via.refl e12 f11 f9 (Or.inl (hw _ (List.mem_of_getElem? (i := 22) rfl))) (hw _ (List.mem_of_getElem? (i := 6) rfl)) (ty := .long) (by decide) rfl rfl (g := (mkF m 93 #[.val (.ref t), .val (.double xz), .second, .val (.double (own_U xz)), .second, .val (.long (own_H xz)), .second, .val (.long (own_L xz)), .second] [(.long ((ll + (own_L xz)) &&& (9223372036854775807 : Int64))), (.ref t)])) rfl rfl (hb hby d4_93)
  have Fw13 := f11.same W13
  have f14 := f9.wr W13
  have f15 := Fw8.other W13 (Or.inr (slot_ne (Or.inl (hw _ (List.mem_of_getElem? (i := 20) rfl))) (Or.inl (hw _ (List.mem_of_getElem? (i := 22) rfl))) (by decide) (t := .long) (t' := .long) (by decide) (by decide)))
  have K13 : Keep h0 h13 [t] := K8.wr W13 (Or.inl (List.mem_of_getElem? (i := 0) rfl))
  have O13 := O8.wr W13 ge_t
  have N13 := Fr.snoc X13 N8 ge_t
  refine stp st13 ?_
  show Go p e below T13 (mkF m 96 #[.val (.ref t), .val (.double xz), .second, .val (.double (own_U xz)), .second, .val (.long (own_H xz)), .second, .val (.long (own_L xz)), .second] []) _
  refine stp (fun _ => XS.aloadN X13.here hx rfl (hb hby d4_96) rfl rfl) ?_
  show Go p e below T13 (mkF m 97 #[.val (.ref t), .val (.double xz), .second, .val (.double (own_U xz)), .second, .val (.long (own_H xz)), .second, .val (.long (own_L xz)), .second] [(.ref t)]) _
  obtain ⟨T17, X17, e17, st17⟩ := getF X13 hx hZ hown (host := "") (Or.inl (hw _ (List.mem_of_getElem? (i := 19) rfl))) Via.refl e13 f15 (g := (mkF m 97 #[.val (.ref t), .val (.double xz), .second, .val (.double (own_U xz)), .second, .val (.long (own_H xz)), .second, .val (.long (own_L xz)), .second] [(.ref t)])) rfl rfl (hb hby d4_97)
  refine stp st17 ?_
  show Go p e below T17 (mkF m 100 #[.val (.ref t), .val (.double xz), .second, .val (.double (own_U xz)), .second, .val (.long (own_H xz)), .second, .val (.long (own_L xz)), .second] [(.long (hh + ((own_H xz) + (((ll + (own_L xz)).toUInt64 >>> ((63 : Int32) &&& 0x3f).toInt64.toUInt64).toInt64))))]) _
  refine stp (fun _ => XS.lconst X17.here hx rfl (hb hby d4_100)) ?_
  show Go p e below T17 (mkF m 101 #[.val (.ref t), .val (.double xz), .second, .val (.double (own_U xz)), .second, .val (.long (own_H xz)), .second, .val (.long (own_L xz)), .second] [(.long (0 : Int64)), (.long (hh + ((own_H xz) + (((ll + (own_L xz)).toUInt64 >>> ((63 : Int32) &&& 0x3f).toInt64.toUInt64).toInt64))))]) _
  refine stp (fun _ => XS.lcmp X17.here hx rfl (hb hby d4_101) rfl) ?_
  show Go p e below T17 (mkF m 102 #[.val (.ref t), .val (.double xz), .second, .val (.double (own_U xz)), .second, .val (.long (own_H xz)), .second, .val (.long (own_L xz)), .second] [(.int (lcmpW (hh + ((own_H xz) + (((ll + (own_L xz)).toUInt64 >>> ((63 : Int32) &&& 0x3f).toInt64.toUInt64).toInt64))) (0 : Int64)))]) _
  refine stp (fun _ => XS.ifYes X17.here hx rfl (pc0 := 102) (pc' := 115) rfl (hb hby d4_102) rfl (XT.ll_ge_t n7) (by decide) (by decide)) ?_
  show Go p e below T17 (mkF m 115 #[.val (.ref t), .val (.double xz), .second, .val (.double (own_U xz)), .second, .val (.long (own_H xz)), .second, .val (.long (own_L xz)), .second] []) _
  refine outV X17 hx hret (hb hby d4_115) hlk (by decide) (by decide) ?_
  rw [e17]
  exact ⟨rfl, N13, K13, f14, f15, Fw13⟩
theorem pd_0 : parseMethodDescriptor "()V" = some ⟨[], none⟩ := by decide +kernel
theorem pd_1 : parseMethodDescriptor "(JJ)V" = some ⟨[.long, .long], none⟩ := by decide +kernel
theorem pd_2 : parseMethodDescriptor "(D)V" = some ⟨[.double], none⟩ := by decide +kernel
theorem pd_3 : parseMethodDescriptor "()J" = some ⟨[], some .long⟩ := by decide +kernel
theorem ef_rm0 (m : MethodId) (ax : Int64) (at_ : Int32) (au : Int32) (ah : Int64) (al : Int64)  : entryFrame m #[(.long ax), (.int at_), (.int au), (.long ah), (.long al)] maxLocals = mkF m 0 #[.val (.long ax), .second, .val (.int at_), .val (.int au), .val (.long ah), .second, .val (.long al), .second, .unset, .unset, .unset, .unset, .unset, .unset, .unset, .unset, .unset, .unset, .unset, .unset, .unset, .unset, .unset, .unset, .unset, .unset, .unset, .unset, .unset, .unset] [] := by first | (simp [entryFrame, mkF, argsToLocals, Value.category, maxLocals]; done) | rfl
def Q_rm0 (Z : State) (ax : Int64) (at_ : Int32) (au : Int32) (ah : Int64) (al : Int64)  (h0 : Heap) (n0 : Nat) (v : Option Value) (h : Heap) (L : List Loc) : Prop := v = some (.int 1) ∧ Fr n0 L
theorem pn_5_ : plainName "com/example/heedful_rank/heedfulrank/solver/FixedPointSumAddPinLaw" = true := by first | (simp [plainName, overriddenIn]; done) | decide +kernel
theorem pn_5 : plainFor (⟨"com/example/heedful_rank/heedfulrank/solver/FixedPointSumAddPinLaw", "law", "(JIIJJ)Z"⟩ : MethodName) = true := plainFor_of_name pn_5_
set_option maxRecDepth 65536 in
set_option maxHeartbeats 40000000 in
theorem rm0 (l : Launch) (Z : State) (a0 : Array Value) (hw : ∀ d ∈ tables_1, d.before a0 Z = true) (ws : List Jvm.Cond) (ax : Int64) (at_ : Int32) (au : Int32) (ah : Int64) (al : Int64)  (h0 : Heap) (n0 : Nat) (O0 : Old Z n0 h0)  :
    MetFree l x (head1 (Jvm.Cond.code x code maxLocals ret :: ws) room_1) (fun args_ U => args_ = #[(.long ax), (.int at_), (.int au), (.long ah), (.long al)] ∧ Z.Warmed39 U.vm ∧ U.heap = h0) (fun _ _ _ _ _ => True) (fun _ U out_ U' => ∃ val_ loc_, out_ = .returned val_ ∧ (Q_rm0 Z ax at_ au ah al h0 n0) val_ U'.heap loc_ ∧ FrameEnd U out_ U' loc_ 1 2) := by
  refine start (Q := (Q_rm0 Z ax at_ au ah al h0 n0)) (show plainFor x = true from pn_5) ?_
  intro p e s m below meth c T0 X0 hx hby hml hown hnm hret hlk hZ e0
  replace hown : s.vm.findClass "com/example/heedful_rank/heedfulrank/solver/FixedPointSumAddPinLaw" = some m.cls := hown
  replace hml : c.maxLocals = 30 := hml
  refine goAt (ef_rm0 m ax at_ au ah al ) ?_
  have N0 := Fr.nil n0
  show Go p e below T0 (mkF m 0 #[.val (.long ax), .second, .val (.int at_), .val (.int au), .val (.long ah), .second, .val (.long al), .second, .unset, .unset, .unset, .unset, .unset, .unset, .unset, .unset, .unset, .unset, .unset, .unset, .unset, .unset, .unset, .unset, .unset, .unset, .unset, .unset, .unset, .unset] []) _
  refine stp (fun _ => XS.lloadN X0.here hx rfl (hb hby at_0) rfl) ?_
  show Go p e below T0 (mkF m 1 #[.val (.long ax), .second, .val (.int at_), .val (.int au), .val (.long ah), .second, .val (.long al), .second, .unset, .unset, .unset, .unset, .unset, .unset, .unset, .unset, .unset, .unset, .unset, .unset, .unset, .unset, .unset, .unset, .unset, .unset, .unset, .unset, .unset, .unset] [(.long ax)]) _
  refine stp (fun _ => X0.ldc2Long hx hown (mvT hZ (hw _ (List.mem_of_getElem? (i := 0) rfl))) (g := (mkF m 1 #[.val (.long ax), .second, .val (.int at_), .val (.int au), .val (.long ah), .second, .val (.long al), .second, .unset, .unset, .unset, .unset, .unset, .unset, .unset, .unset, .unset, .unset, .unset, .unset, .unset, .unset, .unset, .unset, .unset, .unset, .unset, .unset, .unset, .unset] [(.long ax)])) rfl (hb hby at_1) _) ?_
  show Go p e below T0 (mkF m 4 #[.val (.long ax), .second, .val (.int at_), .val (.int au), .val (.long ah), .second, .val (.long al), .second, .unset, .unset, .unset, .unset, .unset, .unset, .unset, .unset, .unset, .unset, .unset, .unset, .unset, .unset, .unset, .unset, .unset, .unset, .unset, .unset, .unset, .unset] [(.long (9007199254740991 : Int64)), (.long ax)]) _
  refine stp (fun _ => XS.land X0.here hx rfl (hb hby at_4) rfl) ?_
  show Go p e below T0 (mkF m 5 #[.val (.long ax), .second, .val (.int at_), .val (.int au), .val (.long ah), .second, .val (.long al), .second, .unset, .unset, .unset, .unset, .unset, .unset, .unset, .unset, .unset, .unset, .unset, .unset, .unset, .unset, .unset, .unset, .unset, .unset, .unset, .unset, .unset, .unset] [(.long (ax &&& (9007199254740991 : Int64)))]) _
  refine stp (fun _ => XS.lstore X0.here hx rfl (hb hby at_5) rfl (l' := #[.val (.long ax), .second, .val (.int at_), .val (.int au), .val (.long ah), .second, .val (.long al), .second, .val (.long (ax &&& (9007199254740991 : Int64))), .second, .unset, .unset, .unset, .unset, .unset, .unset, .unset, .unset, .unset, .unset, .unset, .unset, .unset, .unset, .unset, .unset, .unset, .unset, .unset, .unset]) rfl) ?_
  show Go p e below T0 (mkF m 7 #[.val (.long ax), .second, .val (.int at_), .val (.int au), .val (.long ah), .second, .val (.long al), .second, .val (.long (ax &&& (9007199254740991 : Int64))), .second, .unset, .unset, .unset, .unset, .unset, .unset, .unset, .unset, .unset, .unset, .unset, .unset, .unset, .unset, .unset, .unset, .unset, .unset, .unset, .unset] []) _
  obtain ⟨mz, hmz⟩ : ∃ z : Int64, z = (ax &&& (9007199254740991 : Int64)) := ⟨_, rfl⟩
  rw [← hmz]
  show Go p e below T0 (mkF m 7 #[.val (.long ax), .second, .val (.int at_), .val (.int au), .val (.long ah), .second, .val (.long al), .second, .val (.long mz), .second, .unset, .unset, .unset, .unset, .unset, .unset, .unset, .unset, .unset, .unset, .unset, .unset, .unset, .unset, .unset, .unset, .unset, .unset, .unset, .unset] []) _
  obtain ⟨M, hM1, hM2⟩ := own_m53 ax
  rw [← hmz] at hM1
  refine stp (fun _ => XS.iloadN X0.here hx rfl (hb hby at_7) rfl) ?_
  show Go p e below T0 (mkF m 8 #[.val (.long ax), .second, .val (.int at_), .val (.int au), .val (.long ah), .second, .val (.long al), .second, .val (.long mz), .second, .unset, .unset, .unset, .unset, .unset, .unset, .unset, .unset, .unset, .unset, .unset, .unset, .unset, .unset, .unset, .unset, .unset, .unset, .unset, .unset] [(.int at_)]) _
  refine stp (fun _ => X0.ldcInt hx hown (mvT hZ (hw _ (List.mem_of_getElem? (i := 1) rfl))) (g := (mkF m 8 #[.val (.long ax), .second, .val (.int at_), .val (.int au), .val (.long ah), .second, .val (.long al), .second, .val (.long mz), .second, .unset, .unset, .unset, .unset, .unset, .unset, .unset, .unset, .unset, .unset, .unset, .unset, .unset, .unset, .unset, .unset, .unset, .unset, .unset, .unset] [(.int at_)])) rfl (hb hby at_8) _) ?_
  show Go p e below T0 (mkF m 10 #[.val (.long ax), .second, .val (.int at_), .val (.int au), .val (.long ah), .second, .val (.long al), .second, .val (.long mz), .second, .unset, .unset, .unset, .unset, .unset, .unset, .unset, .unset, .unset, .unset, .unset, .unset, .unset, .unset, .unset, .unset, .unset, .unset, .unset, .unset] [(.int (2147483647 : Int32)), (.int at_)]) _
  refine stp (fun _ => XS.iand X0.here hx rfl (hb hby at_10) rfl) ?_
  show Go p e below T0 (mkF m 11 #[.val (.long ax), .second, .val (.int at_), .val (.int au), .val (.long ah), .second, .val (.long al), .second, .val (.long mz), .second, .unset, .unset, .unset, .unset, .unset, .unset, .unset, .unset, .unset, .unset, .unset, .unset, .unset, .unset, .unset, .unset, .unset, .unset, .unset, .unset] [(.int (at_ &&& (2147483647 : Int32)))]) _
  refine stp (fun _ => XS.bipush X0.here hx rfl (hb hby at_11)) ?_
  show Go p e below T0 (mkF m 13 #[.val (.long ax), .second, .val (.int at_), .val (.int au), .val (.long ah), .second, .val (.long al), .second, .val (.long mz), .second, .unset, .unset, .unset, .unset, .unset, .unset, .unset, .unset, .unset, .unset, .unset, .unset, .unset, .unset, .unset, .unset, .unset, .unset, .unset, .unset] [(.int (63 : Int32)), (.int (at_ &&& (2147483647 : Int32)))]) _
  refine stp (fun _ => iremM X0 hx rfl (hb hby at_13) rfl (by decide)) ?_
  show Go p e below T0 (mkF m 14 #[.val (.long ax), .second, .val (.int at_), .val (.int au), .val (.long ah), .second, .val (.long al), .second, .val (.long mz), .second, .unset, .unset, .unset, .unset, .unset, .unset, .unset, .unset, .unset, .unset, .unset, .unset, .unset, .unset, .unset, .unset, .unset, .unset, .unset, .unset] [(.int ((at_ &&& (2147483647 : Int32)) % (63 : Int32)))]) _
  refine stp (fun _ => XS.istore X0.here hx rfl (hb hby at_14) rfl (l' := #[.val (.long ax), .second, .val (.int at_), .val (.int au), .val (.long ah), .second, .val (.long al), .second, .val (.long mz), .second, .val (.int ((at_ &&& (2147483647 : Int32)) % (63 : Int32))), .unset, .unset, .unset, .unset, .unset, .unset, .unset, .unset, .unset, .unset, .unset, .unset, .unset, .unset, .unset, .unset, .unset, .unset, .unset]) rfl) ?_
  show Go p e below T0 (mkF m 16 #[.val (.long ax), .second, .val (.int at_), .val (.int au), .val (.long ah), .second, .val (.long al), .second, .val (.long mz), .second, .val (.int ((at_ &&& (2147483647 : Int32)) % (63 : Int32))), .unset, .unset, .unset, .unset, .unset, .unset, .unset, .unset, .unset, .unset, .unset, .unset, .unset, .unset, .unset, .unset, .unset, .unset, .unset] []) _
  obtain ⟨tz, htz⟩ : ∃ z : Int32, z = ((at_ &&& (2147483647 : Int32)) % (63 : Int32)) := ⟨_, rfl⟩
  rw [← htz]
  show Go p e below T0 (mkF m 16 #[.val (.long ax), .second, .val (.int at_), .val (.int au), .val (.long ah), .second, .val (.long al), .second, .val (.long mz), .second, .val (.int tz), .unset, .unset, .unset, .unset, .unset, .unset, .unset, .unset, .unset, .unset, .unset, .unset, .unset, .unset, .unset, .unset, .unset, .unset, .unset] []) _
  obtain ⟨T_, hT1, hT2⟩ := own_t63 htz (c_mask at_ 2147483647 31 (by decide) (by decide))
  refine stp (fun _ => XS.iloadN X0.here hx rfl (hb hby at_16) rfl) ?_
  show Go p e below T0 (mkF m 17 #[.val (.long ax), .second, .val (.int at_), .val (.int au), .val (.long ah), .second, .val (.long al), .second, .val (.long mz), .second, .val (.int tz), .unset, .unset, .unset, .unset, .unset, .unset, .unset, .unset, .unset, .unset, .unset, .unset, .unset, .unset, .unset, .unset, .unset, .unset, .unset] [(.int au)]) _
  refine stp (fun _ => X0.ldcInt hx hown (mvT hZ (hw _ (List.mem_of_getElem? (i := 1) rfl))) (g := (mkF m 17 #[.val (.long ax), .second, .val (.int at_), .val (.int au), .val (.long ah), .second, .val (.long al), .second, .val (.long mz), .second, .val (.int tz), .unset, .unset, .unset, .unset, .unset, .unset, .unset, .unset, .unset, .unset, .unset, .unset, .unset, .unset, .unset, .unset, .unset, .unset, .unset] [(.int au)])) rfl (hb hby at_17) _) ?_
  show Go p e below T0 (mkF m 19 #[.val (.long ax), .second, .val (.int at_), .val (.int au), .val (.long ah), .second, .val (.long al), .second, .val (.long mz), .second, .val (.int tz), .unset, .unset, .unset, .unset, .unset, .unset, .unset, .unset, .unset, .unset, .unset, .unset, .unset, .unset, .unset, .unset, .unset, .unset, .unset] [(.int (2147483647 : Int32)), (.int au)]) _
  refine stp (fun _ => XS.iand X0.here hx rfl (hb hby at_19) rfl) ?_
  show Go p e below T0 (mkF m 20 #[.val (.long ax), .second, .val (.int at_), .val (.int au), .val (.long ah), .second, .val (.long al), .second, .val (.long mz), .second, .val (.int tz), .unset, .unset, .unset, .unset, .unset, .unset, .unset, .unset, .unset, .unset, .unset, .unset, .unset, .unset, .unset, .unset, .unset, .unset, .unset] [(.int (au &&& (2147483647 : Int32)))]) _
  refine stp (fun _ => XS.bipush X0.here hx rfl (hb hby at_20)) ?_
  show Go p e below T0 (mkF m 22 #[.val (.long ax), .second, .val (.int at_), .val (.int au), .val (.long ah), .second, .val (.long al), .second, .val (.long mz), .second, .val (.int tz), .unset, .unset, .unset, .unset, .unset, .unset, .unset, .unset, .unset, .unset, .unset, .unset, .unset, .unset, .unset, .unset, .unset, .unset, .unset] [(.int (63 : Int32)), (.int (au &&& (2147483647 : Int32)))]) _
  refine stp (fun _ => iremM X0 hx rfl (hb hby at_22) rfl (by decide)) ?_
  show Go p e below T0 (mkF m 23 #[.val (.long ax), .second, .val (.int at_), .val (.int au), .val (.long ah), .second, .val (.long al), .second, .val (.long mz), .second, .val (.int tz), .unset, .unset, .unset, .unset, .unset, .unset, .unset, .unset, .unset, .unset, .unset, .unset, .unset, .unset, .unset, .unset, .unset, .unset, .unset] [(.int ((au &&& (2147483647 : Int32)) % (63 : Int32)))]) _
  refine stp (fun _ => XS.istore X0.here hx rfl (hb hby at_23) rfl (l' := #[.val (.long ax), .second, .val (.int at_), .val (.int au), .val (.long ah), .second, .val (.long al), .second, .val (.long mz), .second, .val (.int tz), .val (.int ((au &&& (2147483647 : Int32)) % (63 : Int32))), .unset, .unset, .unset, .unset, .unset, .unset, .unset, .unset, .unset, .unset, .unset, .unset, .unset, .unset, .unset, .unset, .unset, .unset]) rfl) ?_
  show Go p e below T0 (mkF m 25 #[.val (.long ax), .second, .val (.int at_), .val (.int au), .val (.long ah), .second, .val (.long al), .second, .val (.long mz), .second, .val (.int tz), .val (.int ((au &&& (2147483647 : Int32)) % (63 : Int32))), .unset, .unset, .unset, .unset, .unset, .unset, .unset, .unset, .unset, .unset, .unset, .unset, .unset, .unset, .unset, .unset, .unset, .unset] []) _
  obtain ⟨uz, huz⟩ : ∃ z : Int32, z = ((au &&& (2147483647 : Int32)) % (63 : Int32)) := ⟨_, rfl⟩
  rw [← huz]
  show Go p e below T0 (mkF m 25 #[.val (.long ax), .second, .val (.int at_), .val (.int au), .val (.long ah), .second, .val (.long al), .second, .val (.long mz), .second, .val (.int tz), .val (.int uz), .unset, .unset, .unset, .unset, .unset, .unset, .unset, .unset, .unset, .unset, .unset, .unset, .unset, .unset, .unset, .unset, .unset, .unset] []) _
  obtain ⟨U_, hU1, hU2⟩ := own_t63 huz (c_mask au 2147483647 31 (by decide) (by decide))
  refine stp (fun _ => XS.lload X0.here hx rfl (hb hby at_25) rfl) ?_
  show Go p e below T0 (mkF m 27 #[.val (.long ax), .second, .val (.int at_), .val (.int au), .val (.long ah), .second, .val (.long al), .second, .val (.long mz), .second, .val (.int tz), .val (.int uz), .unset, .unset, .unset, .unset, .unset, .unset, .unset, .unset, .unset, .unset, .unset, .unset, .unset, .unset, .unset, .unset, .unset, .unset] [(.long mz)]) _
  refine stp (fun _ => XS.l2dS X0.here hx rfl (hb hby at_27) rfl rfl) ?_
  show Go p e below T0 (mkF m 28 #[.val (.long ax), .second, .val (.int at_), .val (.int au), .val (.long ah), .second, .val (.long al), .second, .val (.long mz), .second, .val (.int tz), .val (.int uz), .unset, .unset, .unset, .unset, .unset, .unset, .unset, .unset, .unset, .unset, .unset, .unset, .unset, .unset, .unset, .unset, .unset, .unset] [(.double (FP.l2d mz))]) _
  refine stp (fun _ => X0.ldc2DoubleC hx hown (mvT hZ (hw _ (List.mem_of_getElem? (i := 2) rfl))) (g := (mkF m 28 #[.val (.long ax), .second, .val (.int at_), .val (.int au), .val (.long ah), .second, .val (.long al), .second, .val (.long mz), .second, .val (.int tz), .val (.int uz), .unset, .unset, .unset, .unset, .unset, .unset, .unset, .unset, .unset, .unset, .unset, .unset, .unset, .unset, .unset, .unset, .unset, .unset] [(.double (FP.l2d mz))])) rfl (hb hby at_28) _) ?_
  show Go p e below T0 (mkF m 31 #[.val (.long ax), .second, .val (.int at_), .val (.int au), .val (.long ah), .second, .val (.long al), .second, .val (.long mz), .second, .val (.int tz), .val (.int uz), .unset, .unset, .unset, .unset, .unset, .unset, .unset, .unset, .unset, .unset, .unset, .unset, .unset, .unset, .unset, .unset, .unset, .unset] [(.double (4841369599423283200 : UInt64)), (.double (FP.l2d mz))]) _
  refine stp (fun _ => XS.ddivS X0.here hx rfl (hb hby at_31) rfl (own_nn (own_d0 hM1 hM2)) rfl) ?_
  show Go p e below T0 (mkF m 32 #[.val (.long ax), .second, .val (.int at_), .val (.int au), .val (.long ah), .second, .val (.long al), .second, .val (.long mz), .second, .val (.int tz), .val (.int uz), .unset, .unset, .unset, .unset, .unset, .unset, .unset, .unset, .unset, .unset, .unset, .unset, .unset, .unset, .unset, .unset, .unset, .unset] [(.double (FP.ddiv (FP.l2d mz) (4841369599423283200 : UInt64)))]) _
  refine stp (fun _ => XS.lconst X0.here hx rfl (hb hby at_32)) ?_
  show Go p e below T0 (mkF m 33 #[.val (.long ax), .second, .val (.int at_), .val (.int au), .val (.long ah), .second, .val (.long al), .second, .val (.long mz), .second, .val (.int tz), .val (.int uz), .unset, .unset, .unset, .unset, .unset, .unset, .unset, .unset, .unset, .unset, .unset, .unset, .unset, .unset, .unset, .unset, .unset, .unset] [(.long (1 : Int64)), (.double (FP.ddiv (FP.l2d mz) (4841369599423283200 : UInt64)))]) _
  refine stp (fun _ => XS.iload X0.here hx rfl (hb hby at_33) rfl) ?_
  show Go p e below T0 (mkF m 35 #[.val (.long ax), .second, .val (.int at_), .val (.int au), .val (.long ah), .second, .val (.long al), .second, .val (.long mz), .second, .val (.int tz), .val (.int uz), .unset, .unset, .unset, .unset, .unset, .unset, .unset, .unset, .unset, .unset, .unset, .unset, .unset, .unset, .unset, .unset, .unset, .unset] [(.int tz), (.long (1 : Int64)), (.double (FP.ddiv (FP.l2d mz) (4841369599423283200 : UInt64)))]) _
  refine stp (fun _ => XS.lshl X0.here hx rfl (hb hby at_35) rfl) ?_
  show Go p e below T0 (mkF m 36 #[.val (.long ax), .second, .val (.int at_), .val (.int au), .val (.long ah), .second, .val (.long al), .second, .val (.long mz), .second, .val (.int tz), .val (.int uz), .unset, .unset, .unset, .unset, .unset, .unset, .unset, .unset, .unset, .unset, .unset, .unset, .unset, .unset, .unset, .unset, .unset, .unset] [(.long ((1 : Int64) <<< (tz &&& 0x3f).toInt64)), (.double (FP.ddiv (FP.l2d mz) (4841369599423283200 : UInt64)))]) _
  refine stp (fun _ => XS.l2dS X0.here hx rfl (hb hby at_36) rfl rfl) ?_
  show Go p e below T0 (mkF m 37 #[.val (.long ax), .second, .val (.int at_), .val (.int au), .val (.long ah), .second, .val (.long al), .second, .val (.long mz), .second, .val (.int tz), .val (.int uz), .unset, .unset, .unset, .unset, .unset, .unset, .unset, .unset, .unset, .unset, .unset, .unset, .unset, .unset, .unset, .unset, .unset, .unset] [(.double (FP.l2d ((1 : Int64) <<< (tz &&& 0x3f).toInt64))), (.double (FP.ddiv (FP.l2d mz) (4841369599423283200 : UInt64)))]) _
  refine stp (fun _ => XS.ddivS X0.here hx rfl (hb hby at_37) rfl (own_nn (own_d1 (own_d0 hM1 hM2) hM2 hT1 hT2 (by omega) (by omega))) rfl) ?_
  show Go p e below T0 (mkF m 38 #[.val (.long ax), .second, .val (.int at_), .val (.int au), .val (.long ah), .second, .val (.long al), .second, .val (.long mz), .second, .val (.int tz), .val (.int uz), .unset, .unset, .unset, .unset, .unset, .unset, .unset, .unset, .unset, .unset, .unset, .unset, .unset, .unset, .unset, .unset, .unset, .unset] [(.double (FP.ddiv (FP.ddiv (FP.l2d mz) (4841369599423283200 : UInt64)) (FP.l2d ((1 : Int64) <<< (tz &&& 0x3f).toInt64))))]) _
  refine stp (fun _ => XS.lconst X0.here hx rfl (hb hby at_38)) ?_
  show Go p e below T0 (mkF m 39 #[.val (.long ax), .second, .val (.int at_), .val (.int au), .val (.long ah), .second, .val (.long al), .second, .val (.long mz), .second, .val (.int tz), .val (.int uz), .unset, .unset, .unset, .unset, .unset, .unset, .unset, .unset, .unset, .unset, .unset, .unset, .unset, .unset, .unset, .unset, .unset, .unset] [(.long (1 : Int64)), (.double (FP.ddiv (FP.ddiv (FP.l2d mz) (4841369599423283200 : UInt64)) (FP.l2d ((1 : Int64) <<< (tz &&& 0x3f).toInt64))))]) _
  refine stp (fun _ => XS.iload X0.here hx rfl (hb hby at_39) rfl) ?_
  show Go p e below T0 (mkF m 41 #[.val (.long ax), .second, .val (.int at_), .val (.int au), .val (.long ah), .second, .val (.long al), .second, .val (.long mz), .second, .val (.int tz), .val (.int uz), .unset, .unset, .unset, .unset, .unset, .unset, .unset, .unset, .unset, .unset, .unset, .unset, .unset, .unset, .unset, .unset, .unset, .unset] [(.int uz), (.long (1 : Int64)), (.double (FP.ddiv (FP.ddiv (FP.l2d mz) (4841369599423283200 : UInt64)) (FP.l2d ((1 : Int64) <<< (tz &&& 0x3f).toInt64))))]) _
  refine stp (fun _ => XS.lshl X0.here hx rfl (hb hby at_41) rfl) ?_
  show Go p e below T0 (mkF m 42 #[.val (.long ax), .second, .val (.int at_), .val (.int au), .val (.long ah), .second, .val (.long al), .second, .val (.long mz), .second, .val (.int tz), .val (.int uz), .unset, .unset, .unset, .unset, .unset, .unset, .unset, .unset, .unset, .unset, .unset, .unset, .unset, .unset, .unset, .unset, .unset, .unset] [(.long ((1 : Int64) <<< (uz &&& 0x3f).toInt64)), (.double (FP.ddiv (FP.ddiv (FP.l2d mz) (4841369599423283200 : UInt64)) (FP.l2d ((1 : Int64) <<< (tz &&& 0x3f).toInt64))))]) _
  refine stp (fun _ => XS.l2dS X0.here hx rfl (hb hby at_42) rfl rfl) ?_
  show Go p e below T0 (mkF m 43 #[.val (.long ax), .second, .val (.int at_), .val (.int au), .val (.long ah), .second, .val (.long al), .second, .val (.long mz), .second, .val (.int tz), .val (.int uz), .unset, .unset, .unset, .unset, .unset, .unset, .unset, .unset, .unset, .unset, .unset, .unset, .unset, .unset, .unset, .unset, .unset, .unset] [(.double (FP.l2d ((1 : Int64) <<< (uz &&& 0x3f).toInt64))), (.double (FP.ddiv (FP.ddiv (FP.l2d mz) (4841369599423283200 : UInt64)) (FP.l2d ((1 : Int64) <<< (tz &&& 0x3f).toInt64))))]) _
  refine stp (fun _ => XS.ddivS X0.here hx rfl (hb hby at_43) rfl (own_nn (own_d1 (own_d1 (own_d0 hM1 hM2) hM2 hT1 hT2 (by omega) (by omega)) hM2 hU1 hU2 (by omega) (by omega))) rfl) ?_
  show Go p e below T0 (mkF m 44 #[.val (.long ax), .second, .val (.int at_), .val (.int au), .val (.long ah), .second, .val (.long al), .second, .val (.long mz), .second, .val (.int tz), .val (.int uz), .unset, .unset, .unset, .unset, .unset, .unset, .unset, .unset, .unset, .unset, .unset, .unset, .unset, .unset, .unset, .unset, .unset, .unset] [(.double (FP.ddiv (FP.ddiv (FP.ddiv (FP.l2d mz) (4841369599423283200 : UInt64)) (FP.l2d ((1 : Int64) <<< (tz &&& 0x3f).toInt64))) (FP.l2d ((1 : Int64) <<< (uz &&& 0x3f).toInt64))))]) _
  refine stp (fun _ => XS.dstore X0.here hx rfl (hb hby at_44) rfl (l' := #[.val (.long ax), .second, .val (.int at_), .val (.int au), .val (.long ah), .second, .val (.long al), .second, .val (.long mz), .second, .val (.int tz), .val (.int uz), .val (.double (FP.ddiv (FP.ddiv (FP.ddiv (FP.l2d mz) (4841369599423283200 : UInt64)) (FP.l2d ((1 : Int64) <<< (tz &&& 0x3f).toInt64))) (FP.l2d ((1 : Int64) <<< (uz &&& 0x3f).toInt64)))), .second, .unset, .unset, .unset, .unset, .unset, .unset, .unset, .unset, .unset, .unset, .unset, .unset, .unset, .unset, .unset, .unset]) rfl) ?_
  show Go p e below T0 (mkF m 46 #[.val (.long ax), .second, .val (.int at_), .val (.int au), .val (.long ah), .second, .val (.long al), .second, .val (.long mz), .second, .val (.int tz), .val (.int uz), .val (.double (FP.ddiv (FP.ddiv (FP.ddiv (FP.l2d mz) (4841369599423283200 : UInt64)) (FP.l2d ((1 : Int64) <<< (tz &&& 0x3f).toInt64))) (FP.l2d ((1 : Int64) <<< (uz &&& 0x3f).toInt64)))), .second, .unset, .unset, .unset, .unset, .unset, .unset, .unset, .unset, .unset, .unset, .unset, .unset, .unset, .unset, .unset, .unset] []) _
  obtain ⟨xz, hxz⟩ : ∃ z : UInt64, z = (FP.ddiv (FP.ddiv (FP.ddiv (FP.l2d mz) (4841369599423283200 : UInt64)) (FP.l2d ((1 : Int64) <<< (tz &&& 0x3f).toInt64))) (FP.l2d ((1 : Int64) <<< (uz &&& 0x3f).toInt64))) := ⟨_, rfl⟩
  rw [← hxz]
  show Go p e below T0 (mkF m 46 #[.val (.long ax), .second, .val (.int at_), .val (.int au), .val (.long ah), .second, .val (.long al), .second, .val (.long mz), .second, .val (.int tz), .val (.int uz), .val (.double xz), .second, .unset, .unset, .unset, .unset, .unset, .unset, .unset, .unset, .unset, .unset, .unset, .unset, .unset, .unset, .unset, .unset] []) _
  have hok := own_ok hM1 hM2 hT1 hT2 hU1 hU2 hxz
  refine stp (fun _ => XS.lload X0.here hx rfl (hb hby at_46) rfl) ?_
  show Go p e below T0 (mkF m 48 #[.val (.long ax), .second, .val (.int at_), .val (.int au), .val (.long ah), .second, .val (.long al), .second, .val (.long mz), .second, .val (.int tz), .val (.int uz), .val (.double xz), .second, .unset, .unset, .unset, .unset, .unset, .unset, .unset, .unset, .unset, .unset, .unset, .unset, .unset, .unset, .unset, .unset] [(.long ah)]) _
  refine stp (fun _ => X0.ldc2Long hx hown (mvT hZ (hw _ (List.mem_of_getElem? (i := 3) rfl))) (g := (mkF m 48 #[.val (.long ax), .second, .val (.int at_), .val (.int au), .val (.long ah), .second, .val (.long al), .second, .val (.long mz), .second, .val (.int tz), .val (.int uz), .val (.double xz), .second, .unset, .unset, .unset, .unset, .unset, .unset, .unset, .unset, .unset, .unset, .unset, .unset, .unset, .unset, .unset, .unset] [(.long ah)])) rfl (hb hby at_48) _) ?_
  show Go p e below T0 (mkF m 51 #[.val (.long ax), .second, .val (.int at_), .val (.int au), .val (.long ah), .second, .val (.long al), .second, .val (.long mz), .second, .val (.int tz), .val (.int uz), .val (.double xz), .second, .unset, .unset, .unset, .unset, .unset, .unset, .unset, .unset, .unset, .unset, .unset, .unset, .unset, .unset, .unset, .unset] [(.long (4611686018427387903 : Int64)), (.long ah)]) _
  refine stp (fun _ => XS.land X0.here hx rfl (hb hby at_51) rfl) ?_
  show Go p e below T0 (mkF m 52 #[.val (.long ax), .second, .val (.int at_), .val (.int au), .val (.long ah), .second, .val (.long al), .second, .val (.long mz), .second, .val (.int tz), .val (.int uz), .val (.double xz), .second, .unset, .unset, .unset, .unset, .unset, .unset, .unset, .unset, .unset, .unset, .unset, .unset, .unset, .unset, .unset, .unset] [(.long (ah &&& (4611686018427387903 : Int64)))]) _
  refine stp (fun _ => XS.lstore X0.here hx rfl (hb hby at_52) rfl (l' := #[.val (.long ax), .second, .val (.int at_), .val (.int au), .val (.long ah), .second, .val (.long al), .second, .val (.long mz), .second, .val (.int tz), .val (.int uz), .val (.double xz), .second, .val (.long (ah &&& (4611686018427387903 : Int64))), .second, .unset, .unset, .unset, .unset, .unset, .unset, .unset, .unset, .unset, .unset, .unset, .unset, .unset, .unset]) rfl) ?_
  show Go p e below T0 (mkF m 54 #[.val (.long ax), .second, .val (.int at_), .val (.int au), .val (.long ah), .second, .val (.long al), .second, .val (.long mz), .second, .val (.int tz), .val (.int uz), .val (.double xz), .second, .val (.long (ah &&& (4611686018427387903 : Int64))), .second, .unset, .unset, .unset, .unset, .unset, .unset, .unset, .unset, .unset, .unset, .unset, .unset, .unset, .unset] []) _
  obtain ⟨hz0, hhz0⟩ : ∃ z : Int64, z = (ah &&& (4611686018427387903 : Int64)) := ⟨_, rfl⟩
  rw [← hhz0]
  show Go p e below T0 (mkF m 54 #[.val (.long ax), .second, .val (.int at_), .val (.int au), .val (.long ah), .second, .val (.long al), .second, .val (.long mz), .second, .val (.int tz), .val (.int uz), .val (.double xz), .second, .val (.long hz0), .second, .unset, .unset, .unset, .unset, .unset, .unset, .unset, .unset, .unset, .unset, .unset, .unset, .unset, .unset] []) _
  obtain ⟨A_, hA1, hA2⟩ := own_m62 ah
  rw [← hhz0] at hA1
  refine stp (fun _ => XS.lload X0.here hx rfl (hb hby at_54) rfl) ?_
  show Go p e below T0 (mkF m 56 #[.val (.long ax), .second, .val (.int at_), .val (.int au), .val (.long ah), .second, .val (.long al), .second, .val (.long mz), .second, .val (.int tz), .val (.int uz), .val (.double xz), .second, .val (.long hz0), .second, .unset, .unset, .unset, .unset, .unset, .unset, .unset, .unset, .unset, .unset, .unset, .unset, .unset, .unset] [(.long al)]) _
  refine stp (fun _ => X0.ldc2Long hx hown (mvT hZ (hw _ (List.mem_of_getElem? (i := 4) rfl))) (g := (mkF m 56 #[.val (.long ax), .second, .val (.int at_), .val (.int au), .val (.long ah), .second, .val (.long al), .second, .val (.long mz), .second, .val (.int tz), .val (.int uz), .val (.double xz), .second, .val (.long hz0), .second, .unset, .unset, .unset, .unset, .unset, .unset, .unset, .unset, .unset, .unset, .unset, .unset, .unset, .unset] [(.long al)])) rfl (hb hby at_56) _) ?_
  show Go p e below T0 (mkF m 59 #[.val (.long ax), .second, .val (.int at_), .val (.int au), .val (.long ah), .second, .val (.long al), .second, .val (.long mz), .second, .val (.int tz), .val (.int uz), .val (.double xz), .second, .val (.long hz0), .second, .unset, .unset, .unset, .unset, .unset, .unset, .unset, .unset, .unset, .unset, .unset, .unset, .unset, .unset] [(.long (9223372036854775807 : Int64)), (.long al)]) _
  refine stp (fun _ => XS.land X0.here hx rfl (hb hby at_59) rfl) ?_
  show Go p e below T0 (mkF m 60 #[.val (.long ax), .second, .val (.int at_), .val (.int au), .val (.long ah), .second, .val (.long al), .second, .val (.long mz), .second, .val (.int tz), .val (.int uz), .val (.double xz), .second, .val (.long hz0), .second, .unset, .unset, .unset, .unset, .unset, .unset, .unset, .unset, .unset, .unset, .unset, .unset, .unset, .unset] [(.long (al &&& (9223372036854775807 : Int64)))]) _
  refine stp (fun _ => XS.lstore X0.here hx rfl (hb hby at_60) rfl (l' := #[.val (.long ax), .second, .val (.int at_), .val (.int au), .val (.long ah), .second, .val (.long al), .second, .val (.long mz), .second, .val (.int tz), .val (.int uz), .val (.double xz), .second, .val (.long hz0), .second, .val (.long (al &&& (9223372036854775807 : Int64))), .second, .unset, .unset, .unset, .unset, .unset, .unset, .unset, .unset, .unset, .unset, .unset, .unset]) rfl) ?_
  show Go p e below T0 (mkF m 62 #[.val (.long ax), .second, .val (.int at_), .val (.int au), .val (.long ah), .second, .val (.long al), .second, .val (.long mz), .second, .val (.int tz), .val (.int uz), .val (.double xz), .second, .val (.long hz0), .second, .val (.long (al &&& (9223372036854775807 : Int64))), .second, .unset, .unset, .unset, .unset, .unset, .unset, .unset, .unset, .unset, .unset, .unset, .unset] []) _
  obtain ⟨lz0, hlz0⟩ : ∃ z : Int64, z = (al &&& (9223372036854775807 : Int64)) := ⟨_, rfl⟩
  rw [← hlz0]
  show Go p e below T0 (mkF m 62 #[.val (.long ax), .second, .val (.int at_), .val (.int au), .val (.long ah), .second, .val (.long al), .second, .val (.long mz), .second, .val (.int tz), .val (.int uz), .val (.double xz), .second, .val (.long hz0), .second, .val (.long lz0), .second, .unset, .unset, .unset, .unset, .unset, .unset, .unset, .unset, .unset, .unset, .unset, .unset] []) _
  refine stp (fun _ => XS.bipush X0.here hx rfl (hb hby at_62)) ?_
  show Go p e below T0 (mkF m 64 #[.val (.long ax), .second, .val (.int at_), .val (.int au), .val (.long ah), .second, .val (.long al), .second, .val (.long mz), .second, .val (.int tz), .val (.int uz), .val (.double xz), .second, .val (.long hz0), .second, .val (.long lz0), .second, .unset, .unset, .unset, .unset, .unset, .unset, .unset, .unset, .unset, .unset, .unset, .unset] [(.int (68 : Int32))]) _
  refine stp (fun _ => XS.iload X0.here hx rfl (hb hby at_64) rfl) ?_
  show Go p e below T0 (mkF m 66 #[.val (.long ax), .second, .val (.int at_), .val (.int au), .val (.long ah), .second, .val (.long al), .second, .val (.long mz), .second, .val (.int tz), .val (.int uz), .val (.double xz), .second, .val (.long hz0), .second, .val (.long lz0), .second, .unset, .unset, .unset, .unset, .unset, .unset, .unset, .unset, .unset, .unset, .unset, .unset] [(.int tz), (.int (68 : Int32))]) _
  refine stp (fun _ => XS.isub X0.here hx rfl (hb hby at_66) rfl) ?_
  show Go p e below T0 (mkF m 67 #[.val (.long ax), .second, .val (.int at_), .val (.int au), .val (.long ah), .second, .val (.long al), .second, .val (.long mz), .second, .val (.int tz), .val (.int uz), .val (.double xz), .second, .val (.long hz0), .second, .val (.long lz0), .second, .unset, .unset, .unset, .unset, .unset, .unset, .unset, .unset, .unset, .unset, .unset, .unset] [(.int ((68 : Int32) - tz))]) _
  refine stp (fun _ => XS.iload X0.here hx rfl (hb hby at_67) rfl) ?_
  show Go p e below T0 (mkF m 69 #[.val (.long ax), .second, .val (.int at_), .val (.int au), .val (.long ah), .second, .val (.long al), .second, .val (.long mz), .second, .val (.int tz), .val (.int uz), .val (.double xz), .second, .val (.long hz0), .second, .val (.long lz0), .second, .unset, .unset, .unset, .unset, .unset, .unset, .unset, .unset, .unset, .unset, .unset, .unset] [(.int uz), (.int ((68 : Int32) - tz))]) _
  refine stp (fun _ => XS.isub X0.here hx rfl (hb hby at_69) rfl) ?_
  show Go p e below T0 (mkF m 70 #[.val (.long ax), .second, .val (.int at_), .val (.int au), .val (.long ah), .second, .val (.long al), .second, .val (.long mz), .second, .val (.int tz), .val (.int uz), .val (.double xz), .second, .val (.long hz0), .second, .val (.long lz0), .second, .unset, .unset, .unset, .unset, .unset, .unset, .unset, .unset, .unset, .unset, .unset, .unset] [(.int (((68 : Int32) - tz) - uz))]) _
  refine stp (fun _ => XS.istore X0.here hx rfl (hb hby at_70) rfl (l' := #[.val (.long ax), .second, .val (.int at_), .val (.int au), .val (.long ah), .second, .val (.long al), .second, .val (.long mz), .second, .val (.int tz), .val (.int uz), .val (.double xz), .second, .val (.long hz0), .second, .val (.long lz0), .second, .val (.int (((68 : Int32) - tz) - uz)), .unset, .unset, .unset, .unset, .unset, .unset, .unset, .unset, .unset, .unset, .unset]) rfl) ?_
  show Go p e below T0 (mkF m 72 #[.val (.long ax), .second, .val (.int at_), .val (.int au), .val (.long ah), .second, .val (.long al), .second, .val (.long mz), .second, .val (.int tz), .val (.int uz), .val (.double xz), .second, .val (.long hz0), .second, .val (.long lz0), .second, .val (.int (((68 : Int32) - tz) - uz)), .unset, .unset, .unset, .unset, .unset, .unset, .unset, .unset, .unset, .unset, .unset] []) _
  obtain ⟨kz, hkz⟩ : ∃ z : Int32, z = (((68 : Int32) - tz) - uz) := ⟨_, rfl⟩
  rw [← hkz]
  show Go p e below T0 (mkF m 72 #[.val (.long ax), .second, .val (.int at_), .val (.int au), .val (.long ah), .second, .val (.long al), .second, .val (.long mz), .second, .val (.int tz), .val (.int uz), .val (.double xz), .second, .val (.long hz0), .second, .val (.long lz0), .second, .val (.int kz), .unset, .unset, .unset, .unset, .unset, .unset, .unset, .unset, .unset, .unset, .unset] []) _
  rw [← hkz] at hok
  refine stp (fun _ => XS.iload X0.here hx rfl (hb hby at_72) rfl) ?_
  show Go p e below T0 (mkF m 74 #[.val (.long ax), .second, .val (.int at_), .val (.int au), .val (.long ah), .second, .val (.long al), .second, .val (.long mz), .second, .val (.int tz), .val (.int uz), .val (.double xz), .second, .val (.long hz0), .second, .val (.long lz0), .second, .val (.int kz), .unset, .unset, .unset, .unset, .unset, .unset, .unset, .unset, .unset, .unset, .unset] [(.int kz)]) _
  by_cases q74_1 : 0 < kz
  · refine stp (fun _ => XS.ifYes X0.here hx rfl (pc0 := 74) (pc' := 91) rfl (hb hby at_74) rfl (XT.i0_gt_t q74_1) (by decide) (by decide)) ?_
    show Go p e below T0 (mkF m 91 #[.val (.long ax), .second, .val (.int at_), .val (.int au), .val (.long ah), .second, .val (.long al), .second, .val (.long mz), .second, .val (.int tz), .val (.int uz), .val (.double xz), .second, .val (.long hz0), .second, .val (.long lz0), .second, .val (.int kz), .unset, .unset, .unset, .unset, .unset, .unset, .unset, .unset, .unset, .unset, .unset] []) _
    refine stp (fun _ => XS.iload X0.here hx rfl (hb hby at_91) rfl) ?_
    show Go p e below T0 (mkF m 93 #[.val (.long ax), .second, .val (.int at_), .val (.int au), .val (.long ah), .second, .val (.long al), .second, .val (.long mz), .second, .val (.int tz), .val (.int uz), .val (.double xz), .second, .val (.long hz0), .second, .val (.long lz0), .second, .val (.int kz), .unset, .unset, .unset, .unset, .unset, .unset, .unset, .unset, .unset, .unset, .unset] [(.int kz)]) _
    refine stp (fun _ => XS.bipush X0.here hx rfl (hb hby at_93)) ?_
    show Go p e below T0 (mkF m 95 #[.val (.long ax), .second, .val (.int at_), .val (.int au), .val (.long ah), .second, .val (.long al), .second, .val (.long mz), .second, .val (.int tz), .val (.int uz), .val (.double xz), .second, .val (.long hz0), .second, .val (.long lz0), .second, .val (.int kz), .unset, .unset, .unset, .unset, .unset, .unset, .unset, .unset, .unset, .unset, .unset] [(.int (63 : Int32)), (.int kz)]) _
    by_cases q95_2 : kz < (63 : Int32)
    · refine stp (fun _ => XS.icmpNo X0.here hx rfl (hb hby at_95) rfl (XT.ii_ge_f q95_2)) ?_
      show Go p e below T0 (mkF m 98 #[.val (.long ax), .second, .val (.int at_), .val (.int au), .val (.long ah), .second, .val (.long al), .second, .val (.long mz), .second, .val (.int tz), .val (.int uz), .val (.double xz), .second, .val (.long hz0), .second, .val (.long lz0), .second, .val (.int kz), .unset, .unset, .unset, .unset, .unset, .unset, .unset, .unset, .unset, .unset, .unset] []) _
      refine stp (fun _ => XS.lload X0.here hx rfl (hb hby at_98) rfl) ?_
      show Go p e below T0 (mkF m 100 #[.val (.long ax), .second, .val (.int at_), .val (.int au), .val (.long ah), .second, .val (.long al), .second, .val (.long mz), .second, .val (.int tz), .val (.int uz), .val (.double xz), .second, .val (.long hz0), .second, .val (.long lz0), .second, .val (.int kz), .unset, .unset, .unset, .unset, .unset, .unset, .unset, .unset, .unset, .unset, .unset] [(.long mz)]) _
      refine stp (fun _ => XS.bipush X0.here hx rfl (hb hby at_100)) ?_
      show Go p e below T0 (mkF m 102 #[.val (.long ax), .second, .val (.int at_), .val (.int au), .val (.long ah), .second, .val (.long al), .second, .val (.long mz), .second, .val (.int tz), .val (.int uz), .val (.double xz), .second, .val (.long hz0), .second, .val (.long lz0), .second, .val (.int kz), .unset, .unset, .unset, .unset, .unset, .unset, .unset, .unset, .unset, .unset, .unset] [(.int (63 : Int32)), (.long mz)]) _
      refine stp (fun _ => XS.iload X0.here hx rfl (hb hby at_102) rfl) ?_
      show Go p e below T0 (mkF m 104 #[.val (.long ax), .second, .val (.int at_), .val (.int au), .val (.long ah), .second, .val (.long al), .second, .val (.long mz), .second, .val (.int tz), .val (.int uz), .val (.double xz), .second, .val (.long hz0), .second, .val (.long lz0), .second, .val (.int kz), .unset, .unset, .unset, .unset, .unset, .unset, .unset, .unset, .unset, .unset, .unset] [(.int kz), (.int (63 : Int32)), (.long mz)]) _
      refine stp (fun _ => XS.isub X0.here hx rfl (hb hby at_104) rfl) ?_
      show Go p e below T0 (mkF m 105 #[.val (.long ax), .second, .val (.int at_), .val (.int au), .val (.long ah), .second, .val (.long al), .second, .val (.long mz), .second, .val (.int tz), .val (.int uz), .val (.double xz), .second, .val (.long hz0), .second, .val (.long lz0), .second, .val (.int kz), .unset, .unset, .unset, .unset, .unset, .unset, .unset, .unset, .unset, .unset, .unset] [(.int ((63 : Int32) - kz)), (.long mz)]) _
      refine stp (fun _ => XS.lushr X0.here hx rfl (hb hby at_105) rfl) ?_
      show Go p e below T0 (mkF m 106 #[.val (.long ax), .second, .val (.int at_), .val (.int au), .val (.long ah), .second, .val (.long al), .second, .val (.long mz), .second, .val (.int tz), .val (.int uz), .val (.double xz), .second, .val (.long hz0), .second, .val (.long lz0), .second, .val (.int kz), .unset, .unset, .unset, .unset, .unset, .unset, .unset, .unset, .unset, .unset, .unset] [(.long ((mz.toUInt64 >>> (((63 : Int32) - kz) &&& 0x3f).toInt64.toUInt64).toInt64))]) _
      refine stp (fun _ => XS.lstore X0.here hx rfl (hb hby at_106) rfl (l' := #[.val (.long ax), .second, .val (.int at_), .val (.int au), .val (.long ah), .second, .val (.long al), .second, .val (.long mz), .second, .val (.int tz), .val (.int uz), .val (.double xz), .second, .val (.long hz0), .second, .val (.long lz0), .second, .val (.int kz), .val (.long ((mz.toUInt64 >>> (((63 : Int32) - kz) &&& 0x3f).toInt64.toUInt64).toInt64)), .second, .unset, .unset, .unset, .unset, .unset, .unset, .unset, .unset, .unset]) rfl) ?_
      show Go p e below T0 (mkF m 108 #[.val (.long ax), .second, .val (.int at_), .val (.int au), .val (.long ah), .second, .val (.long al), .second, .val (.long mz), .second, .val (.int tz), .val (.int uz), .val (.double xz), .second, .val (.long hz0), .second, .val (.long lz0), .second, .val (.int kz), .val (.long ((mz.toUInt64 >>> (((63 : Int32) - kz) &&& 0x3f).toInt64.toUInt64).toInt64)), .second, .unset, .unset, .unset, .unset, .unset, .unset, .unset, .unset, .unset] []) _
      refine stp (fun _ => XS.lload X0.here hx rfl (hb hby at_108) rfl) ?_
      show Go p e below T0 (mkF m 110 #[.val (.long ax), .second, .val (.int at_), .val (.int au), .val (.long ah), .second, .val (.long al), .second, .val (.long mz), .second, .val (.int tz), .val (.int uz), .val (.double xz), .second, .val (.long hz0), .second, .val (.long lz0), .second, .val (.int kz), .val (.long ((mz.toUInt64 >>> (((63 : Int32) - kz) &&& 0x3f).toInt64.toUInt64).toInt64)), .second, .unset, .unset, .unset, .unset, .unset, .unset, .unset, .unset, .unset] [(.long mz)]) _
      refine stp (fun _ => XS.iload X0.here hx rfl (hb hby at_110) rfl) ?_
      show Go p e below T0 (mkF m 112 #[.val (.long ax), .second, .val (.int at_), .val (.int au), .val (.long ah), .second, .val (.long al), .second, .val (.long mz), .second, .val (.int tz), .val (.int uz), .val (.double xz), .second, .val (.long hz0), .second, .val (.long lz0), .second, .val (.int kz), .val (.long ((mz.toUInt64 >>> (((63 : Int32) - kz) &&& 0x3f).toInt64.toUInt64).toInt64)), .second, .unset, .unset, .unset, .unset, .unset, .unset, .unset, .unset, .unset] [(.int kz), (.long mz)]) _
      refine stp (fun _ => XS.lshl X0.here hx rfl (hb hby at_112) rfl) ?_
      show Go p e below T0 (mkF m 113 #[.val (.long ax), .second, .val (.int at_), .val (.int au), .val (.long ah), .second, .val (.long al), .second, .val (.long mz), .second, .val (.int tz), .val (.int uz), .val (.double xz), .second, .val (.long hz0), .second, .val (.long lz0), .second, .val (.int kz), .val (.long ((mz.toUInt64 >>> (((63 : Int32) - kz) &&& 0x3f).toInt64.toUInt64).toInt64)), .second, .unset, .unset, .unset, .unset, .unset, .unset, .unset, .unset, .unset] [(.long (mz <<< (kz &&& 0x3f).toInt64))]) _
      refine stp (fun _ => X0.ldc2Long hx hown (mvT hZ (hw _ (List.mem_of_getElem? (i := 4) rfl))) (g := (mkF m 113 #[.val (.long ax), .second, .val (.int at_), .val (.int au), .val (.long ah), .second, .val (.long al), .second, .val (.long mz), .second, .val (.int tz), .val (.int uz), .val (.double xz), .second, .val (.long hz0), .second, .val (.long lz0), .second, .val (.int kz), .val (.long ((mz.toUInt64 >>> (((63 : Int32) - kz) &&& 0x3f).toInt64.toUInt64).toInt64)), .second, .unset, .unset, .unset, .unset, .unset, .unset, .unset, .unset, .unset] [(.long (mz <<< (kz &&& 0x3f).toInt64))])) rfl (hb hby at_113) _) ?_
      show Go p e below T0 (mkF m 116 #[.val (.long ax), .second, .val (.int at_), .val (.int au), .val (.long ah), .second, .val (.long al), .second, .val (.long mz), .second, .val (.int tz), .val (.int uz), .val (.double xz), .second, .val (.long hz0), .second, .val (.long lz0), .second, .val (.int kz), .val (.long ((mz.toUInt64 >>> (((63 : Int32) - kz) &&& 0x3f).toInt64.toUInt64).toInt64)), .second, .unset, .unset, .unset, .unset, .unset, .unset, .unset, .unset, .unset] [(.long (9223372036854775807 : Int64)), (.long (mz <<< (kz &&& 0x3f).toInt64))]) _
      refine stp (fun _ => XS.land X0.here hx rfl (hb hby at_116) rfl) ?_
      show Go p e below T0 (mkF m 117 #[.val (.long ax), .second, .val (.int at_), .val (.int au), .val (.long ah), .second, .val (.long al), .second, .val (.long mz), .second, .val (.int tz), .val (.int uz), .val (.double xz), .second, .val (.long hz0), .second, .val (.long lz0), .second, .val (.int kz), .val (.long ((mz.toUInt64 >>> (((63 : Int32) - kz) &&& 0x3f).toInt64.toUInt64).toInt64)), .second, .unset, .unset, .unset, .unset, .unset, .unset, .unset, .unset, .unset] [(.long ((mz <<< (kz &&& 0x3f).toInt64) &&& (9223372036854775807 : Int64)))]) _
      refine stp (fun _ => XS.lstore X0.here hx rfl (hb hby at_117) rfl (l' := #[.val (.long ax), .second, .val (.int at_), .val (.int au), .val (.long ah), .second, .val (.long al), .second, .val (.long mz), .second, .val (.int tz), .val (.int uz), .val (.double xz), .second, .val (.long hz0), .second, .val (.long lz0), .second, .val (.int kz), .val (.long ((mz.toUInt64 >>> (((63 : Int32) - kz) &&& 0x3f).toInt64.toUInt64).toInt64)), .second, .val (.long ((mz <<< (kz &&& 0x3f).toInt64) &&& (9223372036854775807 : Int64))), .second, .unset, .unset, .unset, .unset, .unset, .unset, .unset]) rfl) ?_
      show Go p e below T0 (mkF m 119 #[.val (.long ax), .second, .val (.int at_), .val (.int au), .val (.long ah), .second, .val (.long al), .second, .val (.long mz), .second, .val (.int tz), .val (.int uz), .val (.double xz), .second, .val (.long hz0), .second, .val (.long lz0), .second, .val (.int kz), .val (.long ((mz.toUInt64 >>> (((63 : Int32) - kz) &&& 0x3f).toInt64.toUInt64).toInt64)), .second, .val (.long ((mz <<< (kz &&& 0x3f).toInt64) &&& (9223372036854775807 : Int64))), .second, .unset, .unset, .unset, .unset, .unset, .unset, .unset] []) _
      refine stp (fun _ => XS.goto X0.here hx rfl (pc0 := 119) (pc' := 135) rfl (hb hby at_119) (by decide) (by decide)) ?_
      show Go p e below T0 (mkF m 135 #[.val (.long ax), .second, .val (.int at_), .val (.int au), .val (.long ah), .second, .val (.long al), .second, .val (.long mz), .second, .val (.int tz), .val (.int uz), .val (.double xz), .second, .val (.long hz0), .second, .val (.long lz0), .second, .val (.int kz), .val (.long ((mz.toUInt64 >>> (((63 : Int32) - kz) &&& 0x3f).toInt64.toUInt64).toInt64)), .second, .val (.long ((mz <<< (kz &&& 0x3f).toInt64) &&& (9223372036854775807 : Int64))), .second, .unset, .unset, .unset, .unset, .unset, .unset, .unset] []) _
      refine stp (fun _ => XS.lload X0.here hx rfl (hb hby at_135) rfl) ?_
      show Go p e below T0 (mkF m 137 #[.val (.long ax), .second, .val (.int at_), .val (.int au), .val (.long ah), .second, .val (.long al), .second, .val (.long mz), .second, .val (.int tz), .val (.int uz), .val (.double xz), .second, .val (.long hz0), .second, .val (.long lz0), .second, .val (.int kz), .val (.long ((mz.toUInt64 >>> (((63 : Int32) - kz) &&& 0x3f).toInt64.toUInt64).toInt64)), .second, .val (.long ((mz <<< (kz &&& 0x3f).toInt64) &&& (9223372036854775807 : Int64))), .second, .unset, .unset, .unset, .unset, .unset, .unset, .unset] [(.long lz0)]) _
      refine stp (fun _ => XS.lload X0.here hx rfl (hb hby at_137) rfl) ?_
      show Go p e below T0 (mkF m 139 #[.val (.long ax), .second, .val (.int at_), .val (.int au), .val (.long ah), .second, .val (.long al), .second, .val (.long mz), .second, .val (.int tz), .val (.int uz), .val (.double xz), .second, .val (.long hz0), .second, .val (.long lz0), .second, .val (.int kz), .val (.long ((mz.toUInt64 >>> (((63 : Int32) - kz) &&& 0x3f).toInt64.toUInt64).toInt64)), .second, .val (.long ((mz <<< (kz &&& 0x3f).toInt64) &&& (9223372036854775807 : Int64))), .second, .unset, .unset, .unset, .unset, .unset, .unset, .unset] [(.long ((mz <<< (kz &&& 0x3f).toInt64) &&& (9223372036854775807 : Int64))), (.long lz0)]) _
      refine stp (fun _ => XS.ladd X0.here hx rfl (hb hby at_139) rfl) ?_
      show Go p e below T0 (mkF m 140 #[.val (.long ax), .second, .val (.int at_), .val (.int au), .val (.long ah), .second, .val (.long al), .second, .val (.long mz), .second, .val (.int tz), .val (.int uz), .val (.double xz), .second, .val (.long hz0), .second, .val (.long lz0), .second, .val (.int kz), .val (.long ((mz.toUInt64 >>> (((63 : Int32) - kz) &&& 0x3f).toInt64.toUInt64).toInt64)), .second, .val (.long ((mz <<< (kz &&& 0x3f).toInt64) &&& (9223372036854775807 : Int64))), .second, .unset, .unset, .unset, .unset, .unset, .unset, .unset] [(.long (lz0 + ((mz <<< (kz &&& 0x3f).toInt64) &&& (9223372036854775807 : Int64))))]) _
      refine stp (fun _ => XS.lstore X0.here hx rfl (hb hby at_140) rfl (l' := #[.val (.long ax), .second, .val (.int at_), .val (.int au), .val (.long ah), .second, .val (.long al), .second, .val (.long mz), .second, .val (.int tz), .val (.int uz), .val (.double xz), .second, .val (.long hz0), .second, .val (.long lz0), .second, .val (.int kz), .val (.long ((mz.toUInt64 >>> (((63 : Int32) - kz) &&& 0x3f).toInt64.toUInt64).toInt64)), .second, .val (.long ((mz <<< (kz &&& 0x3f).toInt64) &&& (9223372036854775807 : Int64))), .second, .val (.long (lz0 + ((mz <<< (kz &&& 0x3f).toInt64) &&& (9223372036854775807 : Int64)))), .second, .unset, .unset, .unset, .unset, .unset]) rfl) ?_
      show Go p e below T0 (mkF m 142 #[.val (.long ax), .second, .val (.int at_), .val (.int au), .val (.long ah), .second, .val (.long al), .second, .val (.long mz), .second, .val (.int tz), .val (.int uz), .val (.double xz), .second, .val (.long hz0), .second, .val (.long lz0), .second, .val (.int kz), .val (.long ((mz.toUInt64 >>> (((63 : Int32) - kz) &&& 0x3f).toInt64.toUInt64).toInt64)), .second, .val (.long ((mz <<< (kz &&& 0x3f).toInt64) &&& (9223372036854775807 : Int64))), .second, .val (.long (lz0 + ((mz <<< (kz &&& 0x3f).toInt64) &&& (9223372036854775807 : Int64)))), .second, .unset, .unset, .unset, .unset, .unset] []) _
      refine stp (fun _ => XS.lload X0.here hx rfl (hb hby at_142) rfl) ?_
      show Go p e below T0 (mkF m 144 #[.val (.long ax), .second, .val (.int at_), .val (.int au), .val (.long ah), .second, .val (.long al), .second, .val (.long mz), .second, .val (.int tz), .val (.int uz), .val (.double xz), .second, .val (.long hz0), .second, .val (.long lz0), .second, .val (.int kz), .val (.long ((mz.toUInt64 >>> (((63 : Int32) - kz) &&& 0x3f).toInt64.toUInt64).toInt64)), .second, .val (.long ((mz <<< (kz &&& 0x3f).toInt64) &&& (9223372036854775807 : Int64))), .second, .val (.long (lz0 + ((mz <<< (kz &&& 0x3f).toInt64) &&& (9223372036854775807 : Int64)))), .second, .unset, .unset, .unset, .unset, .unset] [(.long (lz0 + ((mz <<< (kz &&& 0x3f).toInt64) &&& (9223372036854775807 : Int64))))]) _
      refine stp (fun _ => X0.ldc2Long hx hown (mvT hZ (hw _ (List.mem_of_getElem? (i := 4) rfl))) (g := (mkF m 144 #[.val (.long ax), .second, .val (.int at_), .val (.int au), .val (.long ah), .second, .val (.long al), .second, .val (.long mz), .second, .val (.int tz), .val (.int uz), .val (.double xz), .second, .val (.long hz0), .second, .val (.long lz0), .second, .val (.int kz), .val (.long ((mz.toUInt64 >>> (((63 : Int32) - kz) &&& 0x3f).toInt64.toUInt64).toInt64)), .second, .val (.long ((mz <<< (kz &&& 0x3f).toInt64) &&& (9223372036854775807 : Int64))), .second, .val (.long (lz0 + ((mz <<< (kz &&& 0x3f).toInt64) &&& (9223372036854775807 : Int64)))), .second, .unset, .unset, .unset, .unset, .unset] [(.long (lz0 + ((mz <<< (kz &&& 0x3f).toInt64) &&& (9223372036854775807 : Int64))))])) rfl (hb hby at_144) _) ?_
      show Go p e below T0 (mkF m 147 #[.val (.long ax), .second, .val (.int at_), .val (.int au), .val (.long ah), .second, .val (.long al), .second, .val (.long mz), .second, .val (.int tz), .val (.int uz), .val (.double xz), .second, .val (.long hz0), .second, .val (.long lz0), .second, .val (.int kz), .val (.long ((mz.toUInt64 >>> (((63 : Int32) - kz) &&& 0x3f).toInt64.toUInt64).toInt64)), .second, .val (.long ((mz <<< (kz &&& 0x3f).toInt64) &&& (9223372036854775807 : Int64))), .second, .val (.long (lz0 + ((mz <<< (kz &&& 0x3f).toInt64) &&& (9223372036854775807 : Int64)))), .second, .unset, .unset, .unset, .unset, .unset] [(.long (9223372036854775807 : Int64)), (.long (lz0 + ((mz <<< (kz &&& 0x3f).toInt64) &&& (9223372036854775807 : Int64))))]) _
      refine stp (fun _ => XS.land X0.here hx rfl (hb hby at_147) rfl) ?_
      show Go p e below T0 (mkF m 148 #[.val (.long ax), .second, .val (.int at_), .val (.int au), .val (.long ah), .second, .val (.long al), .second, .val (.long mz), .second, .val (.int tz), .val (.int uz), .val (.double xz), .second, .val (.long hz0), .second, .val (.long lz0), .second, .val (.int kz), .val (.long ((mz.toUInt64 >>> (((63 : Int32) - kz) &&& 0x3f).toInt64.toUInt64).toInt64)), .second, .val (.long ((mz <<< (kz &&& 0x3f).toInt64) &&& (9223372036854775807 : Int64))), .second, .val (.long (lz0 + ((mz <<< (kz &&& 0x3f).toInt64) &&& (9223372036854775807 : Int64)))), .second, .unset, .unset, .unset, .unset, .unset] [(.long ((lz0 + ((mz <<< (kz &&& 0x3f).toInt64) &&& (9223372036854775807 : Int64))) &&& (9223372036854775807 : Int64)))]) _
      refine stp (fun _ => XS.lstore X0.here hx rfl (hb hby at_148) rfl (l' := #[.val (.long ax), .second, .val (.int at_), .val (.int au), .val (.long ah), .second, .val (.long al), .second, .val (.long mz), .second, .val (.int tz), .val (.int uz), .val (.double xz), .second, .val (.long hz0), .second, .val (.long lz0), .second, .val (.int kz), .val (.long ((mz.toUInt64 >>> (((63 : Int32) - kz) &&& 0x3f).toInt64.toUInt64).toInt64)), .second, .val (.long ((mz <<< (kz &&& 0x3f).toInt64) &&& (9223372036854775807 : Int64))), .second, .val (.long (lz0 + ((mz <<< (kz &&& 0x3f).toInt64) &&& (9223372036854775807 : Int64)))), .second, .val (.long ((lz0 + ((mz <<< (kz &&& 0x3f).toInt64) &&& (9223372036854775807 : Int64))) &&& (9223372036854775807 : Int64))), .second, .unset, .unset, .unset]) rfl) ?_
      show Go p e below T0 (mkF m 150 #[.val (.long ax), .second, .val (.int at_), .val (.int au), .val (.long ah), .second, .val (.long al), .second, .val (.long mz), .second, .val (.int tz), .val (.int uz), .val (.double xz), .second, .val (.long hz0), .second, .val (.long lz0), .second, .val (.int kz), .val (.long ((mz.toUInt64 >>> (((63 : Int32) - kz) &&& 0x3f).toInt64.toUInt64).toInt64)), .second, .val (.long ((mz <<< (kz &&& 0x3f).toInt64) &&& (9223372036854775807 : Int64))), .second, .val (.long (lz0 + ((mz <<< (kz &&& 0x3f).toInt64) &&& (9223372036854775807 : Int64)))), .second, .val (.long ((lz0 + ((mz <<< (kz &&& 0x3f).toInt64) &&& (9223372036854775807 : Int64))) &&& (9223372036854775807 : Int64))), .second, .unset, .unset, .unset] []) _
      refine stp (fun _ => XS.lload X0.here hx rfl (hb hby at_150) rfl) ?_
      show Go p e below T0 (mkF m 152 #[.val (.long ax), .second, .val (.int at_), .val (.int au), .val (.long ah), .second, .val (.long al), .second, .val (.long mz), .second, .val (.int tz), .val (.int uz), .val (.double xz), .second, .val (.long hz0), .second, .val (.long lz0), .second, .val (.int kz), .val (.long ((mz.toUInt64 >>> (((63 : Int32) - kz) &&& 0x3f).toInt64.toUInt64).toInt64)), .second, .val (.long ((mz <<< (kz &&& 0x3f).toInt64) &&& (9223372036854775807 : Int64))), .second, .val (.long (lz0 + ((mz <<< (kz &&& 0x3f).toInt64) &&& (9223372036854775807 : Int64)))), .second, .val (.long ((lz0 + ((mz <<< (kz &&& 0x3f).toInt64) &&& (9223372036854775807 : Int64))) &&& (9223372036854775807 : Int64))), .second, .unset, .unset, .unset] [(.long hz0)]) _
      refine stp (fun _ => XS.lload X0.here hx rfl (hb hby at_152) rfl) ?_
      show Go p e below T0 (mkF m 154 #[.val (.long ax), .second, .val (.int at_), .val (.int au), .val (.long ah), .second, .val (.long al), .second, .val (.long mz), .second, .val (.int tz), .val (.int uz), .val (.double xz), .second, .val (.long hz0), .second, .val (.long lz0), .second, .val (.int kz), .val (.long ((mz.toUInt64 >>> (((63 : Int32) - kz) &&& 0x3f).toInt64.toUInt64).toInt64)), .second, .val (.long ((mz <<< (kz &&& 0x3f).toInt64) &&& (9223372036854775807 : Int64))), .second, .val (.long (lz0 + ((mz <<< (kz &&& 0x3f).toInt64) &&& (9223372036854775807 : Int64)))), .second, .val (.long ((lz0 + ((mz <<< (kz &&& 0x3f).toInt64) &&& (9223372036854775807 : Int64))) &&& (9223372036854775807 : Int64))), .second, .unset, .unset, .unset] [(.long ((mz.toUInt64 >>> (((63 : Int32) - kz) &&& 0x3f).toInt64.toUInt64).toInt64)), (.long hz0)]) _
      refine stp (fun _ => XS.ladd X0.here hx rfl (hb hby at_154) rfl) ?_
      show Go p e below T0 (mkF m 155 #[.val (.long ax), .second, .val (.int at_), .val (.int au), .val (.long ah), .second, .val (.long al), .second, .val (.long mz), .second, .val (.int tz), .val (.int uz), .val (.double xz), .second, .val (.long hz0), .second, .val (.long lz0), .second, .val (.int kz), .val (.long ((mz.toUInt64 >>> (((63 : Int32) - kz) &&& 0x3f).toInt64.toUInt64).toInt64)), .second, .val (.long ((mz <<< (kz &&& 0x3f).toInt64) &&& (9223372036854775807 : Int64))), .second, .val (.long (lz0 + ((mz <<< (kz &&& 0x3f).toInt64) &&& (9223372036854775807 : Int64)))), .second, .val (.long ((lz0 + ((mz <<< (kz &&& 0x3f).toInt64) &&& (9223372036854775807 : Int64))) &&& (9223372036854775807 : Int64))), .second, .unset, .unset, .unset] [(.long (hz0 + ((mz.toUInt64 >>> (((63 : Int32) - kz) &&& 0x3f).toInt64.toUInt64).toInt64)))]) _
      refine stp (fun _ => XS.lload X0.here hx rfl (hb hby at_155) rfl) ?_
      show Go p e below T0 (mkF m 157 #[.val (.long ax), .second, .val (.int at_), .val (.int au), .val (.long ah), .second, .val (.long al), .second, .val (.long mz), .second, .val (.int tz), .val (.int uz), .val (.double xz), .second, .val (.long hz0), .second, .val (.long lz0), .second, .val (.int kz), .val (.long ((mz.toUInt64 >>> (((63 : Int32) - kz) &&& 0x3f).toInt64.toUInt64).toInt64)), .second, .val (.long ((mz <<< (kz &&& 0x3f).toInt64) &&& (9223372036854775807 : Int64))), .second, .val (.long (lz0 + ((mz <<< (kz &&& 0x3f).toInt64) &&& (9223372036854775807 : Int64)))), .second, .val (.long ((lz0 + ((mz <<< (kz &&& 0x3f).toInt64) &&& (9223372036854775807 : Int64))) &&& (9223372036854775807 : Int64))), .second, .unset, .unset, .unset] [(.long (lz0 + ((mz <<< (kz &&& 0x3f).toInt64) &&& (9223372036854775807 : Int64)))), (.long (hz0 + ((mz.toUInt64 >>> (((63 : Int32) - kz) &&& 0x3f).toInt64.toUInt64).toInt64)))]) _
      refine stp (fun _ => XS.bipush X0.here hx rfl (hb hby at_157)) ?_
      show Go p e below T0 (mkF m 159 #[.val (.long ax), .second, .val (.int at_), .val (.int au), .val (.long ah), .second, .val (.long al), .second, .val (.long mz), .second, .val (.int tz), .val (.int uz), .val (.double xz), .second, .val (.long hz0), .second, .val (.long lz0), .second, .val (.int kz), .val (.long ((mz.toUInt64 >>> (((63 : Int32) - kz) &&& 0x3f).toInt64.toUInt64).toInt64)), .second, .val (.long ((mz <<< (kz &&& 0x3f).toInt64) &&& (9223372036854775807 : Int64))), .second, .val (.long (lz0 + ((mz <<< (kz &&& 0x3f).toInt64) &&& (9223372036854775807 : Int64)))), .second, .val (.long ((lz0 + ((mz <<< (kz &&& 0x3f).toInt64) &&& (9223372036854775807 : Int64))) &&& (9223372036854775807 : Int64))), .second, .unset, .unset, .unset] [(.int (63 : Int32)), (.long (lz0 + ((mz <<< (kz &&& 0x3f).toInt64) &&& (9223372036854775807 : Int64)))), (.long (hz0 + ((mz.toUInt64 >>> (((63 : Int32) - kz) &&& 0x3f).toInt64.toUInt64).toInt64)))]) _
      refine stp (fun _ => XS.lushr X0.here hx rfl (hb hby at_159) rfl) ?_
      show Go p e below T0 (mkF m 160 #[.val (.long ax), .second, .val (.int at_), .val (.int au), .val (.long ah), .second, .val (.long al), .second, .val (.long mz), .second, .val (.int tz), .val (.int uz), .val (.double xz), .second, .val (.long hz0), .second, .val (.long lz0), .second, .val (.int kz), .val (.long ((mz.toUInt64 >>> (((63 : Int32) - kz) &&& 0x3f).toInt64.toUInt64).toInt64)), .second, .val (.long ((mz <<< (kz &&& 0x3f).toInt64) &&& (9223372036854775807 : Int64))), .second, .val (.long (lz0 + ((mz <<< (kz &&& 0x3f).toInt64) &&& (9223372036854775807 : Int64)))), .second, .val (.long ((lz0 + ((mz <<< (kz &&& 0x3f).toInt64) &&& (9223372036854775807 : Int64))) &&& (9223372036854775807 : Int64))), .second, .unset, .unset, .unset] [(.long (((lz0 + ((mz <<< (kz &&& 0x3f).toInt64) &&& (9223372036854775807 : Int64))).toUInt64 >>> ((63 : Int32) &&& 0x3f).toInt64.toUInt64).toInt64)), (.long (hz0 + ((mz.toUInt64 >>> (((63 : Int32) - kz) &&& 0x3f).toInt64.toUInt64).toInt64)))]) _
      refine stp (fun _ => XS.ladd X0.here hx rfl (hb hby at_160) rfl) ?_
      show Go p e below T0 (mkF m 161 #[.val (.long ax), .second, .val (.int at_), .val (.int au), .val (.long ah), .second, .val (.long al), .second, .val (.long mz), .second, .val (.int tz), .val (.int uz), .val (.double xz), .second, .val (.long hz0), .second, .val (.long lz0), .second, .val (.int kz), .val (.long ((mz.toUInt64 >>> (((63 : Int32) - kz) &&& 0x3f).toInt64.toUInt64).toInt64)), .second, .val (.long ((mz <<< (kz &&& 0x3f).toInt64) &&& (9223372036854775807 : Int64))), .second, .val (.long (lz0 + ((mz <<< (kz &&& 0x3f).toInt64) &&& (9223372036854775807 : Int64)))), .second, .val (.long ((lz0 + ((mz <<< (kz &&& 0x3f).toInt64) &&& (9223372036854775807 : Int64))) &&& (9223372036854775807 : Int64))), .second, .unset, .unset, .unset] [(.long ((hz0 + ((mz.toUInt64 >>> (((63 : Int32) - kz) &&& 0x3f).toInt64.toUInt64).toInt64)) + (((lz0 + ((mz <<< (kz &&& 0x3f).toInt64) &&& (9223372036854775807 : Int64))).toUInt64 >>> ((63 : Int32) &&& 0x3f).toInt64.toUInt64).toInt64)))]) _
      refine stp (fun _ => XS.lstore X0.here hx rfl (hb hby at_161) rfl (l' := #[.val (.long ax), .second, .val (.int at_), .val (.int au), .val (.long ah), .second, .val (.long al), .second, .val (.long mz), .second, .val (.int tz), .val (.int uz), .val (.double xz), .second, .val (.long hz0), .second, .val (.long lz0), .second, .val (.int kz), .val (.long ((mz.toUInt64 >>> (((63 : Int32) - kz) &&& 0x3f).toInt64.toUInt64).toInt64)), .second, .val (.long ((mz <<< (kz &&& 0x3f).toInt64) &&& (9223372036854775807 : Int64))), .second, .val (.long (lz0 + ((mz <<< (kz &&& 0x3f).toInt64) &&& (9223372036854775807 : Int64)))), .second, .val (.long ((lz0 + ((mz <<< (kz &&& 0x3f).toInt64) &&& (9223372036854775807 : Int64))) &&& (9223372036854775807 : Int64))), .second, .val (.long ((hz0 + ((mz.toUInt64 >>> (((63 : Int32) - kz) &&& 0x3f).toInt64.toUInt64).toInt64)) + (((lz0 + ((mz <<< (kz &&& 0x3f).toInt64) &&& (9223372036854775807 : Int64))).toUInt64 >>> ((63 : Int32) &&& 0x3f).toInt64.toUInt64).toInt64))), .second, .unset]) rfl) ?_
      show Go p e below T0 (mkF m 163 #[.val (.long ax), .second, .val (.int at_), .val (.int au), .val (.long ah), .second, .val (.long al), .second, .val (.long mz), .second, .val (.int tz), .val (.int uz), .val (.double xz), .second, .val (.long hz0), .second, .val (.long lz0), .second, .val (.int kz), .val (.long ((mz.toUInt64 >>> (((63 : Int32) - kz) &&& 0x3f).toInt64.toUInt64).toInt64)), .second, .val (.long ((mz <<< (kz &&& 0x3f).toInt64) &&& (9223372036854775807 : Int64))), .second, .val (.long (lz0 + ((mz <<< (kz &&& 0x3f).toInt64) &&& (9223372036854775807 : Int64)))), .second, .val (.long ((lz0 + ((mz <<< (kz &&& 0x3f).toInt64) &&& (9223372036854775807 : Int64))) &&& (9223372036854775807 : Int64))), .second, .val (.long ((hz0 + ((mz.toUInt64 >>> (((63 : Int32) - kz) &&& 0x3f).toInt64.toUInt64).toInt64)) + (((lz0 + ((mz <<< (kz &&& 0x3f).toInt64) &&& (9223372036854775807 : Int64))).toUInt64 >>> ((63 : Int32) &&& 0x3f).toInt64.toUInt64).toInt64))), .second, .unset] []) _
      obtain ⟨T3, h3, X3, e3, E3, A3, D3, -, st3⟩ := newO X0 hx hZ hown (hw _ (List.mem_of_getElem? (i := 5) rfl)) (hw _ (List.mem_of_getElem? (i := 6) rfl)) (hw _ (List.mem_of_getElem? (i := 7) rfl)) e0 (g := (mkF m 163 #[.val (.long ax), .second, .val (.int at_), .val (.int au), .val (.long ah), .second, .val (.long al), .second, .val (.long mz), .second, .val (.int tz), .val (.int uz), .val (.double xz), .second, .val (.long hz0), .second, .val (.long lz0), .second, .val (.int kz), .val (.long ((mz.toUInt64 >>> (((63 : Int32) - kz) &&& 0x3f).toInt64.toUInt64).toInt64)), .second, .val (.long ((mz <<< (kz &&& 0x3f).toInt64) &&& (9223372036854775807 : Int64))), .second, .val (.long (lz0 + ((mz <<< (kz &&& 0x3f).toInt64) &&& (9223372036854775807 : Int64)))), .second, .val (.long ((lz0 + ((mz <<< (kz &&& 0x3f).toInt64) &&& (9223372036854775807 : Int64))) &&& (9223372036854775807 : Int64))), .second, .val (.long ((hz0 + ((mz.toUInt64 >>> (((63 : Int32) - kz) &&& 0x3f).toInt64.toUInt64).toInt64)) + (((lz0 + ((mz <<< (kz &&& 0x3f).toInt64) &&& (9223372036854775807 : Int64))).toUInt64 >>> ((63 : Int32) &&& 0x3f).toInt64.toUInt64).toInt64))), .second, .unset] [])) rfl (hb hby at_163) (by decide) (by decide)
      obtain ⟨b3, g3⟩ : ∃ z, z = h0.size := ⟨_, rfl⟩
      rw [← g3] at A3 D3 st3
      have sz_b3 : h0.size ≤ b3 := Nat.le_trans (Keep.refl h0 []).1 (Nat.le_of_eq g3.symm)
      have ge_b3 : n0 ≤ b3 := Nat.le_trans (old_le O0) (Nat.le_of_eq g3.symm)
      have K3 : Keep h0 h3 [] := (Keep.refl h0 []).ext E3
      have O3 := O0.ext E3
      have F4 : Fld Z h3 b3 "com/example/heedful_rank/heedfulrank/solver/FixedPointSum" "high" "J" (.long (0 : Int64)) := D3 (Or.inl (hw _ (List.mem_of_getElem? (i := 20) rfl))) (ty := .long) (by decide)
      have F5 : Fld Z h3 b3 "com/example/heedful_rank/heedfulrank/solver/FixedPointSum" "low" "J" (.long (0 : Int64)) := D3 (Or.inl (hw _ (List.mem_of_getElem? (i := 22) rfl))) (ty := .long) (by decide)
      refine stp st3 ?_
      show Go p e below T3 (mkF m 166 #[.val (.long ax), .second, .val (.int at_), .val (.int au), .val (.long ah), .second, .val (.long al), .second, .val (.long mz), .second, .val (.int tz), .val (.int uz), .val (.double xz), .second, .val (.long hz0), .second, .val (.long lz0), .second, .val (.int kz), .val (.long ((mz.toUInt64 >>> (((63 : Int32) - kz) &&& 0x3f).toInt64.toUInt64).toInt64)), .second, .val (.long ((mz <<< (kz &&& 0x3f).toInt64) &&& (9223372036854775807 : Int64))), .second, .val (.long (lz0 + ((mz <<< (kz &&& 0x3f).toInt64) &&& (9223372036854775807 : Int64)))), .second, .val (.long ((lz0 + ((mz <<< (kz &&& 0x3f).toInt64) &&& (9223372036854775807 : Int64))) &&& (9223372036854775807 : Int64))), .second, .val (.long ((hz0 + ((mz.toUInt64 >>> (((63 : Int32) - kz) &&& 0x3f).toInt64.toUInt64).toInt64)) + (((lz0 + ((mz <<< (kz &&& 0x3f).toInt64) &&& (9223372036854775807 : Int64))).toUInt64 >>> ((63 : Int32) &&& 0x3f).toInt64.toUInt64).toInt64))), .second, .unset] [(.ref b3)]) _
      refine stp (fun _ => XS.dup X3.here hx rfl (hb hby at_166) rfl rfl) ?_
      show Go p e below T3 (mkF m 167 #[.val (.long ax), .second, .val (.int at_), .val (.int au), .val (.long ah), .second, .val (.long al), .second, .val (.long mz), .second, .val (.int tz), .val (.int uz), .val (.double xz), .second, .val (.long hz0), .second, .val (.long lz0), .second, .val (.int kz), .val (.long ((mz.toUInt64 >>> (((63 : Int32) - kz) &&& 0x3f).toInt64.toUInt64).toInt64)), .second, .val (.long ((mz <<< (kz &&& 0x3f).toInt64) &&& (9223372036854775807 : Int64))), .second, .val (.long (lz0 + ((mz <<< (kz &&& 0x3f).toInt64) &&& (9223372036854775807 : Int64)))), .second, .val (.long ((lz0 + ((mz <<< (kz &&& 0x3f).toInt64) &&& (9223372036854775807 : Int64))) &&& (9223372036854775807 : Int64))), .second, .val (.long ((hz0 + ((mz.toUInt64 >>> (((63 : Int32) - kz) &&& 0x3f).toInt64.toUInt64).toInt64)) + (((lz0 + ((mz <<< (kz &&& 0x3f).toInt64) &&& (9223372036854775807 : Int64))).toUInt64 >>> ((63 : Int32) &&& 0x3f).toInt64.toUInt64).toInt64))), .second, .unset] [(.ref b3), (.ref b3)]) _
      obtain ⟨_, _, ⟨T6, L6, k6, n6⟩, -, X6, ⟨Lc6, hQ6, l6, y6, z6⟩, st6⟩ := X3.specialBack hx (y := (⟨"com/example/heedful_rank/heedfulrank/solver/FixedPointSum", "<init>", "()V"⟩ : MethodName)) rfl hown (mvT hZ (hw _ (List.mem_of_getElem? (i := 8) rfl))) (mvT hZ (hw _ (List.mem_of_getElem? (i := 9) rfl))) (mvT hZ (hw _ (List.mem_of_getElem? (i := 10) rfl))) (by decide) (backOf (W := 1) (rm_ini l Z a0 hw [] b3  h3 n0 O3 ) hZ (hw _ (List.mem_of_getElem? (i := 10) rfl)) (hw _ (List.mem_of_getElem? (i := 7) rfl)) (by decide) (by decide)) (g := (mkF m 167 #[.val (.long ax), .second, .val (.int at_), .val (.int au), .val (.long ah), .second, .val (.long al), .second, .val (.long mz), .second, .val (.int tz), .val (.int uz), .val (.double xz), .second, .val (.long hz0), .second, .val (.long lz0), .second, .val (.int kz), .val (.long ((mz.toUInt64 >>> (((63 : Int32) - kz) &&& 0x3f).toInt64.toUInt64).toInt64)), .second, .val (.long ((mz <<< (kz &&& 0x3f).toInt64) &&& (9223372036854775807 : Int64))), .second, .val (.long (lz0 + ((mz <<< (kz &&& 0x3f).toInt64) &&& (9223372036854775807 : Int64)))), .second, .val (.long ((lz0 + ((mz <<< (kz &&& 0x3f).toInt64) &&& (9223372036854775807 : Int64))) &&& (9223372036854775807 : Int64))), .second, .val (.long ((hz0 + ((mz.toUInt64 >>> (((63 : Int32) - kz) &&& 0x3f).toInt64.toUInt64).toInt64)) + (((lz0 + ((mz <<< (kz &&& 0x3f).toInt64) &&& (9223372036854775807 : Int64))).toUInt64 >>> ((63 : Int32) &&& 0x3f).toInt64.toUInt64).toInt64))), .second, .unset] [(.ref b3), (.ref b3)])) rfl (by rw [hml]; rfl) (Steps.refl _) (a := b3) (argsL := []) (rest := [(.ref b3)]) (lenOf pd_0 rfl) rfl (by show 2 * 0 + _ ≤ _; exact Nat.le_of_eq rfl) (hb hby at_167) (fun _ _ => ⟨rfl, e3, (by decide : 1 + 0 ≤ _), (by decide : 2 + 0 ≤ _)⟩)
      dsimp only [Pt.U, Pt.locs, Pt.cells, Pt.slots] at X6 l6 y6 z6 st6 hQ6
      subst y6 z6
      obtain ⟨rfl, N6q, e6⟩ := hQ6
      have N6 : Fr n0 L6 := by rw [l6]; exact Fr.app N0 N6q
      refine stt st6 ?_
      show Go p e below T6 (mkF m 170 #[.val (.long ax), .second, .val (.int at_), .val (.int au), .val (.long ah), .second, .val (.long al), .second, .val (.long mz), .second, .val (.int tz), .val (.int uz), .val (.double xz), .second, .val (.long hz0), .second, .val (.long lz0), .second, .val (.int kz), .val (.long ((mz.toUInt64 >>> (((63 : Int32) - kz) &&& 0x3f).toInt64.toUInt64).toInt64)), .second, .val (.long ((mz <<< (kz &&& 0x3f).toInt64) &&& (9223372036854775807 : Int64))), .second, .val (.long (lz0 + ((mz <<< (kz &&& 0x3f).toInt64) &&& (9223372036854775807 : Int64)))), .second, .val (.long ((lz0 + ((mz <<< (kz &&& 0x3f).toInt64) &&& (9223372036854775807 : Int64))) &&& (9223372036854775807 : Int64))), .second, .val (.long ((hz0 + ((mz.toUInt64 >>> (((63 : Int32) - kz) &&& 0x3f).toInt64.toUInt64).toInt64)) + (((lz0 + ((mz <<< (kz &&& 0x3f).toInt64) &&& (9223372036854775807 : Int64))).toUInt64 >>> ((63 : Int32) &&& 0x3f).toInt64.toUInt64).toInt64))), .second, .unset] [(.ref b3)]) _
      refine stp (fun _ => XS.astore X6.here hx rfl (hb hby at_170) rfl rfl (l' := #[.val (.long ax), .second, .val (.int at_), .val (.int au), .val (.long ah), .second, .val (.long al), .second, .val (.long mz), .second, .val (.int tz), .val (.int uz), .val (.double xz), .second, .val (.long hz0), .second, .val (.long lz0), .second, .val (.int kz), .val (.long ((mz.toUInt64 >>> (((63 : Int32) - kz) &&& 0x3f).toInt64.toUInt64).toInt64)), .second, .val (.long ((mz <<< (kz &&& 0x3f).toInt64) &&& (9223372036854775807 : Int64))), .second, .val (.long (lz0 + ((mz <<< (kz &&& 0x3f).toInt64) &&& (9223372036854775807 : Int64)))), .second, .val (.long ((lz0 + ((mz <<< (kz &&& 0x3f).toInt64) &&& (9223372036854775807 : Int64))) &&& (9223372036854775807 : Int64))), .second, .val (.long ((hz0 + ((mz.toUInt64 >>> (((63 : Int32) - kz) &&& 0x3f).toInt64.toUInt64).toInt64)) + (((lz0 + ((mz <<< (kz &&& 0x3f).toInt64) &&& (9223372036854775807 : Int64))).toUInt64 >>> ((63 : Int32) &&& 0x3f).toInt64.toUInt64).toInt64))), .second, .val (.ref b3)]) rfl) ?_
      show Go p e below T6 (mkF m 172 #[.val (.long ax), .second, .val (.int at_), .val (.int au), .val (.long ah), .second, .val (.long al), .second, .val (.long mz), .second, .val (.int tz), .val (.int uz), .val (.double xz), .second, .val (.long hz0), .second, .val (.long lz0), .second, .val (.int kz), .val (.long ((mz.toUInt64 >>> (((63 : Int32) - kz) &&& 0x3f).toInt64.toUInt64).toInt64)), .second, .val (.long ((mz <<< (kz &&& 0x3f).toInt64) &&& (9223372036854775807 : Int64))), .second, .val (.long (lz0 + ((mz <<< (kz &&& 0x3f).toInt64) &&& (9223372036854775807 : Int64)))), .second, .val (.long ((lz0 + ((mz <<< (kz &&& 0x3f).toInt64) &&& (9223372036854775807 : Int64))) &&& (9223372036854775807 : Int64))), .second, .val (.long ((hz0 + ((mz.toUInt64 >>> (((63 : Int32) - kz) &&& 0x3f).toInt64.toUInt64).toInt64)) + (((lz0 + ((mz <<< (kz &&& 0x3f).toInt64) &&& (9223372036854775807 : Int64))).toUInt64 >>> ((63 : Int32) &&& 0x3f).toInt64.toUInt64).toInt64))), .second, .val (.ref b3)] []) _
      refine stp (fun _ => XS.aload X6.here hx rfl (hb hby at_172) rfl rfl) ?_
      show Go p e below T6 (mkF m 174 #[.val (.long ax), .second, .val (.int at_), .val (.int au), .val (.long ah), .second, .val (.long al), .second, .val (.long mz), .second, .val (.int tz), .val (.int uz), .val (.double xz), .second, .val (.long hz0), .second, .val (.long lz0), .second, .val (.int kz), .val (.long ((mz.toUInt64 >>> (((63 : Int32) - kz) &&& 0x3f).toInt64.toUInt64).toInt64)), .second, .val (.long ((mz <<< (kz &&& 0x3f).toInt64) &&& (9223372036854775807 : Int64))), .second, .val (.long (lz0 + ((mz <<< (kz &&& 0x3f).toInt64) &&& (9223372036854775807 : Int64)))), .second, .val (.long ((lz0 + ((mz <<< (kz &&& 0x3f).toInt64) &&& (9223372036854775807 : Int64))) &&& (9223372036854775807 : Int64))), .second, .val (.long ((hz0 + ((mz.toUInt64 >>> (((63 : Int32) - kz) &&& 0x3f).toInt64.toUInt64).toInt64)) + (((lz0 + ((mz <<< (kz &&& 0x3f).toInt64) &&& (9223372036854775807 : Int64))).toUInt64 >>> ((63 : Int32) &&& 0x3f).toInt64.toUInt64).toInt64))), .second, .val (.ref b3)] [(.ref b3)]) _
      refine stp (fun _ => XS.lload X6.here hx rfl (hb hby at_174) rfl) ?_
      show Go p e below T6 (mkF m 176 #[.val (.long ax), .second, .val (.int at_), .val (.int au), .val (.long ah), .second, .val (.long al), .second, .val (.long mz), .second, .val (.int tz), .val (.int uz), .val (.double xz), .second, .val (.long hz0), .second, .val (.long lz0), .second, .val (.int kz), .val (.long ((mz.toUInt64 >>> (((63 : Int32) - kz) &&& 0x3f).toInt64.toUInt64).toInt64)), .second, .val (.long ((mz <<< (kz &&& 0x3f).toInt64) &&& (9223372036854775807 : Int64))), .second, .val (.long (lz0 + ((mz <<< (kz &&& 0x3f).toInt64) &&& (9223372036854775807 : Int64)))), .second, .val (.long ((lz0 + ((mz <<< (kz &&& 0x3f).toInt64) &&& (9223372036854775807 : Int64))) &&& (9223372036854775807 : Int64))), .second, .val (.long ((hz0 + ((mz.toUInt64 >>> (((63 : Int32) - kz) &&& 0x3f).toInt64.toUInt64).toInt64)) + (((lz0 + ((mz <<< (kz &&& 0x3f).toInt64) &&& (9223372036854775807 : Int64))).toUInt64 >>> ((63 : Int32) &&& 0x3f).toInt64.toUInt64).toInt64))), .second, .val (.ref b3)] [(.long hz0), (.ref b3)]) _
      refine stp (fun _ => XS.lload X6.here hx rfl (hb hby at_176) rfl) ?_
      show Go p e below T6 (mkF m 178 #[.val (.long ax), .second, .val (.int at_), .val (.int au), .val (.long ah), .second, .val (.long al), .second, .val (.long mz), .second, .val (.int tz), .val (.int uz), .val (.double xz), .second, .val (.long hz0), .second, .val (.long lz0), .second, .val (.int kz), .val (.long ((mz.toUInt64 >>> (((63 : Int32) - kz) &&& 0x3f).toInt64.toUInt64).toInt64)), .second, .val (.long ((mz <<< (kz &&& 0x3f).toInt64) &&& (9223372036854775807 : Int64))), .second, .val (.long (lz0 + ((mz <<< (kz &&& 0x3f).toInt64) &&& (9223372036854775807 : Int64)))), .second, .val (.long ((lz0 + ((mz <<< (kz &&& 0x3f).toInt64) &&& (9223372036854775807 : Int64))) &&& (9223372036854775807 : Int64))), .second, .val (.long ((hz0 + ((mz.toUInt64 >>> (((63 : Int32) - kz) &&& 0x3f).toInt64.toUInt64).toInt64)) + (((lz0 + ((mz <<< (kz &&& 0x3f).toInt64) &&& (9223372036854775807 : Int64))).toUInt64 >>> ((63 : Int32) &&& 0x3f).toInt64.toUInt64).toInt64))), .second, .val (.ref b3)] [(.long lz0), (.long hz0), (.ref b3)]) _
      obtain ⟨cq7, kq7, q7a, q7b, q7c⟩ := isOf hZ e6 A3
      obtain ⟨_, _, ⟨T7, L7, k7, n7⟩, -, X7, ⟨Lc7, hQ7, l7, y7, z7⟩, st7⟩ := X6.virtualBack hx (y := (⟨"com/example/heedful_rank/heedfulrank/solver/FixedPointSum", "resume", "(JJ)V"⟩ : MethodName)) (z := (⟨"com/example/heedful_rank/heedfulrank/solver/FixedPointSum", "resume", "(JJ)V"⟩ : MethodName)) hown (mvT hZ (hw _ (List.mem_of_getElem? (i := 14) rfl))) (mvT hZ (hw _ (List.mem_of_getElem? (i := 15) rfl))) (notFace_of_selects (args := #[]) (mvT hZ (hw _ (List.mem_of_getElem? (i := 17) rfl)))) (mvT hZ (hw _ (List.mem_of_getElem? (i := 17) rfl))) (mvT hZ (hw _ (List.mem_of_getElem? (i := 16) rfl))) (by decide) (backOf (W := 0) (rm_res l Z a0 hw [] b3 hz0 lz0  h3 n0 O3 A3 F4 F5 ge_b3) hZ (hw _ (List.mem_of_getElem? (i := 18) rfl)) (hw _ (List.mem_of_getElem? (i := 7) rfl)) (by decide) (by decide)) q7a q7c (g := (mkF m 178 #[.val (.long ax), .second, .val (.int at_), .val (.int au), .val (.long ah), .second, .val (.long al), .second, .val (.long mz), .second, .val (.int tz), .val (.int uz), .val (.double xz), .second, .val (.long hz0), .second, .val (.long lz0), .second, .val (.int kz), .val (.long ((mz.toUInt64 >>> (((63 : Int32) - kz) &&& 0x3f).toInt64.toUInt64).toInt64)), .second, .val (.long ((mz <<< (kz &&& 0x3f).toInt64) &&& (9223372036854775807 : Int64))), .second, .val (.long (lz0 + ((mz <<< (kz &&& 0x3f).toInt64) &&& (9223372036854775807 : Int64)))), .second, .val (.long ((lz0 + ((mz <<< (kz &&& 0x3f).toInt64) &&& (9223372036854775807 : Int64))) &&& (9223372036854775807 : Int64))), .second, .val (.long ((hz0 + ((mz.toUInt64 >>> (((63 : Int32) - kz) &&& 0x3f).toInt64.toUInt64).toInt64)) + (((lz0 + ((mz <<< (kz &&& 0x3f).toInt64) &&& (9223372036854775807 : Int64))).toUInt64 >>> ((63 : Int32) &&& 0x3f).toInt64.toUInt64).toInt64))), .second, .val (.ref b3)] [(.long lz0), (.long hz0), (.ref b3)])) rfl (by rw [hml]; rfl) (Steps.refl _) (argsL := [(.long hz0), (.long lz0)]) (rest := []) (lenOf pd_1 rfl) rfl (by show 2 * 0 + _ ≤ _; exact Nat.le_of_eq rfl) (hb hby at_178) (fun _ _ => ⟨rfl, e6, (by decide : 1 + 0 ≤ _), (by decide : 2 + 0 ≤ _)⟩)
      dsimp only [Pt.U, Pt.locs, Pt.cells, Pt.slots] at X7 l7 y7 z7 st7 hQ7
      subst y7 z7
      obtain ⟨rfl, N7q, K7q, r7_0, r7_1, r7_2⟩ := hQ7
      have N7 : Fr n0 L7 := by rw [l7]; exact Fr.app N6 N7q
      have f8 := A3.keep K7q
      have K7 : Keep h0 T7.heap [] := K3.trans K7q (allS (Or.inr sz_b3) all0)
      have O7 := O3.keep K7q (allS ge_b3 all0)
      refine stt st7 ?_
      show Go p e below T7 (mkF m 181 #[.val (.long ax), .second, .val (.int at_), .val (.int au), .val (.long ah), .second, .val (.long al), .second, .val (.long mz), .second, .val (.int tz), .val (.int uz), .val (.double xz), .second, .val (.long hz0), .second, .val (.long lz0), .second, .val (.int kz), .val (.long ((mz.toUInt64 >>> (((63 : Int32) - kz) &&& 0x3f).toInt64.toUInt64).toInt64)), .second, .val (.long ((mz <<< (kz &&& 0x3f).toInt64) &&& (9223372036854775807 : Int64))), .second, .val (.long (lz0 + ((mz <<< (kz &&& 0x3f).toInt64) &&& (9223372036854775807 : Int64)))), .second, .val (.long ((lz0 + ((mz <<< (kz &&& 0x3f).toInt64) &&& (9223372036854775807 : Int64))) &&& (9223372036854775807 : Int64))), .second, .val (.long ((hz0 + ((mz.toUInt64 >>> (((63 : Int32) - kz) &&& 0x3f).toInt64.toUInt64).toInt64)) + (((lz0 + ((mz <<< (kz &&& 0x3f).toInt64) &&& (9223372036854775807 : Int64))).toUInt64 >>> ((63 : Int32) &&& 0x3f).toInt64.toUInt64).toInt64))), .second, .val (.ref b3)] []) _
      refine stp (fun _ => XS.aload X7.here hx rfl (hb hby at_181) rfl rfl) ?_
      show Go p e below T7 (mkF m 183 #[.val (.long ax), .second, .val (.int at_), .val (.int au), .val (.long ah), .second, .val (.long al), .second, .val (.long mz), .second, .val (.int tz), .val (.int uz), .val (.double xz), .second, .val (.long hz0), .second, .val (.long lz0), .second, .val (.int kz), .val (.long ((mz.toUInt64 >>> (((63 : Int32) - kz) &&& 0x3f).toInt64.toUInt64).toInt64)), .second, .val (.long ((mz <<< (kz &&& 0x3f).toInt64) &&& (9223372036854775807 : Int64))), .second, .val (.long (lz0 + ((mz <<< (kz &&& 0x3f).toInt64) &&& (9223372036854775807 : Int64)))), .second, .val (.long ((lz0 + ((mz <<< (kz &&& 0x3f).toInt64) &&& (9223372036854775807 : Int64))) &&& (9223372036854775807 : Int64))), .second, .val (.long ((hz0 + ((mz.toUInt64 >>> (((63 : Int32) - kz) &&& 0x3f).toInt64.toUInt64).toInt64)) + (((lz0 + ((mz <<< (kz &&& 0x3f).toInt64) &&& (9223372036854775807 : Int64))).toUInt64 >>> ((63 : Int32) &&& 0x3f).toInt64.toUInt64).toInt64))), .second, .val (.ref b3)] [(.ref b3)]) _
      refine stp (fun _ => XS.dload X7.here hx rfl (hb hby at_183) rfl) ?_
      show Go p e below T7 (mkF m 185 #[.val (.long ax), .second, .val (.int at_), .val (.int au), .val (.long ah), .second, .val (.long al), .second, .val (.long mz), .second, .val (.int tz), .val (.int uz), .val (.double xz), .second, .val (.long hz0), .second, .val (.long lz0), .second, .val (.int kz), .val (.long ((mz.toUInt64 >>> (((63 : Int32) - kz) &&& 0x3f).toInt64.toUInt64).toInt64)), .second, .val (.long ((mz <<< (kz &&& 0x3f).toInt64) &&& (9223372036854775807 : Int64))), .second, .val (.long (lz0 + ((mz <<< (kz &&& 0x3f).toInt64) &&& (9223372036854775807 : Int64)))), .second, .val (.long ((lz0 + ((mz <<< (kz &&& 0x3f).toInt64) &&& (9223372036854775807 : Int64))) &&& (9223372036854775807 : Int64))), .second, .val (.long ((hz0 + ((mz.toUInt64 >>> (((63 : Int32) - kz) &&& 0x3f).toInt64.toUInt64).toInt64)) + (((lz0 + ((mz <<< (kz &&& 0x3f).toInt64) &&& (9223372036854775807 : Int64))).toUInt64 >>> ((63 : Int32) &&& 0x3f).toInt64.toUInt64).toInt64))), .second, .val (.ref b3)] [(.double xz), (.ref b3)]) _
      obtain ⟨cq9, kq9, q9a, q9b, q9c⟩ := isOf hZ rfl r7_0
      obtain ⟨_, _, ⟨T9, L9, k9, n9⟩, -, X9, ⟨Lc9, hQ9, l9, y9, z9⟩, st9⟩ := X7.virtualBack hx (y := (⟨"com/example/heedful_rank/heedfulrank/solver/FixedPointSum", "add", "(D)V"⟩ : MethodName)) (z := (⟨"com/example/heedful_rank/heedfulrank/solver/FixedPointSum", "add", "(D)V"⟩ : MethodName)) hown (mvT hZ (hw _ (List.mem_of_getElem? (i := 23) rfl))) (mvT hZ (hw _ (List.mem_of_getElem? (i := 24) rfl))) (notFace_of_selects (args := #[]) (mvT hZ (hw _ (List.mem_of_getElem? (i := 26) rfl)))) (mvT hZ (hw _ (List.mem_of_getElem? (i := 26) rfl))) (mvT hZ (hw _ (List.mem_of_getElem? (i := 25) rfl))) (by decide) (backOf (W := 0) (rm_add l Z a0 hw [] b3 xz hz0 lz0 T7.heap n0 O7 r7_0 r7_1 r7_2 ge_b3 (own_ge0 hok) (own_lt2 hok) (own_parts hok).1 (own_parts hok).2.1 (own_parts hok).2.2.1 (own_parts hok).2.2.2.1 (own_high hok hA1 hA2)) hZ (hw _ (List.mem_of_getElem? (i := 27) rfl)) (hw _ (List.mem_of_getElem? (i := 7) rfl)) (by decide) (by decide)) q9a q9c (g := (mkF m 185 #[.val (.long ax), .second, .val (.int at_), .val (.int au), .val (.long ah), .second, .val (.long al), .second, .val (.long mz), .second, .val (.int tz), .val (.int uz), .val (.double xz), .second, .val (.long hz0), .second, .val (.long lz0), .second, .val (.int kz), .val (.long ((mz.toUInt64 >>> (((63 : Int32) - kz) &&& 0x3f).toInt64.toUInt64).toInt64)), .second, .val (.long ((mz <<< (kz &&& 0x3f).toInt64) &&& (9223372036854775807 : Int64))), .second, .val (.long (lz0 + ((mz <<< (kz &&& 0x3f).toInt64) &&& (9223372036854775807 : Int64)))), .second, .val (.long ((lz0 + ((mz <<< (kz &&& 0x3f).toInt64) &&& (9223372036854775807 : Int64))) &&& (9223372036854775807 : Int64))), .second, .val (.long ((hz0 + ((mz.toUInt64 >>> (((63 : Int32) - kz) &&& 0x3f).toInt64.toUInt64).toInt64)) + (((lz0 + ((mz <<< (kz &&& 0x3f).toInt64) &&& (9223372036854775807 : Int64))).toUInt64 >>> ((63 : Int32) &&& 0x3f).toInt64.toUInt64).toInt64))), .second, .val (.ref b3)] [(.double xz), (.ref b3)])) rfl (by rw [hml]; rfl) (Steps.refl _) (argsL := [(.double xz)]) (rest := []) (lenOf pd_2 rfl) rfl (by show 2 * 0 + _ ≤ _; exact Nat.le_of_eq rfl) (hb hby at_185) (fun _ _ => ⟨rfl, rfl, (by decide : 1 + 0 ≤ _), (by decide : 2 + 0 ≤ _)⟩)
      dsimp only [Pt.U, Pt.locs, Pt.cells, Pt.slots] at X9 l9 y9 z9 st9 hQ9
      subst y9 z9
      obtain ⟨rfl, N9q, K9q, r9_0, r9_1, r9_2⟩ := hQ9
      have N9 : Fr n0 L9 := by rw [l9]; exact Fr.app N7 N9q
      have f10 := r7_0.keep K9q
      have K9 : Keep h0 T9.heap [] := K7.trans K9q (allS (Or.inr sz_b3) all0)
      have O9 := O7.keep K9q (allS ge_b3 all0)
      refine stt st9 ?_
      show Go p e below T9 (mkF m 188 #[.val (.long ax), .second, .val (.int at_), .val (.int au), .val (.long ah), .second, .val (.long al), .second, .val (.long mz), .second, .val (.int tz), .val (.int uz), .val (.double xz), .second, .val (.long hz0), .second, .val (.long lz0), .second, .val (.int kz), .val (.long ((mz.toUInt64 >>> (((63 : Int32) - kz) &&& 0x3f).toInt64.toUInt64).toInt64)), .second, .val (.long ((mz <<< (kz &&& 0x3f).toInt64) &&& (9223372036854775807 : Int64))), .second, .val (.long (lz0 + ((mz <<< (kz &&& 0x3f).toInt64) &&& (9223372036854775807 : Int64)))), .second, .val (.long ((lz0 + ((mz <<< (kz &&& 0x3f).toInt64) &&& (9223372036854775807 : Int64))) &&& (9223372036854775807 : Int64))), .second, .val (.long ((hz0 + ((mz.toUInt64 >>> (((63 : Int32) - kz) &&& 0x3f).toInt64.toUInt64).toInt64)) + (((lz0 + ((mz <<< (kz &&& 0x3f).toInt64) &&& (9223372036854775807 : Int64))).toUInt64 >>> ((63 : Int32) &&& 0x3f).toInt64.toUInt64).toInt64))), .second, .val (.ref b3)] []) _
      refine stp (fun _ => XS.aload X9.here hx rfl (hb hby at_188) rfl rfl) ?_
      show Go p e below T9 (mkF m 190 #[.val (.long ax), .second, .val (.int at_), .val (.int au), .val (.long ah), .second, .val (.long al), .second, .val (.long mz), .second, .val (.int tz), .val (.int uz), .val (.double xz), .second, .val (.long hz0), .second, .val (.long lz0), .second, .val (.int kz), .val (.long ((mz.toUInt64 >>> (((63 : Int32) - kz) &&& 0x3f).toInt64.toUInt64).toInt64)), .second, .val (.long ((mz <<< (kz &&& 0x3f).toInt64) &&& (9223372036854775807 : Int64))), .second, .val (.long (lz0 + ((mz <<< (kz &&& 0x3f).toInt64) &&& (9223372036854775807 : Int64)))), .second, .val (.long ((lz0 + ((mz <<< (kz &&& 0x3f).toInt64) &&& (9223372036854775807 : Int64))) &&& (9223372036854775807 : Int64))), .second, .val (.long ((hz0 + ((mz.toUInt64 >>> (((63 : Int32) - kz) &&& 0x3f).toInt64.toUInt64).toInt64)) + (((lz0 + ((mz <<< (kz &&& 0x3f).toInt64) &&& (9223372036854775807 : Int64))).toUInt64 >>> ((63 : Int32) &&& 0x3f).toInt64.toUInt64).toInt64))), .second, .val (.ref b3)] [(.ref b3)]) _
      obtain ⟨cq11, kq11, q11a, q11b, q11c⟩ := isOf hZ rfl r9_0
      obtain ⟨_, _, ⟨T11, L11, k11, n11⟩, -, X11, ⟨Lc11, hQ11, l11, y11, z11⟩, st11⟩ := X9.virtualBack hx (y := (⟨"com/example/heedful_rank/heedfulrank/solver/FixedPointSum", "high", "()J"⟩ : MethodName)) (z := (⟨"com/example/heedful_rank/heedfulrank/solver/FixedPointSum", "high", "()J"⟩ : MethodName)) hown (mvT hZ (hw _ (List.mem_of_getElem? (i := 33) rfl))) (mvT hZ (hw _ (List.mem_of_getElem? (i := 34) rfl))) (notFace_of_selects (args := #[]) (mvT hZ (hw _ (List.mem_of_getElem? (i := 36) rfl)))) (mvT hZ (hw _ (List.mem_of_getElem? (i := 36) rfl))) (mvT hZ (hw _ (List.mem_of_getElem? (i := 35) rfl))) (by decide) (backOf (W := 0) (rm_hi l Z a0 hw [] b3 (hz0 + ((own_H xz) + (((lz0 + (own_L xz)).toUInt64 >>> ((63 : Int32) &&& 0x3f).toInt64.toUInt64).toInt64))) T9.heap n0 O9 r9_1) hZ (hw _ (List.mem_of_getElem? (i := 37) rfl)) (hw _ (List.mem_of_getElem? (i := 7) rfl)) (by decide) (by decide)) q11a q11c (g := (mkF m 190 #[.val (.long ax), .second, .val (.int at_), .val (.int au), .val (.long ah), .second, .val (.long al), .second, .val (.long mz), .second, .val (.int tz), .val (.int uz), .val (.double xz), .second, .val (.long hz0), .second, .val (.long lz0), .second, .val (.int kz), .val (.long ((mz.toUInt64 >>> (((63 : Int32) - kz) &&& 0x3f).toInt64.toUInt64).toInt64)), .second, .val (.long ((mz <<< (kz &&& 0x3f).toInt64) &&& (9223372036854775807 : Int64))), .second, .val (.long (lz0 + ((mz <<< (kz &&& 0x3f).toInt64) &&& (9223372036854775807 : Int64)))), .second, .val (.long ((lz0 + ((mz <<< (kz &&& 0x3f).toInt64) &&& (9223372036854775807 : Int64))) &&& (9223372036854775807 : Int64))), .second, .val (.long ((hz0 + ((mz.toUInt64 >>> (((63 : Int32) - kz) &&& 0x3f).toInt64.toUInt64).toInt64)) + (((lz0 + ((mz <<< (kz &&& 0x3f).toInt64) &&& (9223372036854775807 : Int64))).toUInt64 >>> ((63 : Int32) &&& 0x3f).toInt64.toUInt64).toInt64))), .second, .val (.ref b3)] [(.ref b3)])) rfl (by rw [hml]; rfl) (Steps.refl _) (argsL := []) (rest := []) (lenOf pd_3 rfl) rfl (by show 2 * 0 + _ ≤ _; exact Nat.le_of_eq rfl) (hb hby at_190) (fun _ _ => ⟨rfl, rfl, (by decide : 1 + 0 ≤ _), (by decide : 2 + 0 ≤ _)⟩)
      dsimp only [Pt.U, Pt.locs, Pt.cells, Pt.slots] at X11 l11 y11 z11 st11 hQ11
      subst y11 z11
      obtain ⟨rfl, N11q, e11⟩ := hQ11
      have N11 : Fr n0 L11 := by rw [l11]; exact Fr.app N9 N11q
      refine stt st11 ?_
      show Go p e below T11 (mkF m 193 #[.val (.long ax), .second, .val (.int at_), .val (.int au), .val (.long ah), .second, .val (.long al), .second, .val (.long mz), .second, .val (.int tz), .val (.int uz), .val (.double xz), .second, .val (.long hz0), .second, .val (.long lz0), .second, .val (.int kz), .val (.long ((mz.toUInt64 >>> (((63 : Int32) - kz) &&& 0x3f).toInt64.toUInt64).toInt64)), .second, .val (.long ((mz <<< (kz &&& 0x3f).toInt64) &&& (9223372036854775807 : Int64))), .second, .val (.long (lz0 + ((mz <<< (kz &&& 0x3f).toInt64) &&& (9223372036854775807 : Int64)))), .second, .val (.long ((lz0 + ((mz <<< (kz &&& 0x3f).toInt64) &&& (9223372036854775807 : Int64))) &&& (9223372036854775807 : Int64))), .second, .val (.long ((hz0 + ((mz.toUInt64 >>> (((63 : Int32) - kz) &&& 0x3f).toInt64.toUInt64).toInt64)) + (((lz0 + ((mz <<< (kz &&& 0x3f).toInt64) &&& (9223372036854775807 : Int64))).toUInt64 >>> ((63 : Int32) &&& 0x3f).toInt64.toUInt64).toInt64))), .second, .val (.ref b3)] [(.long (hz0 + ((own_H xz) + (((lz0 + (own_L xz)).toUInt64 >>> ((63 : Int32) &&& 0x3f).toInt64.toUInt64).toInt64))))]) _
      refine stp (fun _ => XS.lload X11.here hx rfl (hb hby at_193) rfl) ?_
      show Go p e below T11 (mkF m 195 #[.val (.long ax), .second, .val (.int at_), .val (.int au), .val (.long ah), .second, .val (.long al), .second, .val (.long mz), .second, .val (.int tz), .val (.int uz), .val (.double xz), .second, .val (.long hz0), .second, .val (.long lz0), .second, .val (.int kz), .val (.long ((mz.toUInt64 >>> (((63 : Int32) - kz) &&& 0x3f).toInt64.toUInt64).toInt64)), .second, .val (.long ((mz <<< (kz &&& 0x3f).toInt64) &&& (9223372036854775807 : Int64))), .second, .val (.long (lz0 + ((mz <<< (kz &&& 0x3f).toInt64) &&& (9223372036854775807 : Int64)))), .second, .val (.long ((lz0 + ((mz <<< (kz &&& 0x3f).toInt64) &&& (9223372036854775807 : Int64))) &&& (9223372036854775807 : Int64))), .second, .val (.long ((hz0 + ((mz.toUInt64 >>> (((63 : Int32) - kz) &&& 0x3f).toInt64.toUInt64).toInt64)) + (((lz0 + ((mz <<< (kz &&& 0x3f).toInt64) &&& (9223372036854775807 : Int64))).toUInt64 >>> ((63 : Int32) &&& 0x3f).toInt64.toUInt64).toInt64))), .second, .val (.ref b3)] [(.long ((hz0 + ((mz.toUInt64 >>> (((63 : Int32) - kz) &&& 0x3f).toInt64.toUInt64).toInt64)) + (((lz0 + ((mz <<< (kz &&& 0x3f).toInt64) &&& (9223372036854775807 : Int64))).toUInt64 >>> ((63 : Int32) &&& 0x3f).toInt64.toUInt64).toInt64))), (.long (hz0 + ((own_H xz) + (((lz0 + (own_L xz)).toUInt64 >>> ((63 : Int32) &&& 0x3f).toInt64.toUInt64).toInt64))))]) _
      refine stp (fun _ => XS.lcmp X11.here hx rfl (hb hby at_195) rfl) ?_
      show Go p e below T11 (mkF m 196 #[.val (.long ax), .second, .val (.int at_), .val (.int au), .val (.long ah), .second, .val (.long al), .second, .val (.long mz), .second, .val (.int tz), .val (.int uz), .val (.double xz), .second, .val (.long hz0), .second, .val (.long lz0), .second, .val (.int kz), .val (.long ((mz.toUInt64 >>> (((63 : Int32) - kz) &&& 0x3f).toInt64.toUInt64).toInt64)), .second, .val (.long ((mz <<< (kz &&& 0x3f).toInt64) &&& (9223372036854775807 : Int64))), .second, .val (.long (lz0 + ((mz <<< (kz &&& 0x3f).toInt64) &&& (9223372036854775807 : Int64)))), .second, .val (.long ((lz0 + ((mz <<< (kz &&& 0x3f).toInt64) &&& (9223372036854775807 : Int64))) &&& (9223372036854775807 : Int64))), .second, .val (.long ((hz0 + ((mz.toUInt64 >>> (((63 : Int32) - kz) &&& 0x3f).toInt64.toUInt64).toInt64)) + (((lz0 + ((mz <<< (kz &&& 0x3f).toInt64) &&& (9223372036854775807 : Int64))).toUInt64 >>> ((63 : Int32) &&& 0x3f).toInt64.toUInt64).toInt64))), .second, .val (.ref b3)] [(.int (lcmpW (hz0 + ((own_H xz) + (((lz0 + (own_L xz)).toUInt64 >>> ((63 : Int32) &&& 0x3f).toInt64.toUInt64).toInt64))) ((hz0 + ((mz.toUInt64 >>> (((63 : Int32) - kz) &&& 0x3f).toInt64.toUInt64).toInt64)) + (((lz0 + ((mz <<< (kz &&& 0x3f).toInt64) &&& (9223372036854775807 : Int64))).toUInt64 >>> ((63 : Int32) &&& 0x3f).toInt64.toUInt64).toInt64))))]) _
      refine stp (fun _ => XS.ifNo X11.here hx rfl (hb hby at_196) rfl (XT.ll_ne_f (by rw [(own_Bb hok q74_1 q95_2).1, (own_Bb hok q74_1 q95_2).2]; exact (Int64.add_assoc _ _ _).symm))) ?_
      show Go p e below T11 (mkF m 199 #[.val (.long ax), .second, .val (.int at_), .val (.int au), .val (.long ah), .second, .val (.long al), .second, .val (.long mz), .second, .val (.int tz), .val (.int uz), .val (.double xz), .second, .val (.long hz0), .second, .val (.long lz0), .second, .val (.int kz), .val (.long ((mz.toUInt64 >>> (((63 : Int32) - kz) &&& 0x3f).toInt64.toUInt64).toInt64)), .second, .val (.long ((mz <<< (kz &&& 0x3f).toInt64) &&& (9223372036854775807 : Int64))), .second, .val (.long (lz0 + ((mz <<< (kz &&& 0x3f).toInt64) &&& (9223372036854775807 : Int64)))), .second, .val (.long ((lz0 + ((mz <<< (kz &&& 0x3f).toInt64) &&& (9223372036854775807 : Int64))) &&& (9223372036854775807 : Int64))), .second, .val (.long ((hz0 + ((mz.toUInt64 >>> (((63 : Int32) - kz) &&& 0x3f).toInt64.toUInt64).toInt64)) + (((lz0 + ((mz <<< (kz &&& 0x3f).toInt64) &&& (9223372036854775807 : Int64))).toUInt64 >>> ((63 : Int32) &&& 0x3f).toInt64.toUInt64).toInt64))), .second, .val (.ref b3)] []) _
      refine stp (fun _ => XS.aload X11.here hx rfl (hb hby at_199) rfl rfl) ?_
      show Go p e below T11 (mkF m 201 #[.val (.long ax), .second, .val (.int at_), .val (.int au), .val (.long ah), .second, .val (.long al), .second, .val (.long mz), .second, .val (.int tz), .val (.int uz), .val (.double xz), .second, .val (.long hz0), .second, .val (.long lz0), .second, .val (.int kz), .val (.long ((mz.toUInt64 >>> (((63 : Int32) - kz) &&& 0x3f).toInt64.toUInt64).toInt64)), .second, .val (.long ((mz <<< (kz &&& 0x3f).toInt64) &&& (9223372036854775807 : Int64))), .second, .val (.long (lz0 + ((mz <<< (kz &&& 0x3f).toInt64) &&& (9223372036854775807 : Int64)))), .second, .val (.long ((lz0 + ((mz <<< (kz &&& 0x3f).toInt64) &&& (9223372036854775807 : Int64))) &&& (9223372036854775807 : Int64))), .second, .val (.long ((hz0 + ((mz.toUInt64 >>> (((63 : Int32) - kz) &&& 0x3f).toInt64.toUInt64).toInt64)) + (((lz0 + ((mz <<< (kz &&& 0x3f).toInt64) &&& (9223372036854775807 : Int64))).toUInt64 >>> ((63 : Int32) &&& 0x3f).toInt64.toUInt64).toInt64))), .second, .val (.ref b3)] [(.ref b3)]) _
      obtain ⟨cq12, kq12, q12a, q12b, q12c⟩ := isOf hZ e11 r9_0
      obtain ⟨_, _, ⟨T12, L12, k12, n12⟩, -, X12, ⟨Lc12, hQ12, l12, y12, z12⟩, st12⟩ := X11.virtualBack hx (y := (⟨"com/example/heedful_rank/heedfulrank/solver/FixedPointSum", "low", "()J"⟩ : MethodName)) (z := (⟨"com/example/heedful_rank/heedfulrank/solver/FixedPointSum", "low", "()J"⟩ : MethodName)) hown (mvT hZ (hw _ (List.mem_of_getElem? (i := 38) rfl))) (mvT hZ (hw _ (List.mem_of_getElem? (i := 39) rfl))) (notFace_of_selects (args := #[]) (mvT hZ (hw _ (List.mem_of_getElem? (i := 41) rfl)))) (mvT hZ (hw _ (List.mem_of_getElem? (i := 41) rfl))) (mvT hZ (hw _ (List.mem_of_getElem? (i := 40) rfl))) (by decide) (backOf (W := 0) (rm_lo l Z a0 hw [] b3 ((lz0 + (own_L xz)) &&& (9223372036854775807 : Int64)) T9.heap n0 O9 r9_2) hZ (hw _ (List.mem_of_getElem? (i := 42) rfl)) (hw _ (List.mem_of_getElem? (i := 7) rfl)) (by decide) (by decide)) q12a q12c (g := (mkF m 201 #[.val (.long ax), .second, .val (.int at_), .val (.int au), .val (.long ah), .second, .val (.long al), .second, .val (.long mz), .second, .val (.int tz), .val (.int uz), .val (.double xz), .second, .val (.long hz0), .second, .val (.long lz0), .second, .val (.int kz), .val (.long ((mz.toUInt64 >>> (((63 : Int32) - kz) &&& 0x3f).toInt64.toUInt64).toInt64)), .second, .val (.long ((mz <<< (kz &&& 0x3f).toInt64) &&& (9223372036854775807 : Int64))), .second, .val (.long (lz0 + ((mz <<< (kz &&& 0x3f).toInt64) &&& (9223372036854775807 : Int64)))), .second, .val (.long ((lz0 + ((mz <<< (kz &&& 0x3f).toInt64) &&& (9223372036854775807 : Int64))) &&& (9223372036854775807 : Int64))), .second, .val (.long ((hz0 + ((mz.toUInt64 >>> (((63 : Int32) - kz) &&& 0x3f).toInt64.toUInt64).toInt64)) + (((lz0 + ((mz <<< (kz &&& 0x3f).toInt64) &&& (9223372036854775807 : Int64))).toUInt64 >>> ((63 : Int32) &&& 0x3f).toInt64.toUInt64).toInt64))), .second, .val (.ref b3)] [(.ref b3)])) rfl (by rw [hml]; rfl) (Steps.refl _) (argsL := []) (rest := []) (lenOf pd_3 rfl) rfl (by show 2 * 0 + _ ≤ _; exact Nat.le_of_eq rfl) (hb hby at_201) (fun _ _ => ⟨rfl, e11, (by decide : 1 + 0 ≤ _), (by decide : 2 + 0 ≤ _)⟩)
      dsimp only [Pt.U, Pt.locs, Pt.cells, Pt.slots] at X12 l12 y12 z12 st12 hQ12
      subst y12 z12
      obtain ⟨rfl, N12q, e12⟩ := hQ12
      have N12 : Fr n0 L12 := by rw [l12]; exact Fr.app N11 N12q
      refine stt st12 ?_
      show Go p e below T12 (mkF m 204 #[.val (.long ax), .second, .val (.int at_), .val (.int au), .val (.long ah), .second, .val (.long al), .second, .val (.long mz), .second, .val (.int tz), .val (.int uz), .val (.double xz), .second, .val (.long hz0), .second, .val (.long lz0), .second, .val (.int kz), .val (.long ((mz.toUInt64 >>> (((63 : Int32) - kz) &&& 0x3f).toInt64.toUInt64).toInt64)), .second, .val (.long ((mz <<< (kz &&& 0x3f).toInt64) &&& (9223372036854775807 : Int64))), .second, .val (.long (lz0 + ((mz <<< (kz &&& 0x3f).toInt64) &&& (9223372036854775807 : Int64)))), .second, .val (.long ((lz0 + ((mz <<< (kz &&& 0x3f).toInt64) &&& (9223372036854775807 : Int64))) &&& (9223372036854775807 : Int64))), .second, .val (.long ((hz0 + ((mz.toUInt64 >>> (((63 : Int32) - kz) &&& 0x3f).toInt64.toUInt64).toInt64)) + (((lz0 + ((mz <<< (kz &&& 0x3f).toInt64) &&& (9223372036854775807 : Int64))).toUInt64 >>> ((63 : Int32) &&& 0x3f).toInt64.toUInt64).toInt64))), .second, .val (.ref b3)] [(.long ((lz0 + (own_L xz)) &&& (9223372036854775807 : Int64)))]) _
      refine stp (fun _ => XS.lload X12.here hx rfl (hb hby at_204) rfl) ?_
      show Go p e below T12 (mkF m 206 #[.val (.long ax), .second, .val (.int at_), .val (.int au), .val (.long ah), .second, .val (.long al), .second, .val (.long mz), .second, .val (.int tz), .val (.int uz), .val (.double xz), .second, .val (.long hz0), .second, .val (.long lz0), .second, .val (.int kz), .val (.long ((mz.toUInt64 >>> (((63 : Int32) - kz) &&& 0x3f).toInt64.toUInt64).toInt64)), .second, .val (.long ((mz <<< (kz &&& 0x3f).toInt64) &&& (9223372036854775807 : Int64))), .second, .val (.long (lz0 + ((mz <<< (kz &&& 0x3f).toInt64) &&& (9223372036854775807 : Int64)))), .second, .val (.long ((lz0 + ((mz <<< (kz &&& 0x3f).toInt64) &&& (9223372036854775807 : Int64))) &&& (9223372036854775807 : Int64))), .second, .val (.long ((hz0 + ((mz.toUInt64 >>> (((63 : Int32) - kz) &&& 0x3f).toInt64.toUInt64).toInt64)) + (((lz0 + ((mz <<< (kz &&& 0x3f).toInt64) &&& (9223372036854775807 : Int64))).toUInt64 >>> ((63 : Int32) &&& 0x3f).toInt64.toUInt64).toInt64))), .second, .val (.ref b3)] [(.long ((lz0 + ((mz <<< (kz &&& 0x3f).toInt64) &&& (9223372036854775807 : Int64))) &&& (9223372036854775807 : Int64))), (.long ((lz0 + (own_L xz)) &&& (9223372036854775807 : Int64)))]) _
      refine stp (fun _ => XS.lcmp X12.here hx rfl (hb hby at_206) rfl) ?_
      show Go p e below T12 (mkF m 207 #[.val (.long ax), .second, .val (.int at_), .val (.int au), .val (.long ah), .second, .val (.long al), .second, .val (.long mz), .second, .val (.int tz), .val (.int uz), .val (.double xz), .second, .val (.long hz0), .second, .val (.long lz0), .second, .val (.int kz), .val (.long ((mz.toUInt64 >>> (((63 : Int32) - kz) &&& 0x3f).toInt64.toUInt64).toInt64)), .second, .val (.long ((mz <<< (kz &&& 0x3f).toInt64) &&& (9223372036854775807 : Int64))), .second, .val (.long (lz0 + ((mz <<< (kz &&& 0x3f).toInt64) &&& (9223372036854775807 : Int64)))), .second, .val (.long ((lz0 + ((mz <<< (kz &&& 0x3f).toInt64) &&& (9223372036854775807 : Int64))) &&& (9223372036854775807 : Int64))), .second, .val (.long ((hz0 + ((mz.toUInt64 >>> (((63 : Int32) - kz) &&& 0x3f).toInt64.toUInt64).toInt64)) + (((lz0 + ((mz <<< (kz &&& 0x3f).toInt64) &&& (9223372036854775807 : Int64))).toUInt64 >>> ((63 : Int32) &&& 0x3f).toInt64.toUInt64).toInt64))), .second, .val (.ref b3)] [(.int (lcmpW ((lz0 + (own_L xz)) &&& (9223372036854775807 : Int64)) ((lz0 + ((mz <<< (kz &&& 0x3f).toInt64) &&& (9223372036854775807 : Int64))) &&& (9223372036854775807 : Int64))))]) _
      refine stp (fun _ => XS.ifNo X12.here hx rfl (hb hby at_207) rfl (XT.ll_ne_f (by rw [(own_Bb hok q74_1 q95_2).2]))) ?_
      show Go p e below T12 (mkF m 210 #[.val (.long ax), .second, .val (.int at_), .val (.int au), .val (.long ah), .second, .val (.long al), .second, .val (.long mz), .second, .val (.int tz), .val (.int uz), .val (.double xz), .second, .val (.long hz0), .second, .val (.long lz0), .second, .val (.int kz), .val (.long ((mz.toUInt64 >>> (((63 : Int32) - kz) &&& 0x3f).toInt64.toUInt64).toInt64)), .second, .val (.long ((mz <<< (kz &&& 0x3f).toInt64) &&& (9223372036854775807 : Int64))), .second, .val (.long (lz0 + ((mz <<< (kz &&& 0x3f).toInt64) &&& (9223372036854775807 : Int64)))), .second, .val (.long ((lz0 + ((mz <<< (kz &&& 0x3f).toInt64) &&& (9223372036854775807 : Int64))) &&& (9223372036854775807 : Int64))), .second, .val (.long ((hz0 + ((mz.toUInt64 >>> (((63 : Int32) - kz) &&& 0x3f).toInt64.toUInt64).toInt64)) + (((lz0 + ((mz <<< (kz &&& 0x3f).toInt64) &&& (9223372036854775807 : Int64))).toUInt64 >>> ((63 : Int32) &&& 0x3f).toInt64.toUInt64).toInt64))), .second, .val (.ref b3)] []) _
      refine stp (fun _ => XS.iconst X12.here hx rfl (hb hby at_210)) ?_
      show Go p e below T12 (mkF m 211 #[.val (.long ax), .second, .val (.int at_), .val (.int au), .val (.long ah), .second, .val (.long al), .second, .val (.long mz), .second, .val (.int tz), .val (.int uz), .val (.double xz), .second, .val (.long hz0), .second, .val (.long lz0), .second, .val (.int kz), .val (.long ((mz.toUInt64 >>> (((63 : Int32) - kz) &&& 0x3f).toInt64.toUInt64).toInt64)), .second, .val (.long ((mz <<< (kz &&& 0x3f).toInt64) &&& (9223372036854775807 : Int64))), .second, .val (.long (lz0 + ((mz <<< (kz &&& 0x3f).toInt64) &&& (9223372036854775807 : Int64)))), .second, .val (.long ((lz0 + ((mz <<< (kz &&& 0x3f).toInt64) &&& (9223372036854775807 : Int64))) &&& (9223372036854775807 : Int64))), .second, .val (.long ((hz0 + ((mz.toUInt64 >>> (((63 : Int32) - kz) &&& 0x3f).toInt64.toUInt64).toInt64)) + (((lz0 + ((mz <<< (kz &&& 0x3f).toInt64) &&& (9223372036854775807 : Int64))).toUInt64 >>> ((63 : Int32) &&& 0x3f).toInt64.toUInt64).toInt64))), .second, .val (.ref b3)] [(.int (1 : Int32))]) _
      refine stp (fun _ => XS.goto X12.here hx rfl (pc0 := 211) (pc' := 215) rfl (hb hby at_211) (by decide) (by decide)) ?_
      show Go p e below T12 (mkF m 215 #[.val (.long ax), .second, .val (.int at_), .val (.int au), .val (.long ah), .second, .val (.long al), .second, .val (.long mz), .second, .val (.int tz), .val (.int uz), .val (.double xz), .second, .val (.long hz0), .second, .val (.long lz0), .second, .val (.int kz), .val (.long ((mz.toUInt64 >>> (((63 : Int32) - kz) &&& 0x3f).toInt64.toUInt64).toInt64)), .second, .val (.long ((mz <<< (kz &&& 0x3f).toInt64) &&& (9223372036854775807 : Int64))), .second, .val (.long (lz0 + ((mz <<< (kz &&& 0x3f).toInt64) &&& (9223372036854775807 : Int64)))), .second, .val (.long ((lz0 + ((mz <<< (kz &&& 0x3f).toInt64) &&& (9223372036854775807 : Int64))) &&& (9223372036854775807 : Int64))), .second, .val (.long ((hz0 + ((mz.toUInt64 >>> (((63 : Int32) - kz) &&& 0x3f).toInt64.toUInt64).toInt64)) + (((lz0 + ((mz <<< (kz &&& 0x3f).toInt64) &&& (9223372036854775807 : Int64))).toUInt64 >>> ((63 : Int32) &&& 0x3f).toInt64.toUInt64).toInt64))), .second, .val (.ref b3)] [(.int (1 : Int32))]) _
      refine outN X12 hx (t := .boolean) hret (by simp) (hb hby at_215) hlk (by decide) (by decide) ?_
      exact ⟨rfl, N12⟩
    · refine stp (fun _ => XS.icmpYes X0.here hx rfl (pc0 := 95) (pc' := 122) rfl (hb hby at_95) rfl (XT.ii_ge_t q95_2) (by decide) (by decide)) ?_
      show Go p e below T0 (mkF m 122 #[.val (.long ax), .second, .val (.int at_), .val (.int au), .val (.long ah), .second, .val (.long al), .second, .val (.long mz), .second, .val (.int tz), .val (.int uz), .val (.double xz), .second, .val (.long hz0), .second, .val (.long lz0), .second, .val (.int kz), .unset, .unset, .unset, .unset, .unset, .unset, .unset, .unset, .unset, .unset, .unset] []) _
      refine stp (fun _ => XS.lload X0.here hx rfl (hb hby at_122) rfl) ?_
      show Go p e below T0 (mkF m 124 #[.val (.long ax), .second, .val (.int at_), .val (.int au), .val (.long ah), .second, .val (.long al), .second, .val (.long mz), .second, .val (.int tz), .val (.int uz), .val (.double xz), .second, .val (.long hz0), .second, .val (.long lz0), .second, .val (.int kz), .unset, .unset, .unset, .unset, .unset, .unset, .unset, .unset, .unset, .unset, .unset] [(.long mz)]) _
      refine stp (fun _ => XS.iload X0.here hx rfl (hb hby at_124) rfl) ?_
      show Go p e below T0 (mkF m 126 #[.val (.long ax), .second, .val (.int at_), .val (.int au), .val (.long ah), .second, .val (.long al), .second, .val (.long mz), .second, .val (.int tz), .val (.int uz), .val (.double xz), .second, .val (.long hz0), .second, .val (.long lz0), .second, .val (.int kz), .unset, .unset, .unset, .unset, .unset, .unset, .unset, .unset, .unset, .unset, .unset] [(.int kz), (.long mz)]) _
      refine stp (fun _ => XS.bipush X0.here hx rfl (hb hby at_126)) ?_
      show Go p e below T0 (mkF m 128 #[.val (.long ax), .second, .val (.int at_), .val (.int au), .val (.long ah), .second, .val (.long al), .second, .val (.long mz), .second, .val (.int tz), .val (.int uz), .val (.double xz), .second, .val (.long hz0), .second, .val (.long lz0), .second, .val (.int kz), .unset, .unset, .unset, .unset, .unset, .unset, .unset, .unset, .unset, .unset, .unset] [(.int (63 : Int32)), (.int kz), (.long mz)]) _
      refine stp (fun _ => XS.isub X0.here hx rfl (hb hby at_128) rfl) ?_
      show Go p e below T0 (mkF m 129 #[.val (.long ax), .second, .val (.int at_), .val (.int au), .val (.long ah), .second, .val (.long al), .second, .val (.long mz), .second, .val (.int tz), .val (.int uz), .val (.double xz), .second, .val (.long hz0), .second, .val (.long lz0), .second, .val (.int kz), .unset, .unset, .unset, .unset, .unset, .unset, .unset, .unset, .unset, .unset, .unset] [(.int (kz - (63 : Int32))), (.long mz)]) _
      refine stp (fun _ => XS.lshl X0.here hx rfl (hb hby at_129) rfl) ?_
      show Go p e below T0 (mkF m 130 #[.val (.long ax), .second, .val (.int at_), .val (.int au), .val (.long ah), .second, .val (.long al), .second, .val (.long mz), .second, .val (.int tz), .val (.int uz), .val (.double xz), .second, .val (.long hz0), .second, .val (.long lz0), .second, .val (.int kz), .unset, .unset, .unset, .unset, .unset, .unset, .unset, .unset, .unset, .unset, .unset] [(.long (mz <<< ((kz - (63 : Int32)) &&& 0x3f).toInt64))]) _
      refine stp (fun _ => XS.lstore X0.here hx rfl (hb hby at_130) rfl (l' := #[.val (.long ax), .second, .val (.int at_), .val (.int au), .val (.long ah), .second, .val (.long al), .second, .val (.long mz), .second, .val (.int tz), .val (.int uz), .val (.double xz), .second, .val (.long hz0), .second, .val (.long lz0), .second, .val (.int kz), .val (.long (mz <<< ((kz - (63 : Int32)) &&& 0x3f).toInt64)), .second, .unset, .unset, .unset, .unset, .unset, .unset, .unset, .unset, .unset]) rfl) ?_
      show Go p e below T0 (mkF m 132 #[.val (.long ax), .second, .val (.int at_), .val (.int au), .val (.long ah), .second, .val (.long al), .second, .val (.long mz), .second, .val (.int tz), .val (.int uz), .val (.double xz), .second, .val (.long hz0), .second, .val (.long lz0), .second, .val (.int kz), .val (.long (mz <<< ((kz - (63 : Int32)) &&& 0x3f).toInt64)), .second, .unset, .unset, .unset, .unset, .unset, .unset, .unset, .unset, .unset] []) _
      refine stp (fun _ => XS.lconst X0.here hx rfl (hb hby at_132)) ?_
      show Go p e below T0 (mkF m 133 #[.val (.long ax), .second, .val (.int at_), .val (.int au), .val (.long ah), .second, .val (.long al), .second, .val (.long mz), .second, .val (.int tz), .val (.int uz), .val (.double xz), .second, .val (.long hz0), .second, .val (.long lz0), .second, .val (.int kz), .val (.long (mz <<< ((kz - (63 : Int32)) &&& 0x3f).toInt64)), .second, .unset, .unset, .unset, .unset, .unset, .unset, .unset, .unset, .unset] [(.long (0 : Int64))]) _
      refine stp (fun _ => XS.lstore X0.here hx rfl (hb hby at_133) rfl (l' := #[.val (.long ax), .second, .val (.int at_), .val (.int au), .val (.long ah), .second, .val (.long al), .second, .val (.long mz), .second, .val (.int tz), .val (.int uz), .val (.double xz), .second, .val (.long hz0), .second, .val (.long lz0), .second, .val (.int kz), .val (.long (mz <<< ((kz - (63 : Int32)) &&& 0x3f).toInt64)), .second, .val (.long (0 : Int64)), .second, .unset, .unset, .unset, .unset, .unset, .unset, .unset]) rfl) ?_
      show Go p e below T0 (mkF m 135 #[.val (.long ax), .second, .val (.int at_), .val (.int au), .val (.long ah), .second, .val (.long al), .second, .val (.long mz), .second, .val (.int tz), .val (.int uz), .val (.double xz), .second, .val (.long hz0), .second, .val (.long lz0), .second, .val (.int kz), .val (.long (mz <<< ((kz - (63 : Int32)) &&& 0x3f).toInt64)), .second, .val (.long (0 : Int64)), .second, .unset, .unset, .unset, .unset, .unset, .unset, .unset] []) _
      refine stp (fun _ => XS.lload X0.here hx rfl (hb hby at_135) rfl) ?_
      show Go p e below T0 (mkF m 137 #[.val (.long ax), .second, .val (.int at_), .val (.int au), .val (.long ah), .second, .val (.long al), .second, .val (.long mz), .second, .val (.int tz), .val (.int uz), .val (.double xz), .second, .val (.long hz0), .second, .val (.long lz0), .second, .val (.int kz), .val (.long (mz <<< ((kz - (63 : Int32)) &&& 0x3f).toInt64)), .second, .val (.long (0 : Int64)), .second, .unset, .unset, .unset, .unset, .unset, .unset, .unset] [(.long lz0)]) _
      refine stp (fun _ => XS.lload X0.here hx rfl (hb hby at_137) rfl) ?_
      show Go p e below T0 (mkF m 139 #[.val (.long ax), .second, .val (.int at_), .val (.int au), .val (.long ah), .second, .val (.long al), .second, .val (.long mz), .second, .val (.int tz), .val (.int uz), .val (.double xz), .second, .val (.long hz0), .second, .val (.long lz0), .second, .val (.int kz), .val (.long (mz <<< ((kz - (63 : Int32)) &&& 0x3f).toInt64)), .second, .val (.long (0 : Int64)), .second, .unset, .unset, .unset, .unset, .unset, .unset, .unset] [(.long (0 : Int64)), (.long lz0)]) _
      refine stp (fun _ => XS.ladd X0.here hx rfl (hb hby at_139) rfl) ?_
      show Go p e below T0 (mkF m 140 #[.val (.long ax), .second, .val (.int at_), .val (.int au), .val (.long ah), .second, .val (.long al), .second, .val (.long mz), .second, .val (.int tz), .val (.int uz), .val (.double xz), .second, .val (.long hz0), .second, .val (.long lz0), .second, .val (.int kz), .val (.long (mz <<< ((kz - (63 : Int32)) &&& 0x3f).toInt64)), .second, .val (.long (0 : Int64)), .second, .unset, .unset, .unset, .unset, .unset, .unset, .unset] [(.long (lz0 + (0 : Int64)))]) _
      refine stp (fun _ => XS.lstore X0.here hx rfl (hb hby at_140) rfl (l' := #[.val (.long ax), .second, .val (.int at_), .val (.int au), .val (.long ah), .second, .val (.long al), .second, .val (.long mz), .second, .val (.int tz), .val (.int uz), .val (.double xz), .second, .val (.long hz0), .second, .val (.long lz0), .second, .val (.int kz), .val (.long (mz <<< ((kz - (63 : Int32)) &&& 0x3f).toInt64)), .second, .val (.long (0 : Int64)), .second, .val (.long (lz0 + (0 : Int64))), .second, .unset, .unset, .unset, .unset, .unset]) rfl) ?_
      show Go p e below T0 (mkF m 142 #[.val (.long ax), .second, .val (.int at_), .val (.int au), .val (.long ah), .second, .val (.long al), .second, .val (.long mz), .second, .val (.int tz), .val (.int uz), .val (.double xz), .second, .val (.long hz0), .second, .val (.long lz0), .second, .val (.int kz), .val (.long (mz <<< ((kz - (63 : Int32)) &&& 0x3f).toInt64)), .second, .val (.long (0 : Int64)), .second, .val (.long (lz0 + (0 : Int64))), .second, .unset, .unset, .unset, .unset, .unset] []) _
      refine stp (fun _ => XS.lload X0.here hx rfl (hb hby at_142) rfl) ?_
      show Go p e below T0 (mkF m 144 #[.val (.long ax), .second, .val (.int at_), .val (.int au), .val (.long ah), .second, .val (.long al), .second, .val (.long mz), .second, .val (.int tz), .val (.int uz), .val (.double xz), .second, .val (.long hz0), .second, .val (.long lz0), .second, .val (.int kz), .val (.long (mz <<< ((kz - (63 : Int32)) &&& 0x3f).toInt64)), .second, .val (.long (0 : Int64)), .second, .val (.long (lz0 + (0 : Int64))), .second, .unset, .unset, .unset, .unset, .unset] [(.long (lz0 + (0 : Int64)))]) _
      refine stp (fun _ => X0.ldc2Long hx hown (mvT hZ (hw _ (List.mem_of_getElem? (i := 4) rfl))) (g := (mkF m 144 #[.val (.long ax), .second, .val (.int at_), .val (.int au), .val (.long ah), .second, .val (.long al), .second, .val (.long mz), .second, .val (.int tz), .val (.int uz), .val (.double xz), .second, .val (.long hz0), .second, .val (.long lz0), .second, .val (.int kz), .val (.long (mz <<< ((kz - (63 : Int32)) &&& 0x3f).toInt64)), .second, .val (.long (0 : Int64)), .second, .val (.long (lz0 + (0 : Int64))), .second, .unset, .unset, .unset, .unset, .unset] [(.long (lz0 + (0 : Int64)))])) rfl (hb hby at_144) _) ?_
      show Go p e below T0 (mkF m 147 #[.val (.long ax), .second, .val (.int at_), .val (.int au), .val (.long ah), .second, .val (.long al), .second, .val (.long mz), .second, .val (.int tz), .val (.int uz), .val (.double xz), .second, .val (.long hz0), .second, .val (.long lz0), .second, .val (.int kz), .val (.long (mz <<< ((kz - (63 : Int32)) &&& 0x3f).toInt64)), .second, .val (.long (0 : Int64)), .second, .val (.long (lz0 + (0 : Int64))), .second, .unset, .unset, .unset, .unset, .unset] [(.long (9223372036854775807 : Int64)), (.long (lz0 + (0 : Int64)))]) _
      refine stp (fun _ => XS.land X0.here hx rfl (hb hby at_147) rfl) ?_
      show Go p e below T0 (mkF m 148 #[.val (.long ax), .second, .val (.int at_), .val (.int au), .val (.long ah), .second, .val (.long al), .second, .val (.long mz), .second, .val (.int tz), .val (.int uz), .val (.double xz), .second, .val (.long hz0), .second, .val (.long lz0), .second, .val (.int kz), .val (.long (mz <<< ((kz - (63 : Int32)) &&& 0x3f).toInt64)), .second, .val (.long (0 : Int64)), .second, .val (.long (lz0 + (0 : Int64))), .second, .unset, .unset, .unset, .unset, .unset] [(.long ((lz0 + (0 : Int64)) &&& (9223372036854775807 : Int64)))]) _
      refine stp (fun _ => XS.lstore X0.here hx rfl (hb hby at_148) rfl (l' := #[.val (.long ax), .second, .val (.int at_), .val (.int au), .val (.long ah), .second, .val (.long al), .second, .val (.long mz), .second, .val (.int tz), .val (.int uz), .val (.double xz), .second, .val (.long hz0), .second, .val (.long lz0), .second, .val (.int kz), .val (.long (mz <<< ((kz - (63 : Int32)) &&& 0x3f).toInt64)), .second, .val (.long (0 : Int64)), .second, .val (.long (lz0 + (0 : Int64))), .second, .val (.long ((lz0 + (0 : Int64)) &&& (9223372036854775807 : Int64))), .second, .unset, .unset, .unset]) rfl) ?_
      show Go p e below T0 (mkF m 150 #[.val (.long ax), .second, .val (.int at_), .val (.int au), .val (.long ah), .second, .val (.long al), .second, .val (.long mz), .second, .val (.int tz), .val (.int uz), .val (.double xz), .second, .val (.long hz0), .second, .val (.long lz0), .second, .val (.int kz), .val (.long (mz <<< ((kz - (63 : Int32)) &&& 0x3f).toInt64)), .second, .val (.long (0 : Int64)), .second, .val (.long (lz0 + (0 : Int64))), .second, .val (.long ((lz0 + (0 : Int64)) &&& (9223372036854775807 : Int64))), .second, .unset, .unset, .unset] []) _
      refine stp (fun _ => XS.lload X0.here hx rfl (hb hby at_150) rfl) ?_
      show Go p e below T0 (mkF m 152 #[.val (.long ax), .second, .val (.int at_), .val (.int au), .val (.long ah), .second, .val (.long al), .second, .val (.long mz), .second, .val (.int tz), .val (.int uz), .val (.double xz), .second, .val (.long hz0), .second, .val (.long lz0), .second, .val (.int kz), .val (.long (mz <<< ((kz - (63 : Int32)) &&& 0x3f).toInt64)), .second, .val (.long (0 : Int64)), .second, .val (.long (lz0 + (0 : Int64))), .second, .val (.long ((lz0 + (0 : Int64)) &&& (9223372036854775807 : Int64))), .second, .unset, .unset, .unset] [(.long hz0)]) _
      refine stp (fun _ => XS.lload X0.here hx rfl (hb hby at_152) rfl) ?_
      show Go p e below T0 (mkF m 154 #[.val (.long ax), .second, .val (.int at_), .val (.int au), .val (.long ah), .second, .val (.long al), .second, .val (.long mz), .second, .val (.int tz), .val (.int uz), .val (.double xz), .second, .val (.long hz0), .second, .val (.long lz0), .second, .val (.int kz), .val (.long (mz <<< ((kz - (63 : Int32)) &&& 0x3f).toInt64)), .second, .val (.long (0 : Int64)), .second, .val (.long (lz0 + (0 : Int64))), .second, .val (.long ((lz0 + (0 : Int64)) &&& (9223372036854775807 : Int64))), .second, .unset, .unset, .unset] [(.long (mz <<< ((kz - (63 : Int32)) &&& 0x3f).toInt64)), (.long hz0)]) _
      refine stp (fun _ => XS.ladd X0.here hx rfl (hb hby at_154) rfl) ?_
      show Go p e below T0 (mkF m 155 #[.val (.long ax), .second, .val (.int at_), .val (.int au), .val (.long ah), .second, .val (.long al), .second, .val (.long mz), .second, .val (.int tz), .val (.int uz), .val (.double xz), .second, .val (.long hz0), .second, .val (.long lz0), .second, .val (.int kz), .val (.long (mz <<< ((kz - (63 : Int32)) &&& 0x3f).toInt64)), .second, .val (.long (0 : Int64)), .second, .val (.long (lz0 + (0 : Int64))), .second, .val (.long ((lz0 + (0 : Int64)) &&& (9223372036854775807 : Int64))), .second, .unset, .unset, .unset] [(.long (hz0 + (mz <<< ((kz - (63 : Int32)) &&& 0x3f).toInt64)))]) _
      refine stp (fun _ => XS.lload X0.here hx rfl (hb hby at_155) rfl) ?_
      show Go p e below T0 (mkF m 157 #[.val (.long ax), .second, .val (.int at_), .val (.int au), .val (.long ah), .second, .val (.long al), .second, .val (.long mz), .second, .val (.int tz), .val (.int uz), .val (.double xz), .second, .val (.long hz0), .second, .val (.long lz0), .second, .val (.int kz), .val (.long (mz <<< ((kz - (63 : Int32)) &&& 0x3f).toInt64)), .second, .val (.long (0 : Int64)), .second, .val (.long (lz0 + (0 : Int64))), .second, .val (.long ((lz0 + (0 : Int64)) &&& (9223372036854775807 : Int64))), .second, .unset, .unset, .unset] [(.long (lz0 + (0 : Int64))), (.long (hz0 + (mz <<< ((kz - (63 : Int32)) &&& 0x3f).toInt64)))]) _
      refine stp (fun _ => XS.bipush X0.here hx rfl (hb hby at_157)) ?_
      show Go p e below T0 (mkF m 159 #[.val (.long ax), .second, .val (.int at_), .val (.int au), .val (.long ah), .second, .val (.long al), .second, .val (.long mz), .second, .val (.int tz), .val (.int uz), .val (.double xz), .second, .val (.long hz0), .second, .val (.long lz0), .second, .val (.int kz), .val (.long (mz <<< ((kz - (63 : Int32)) &&& 0x3f).toInt64)), .second, .val (.long (0 : Int64)), .second, .val (.long (lz0 + (0 : Int64))), .second, .val (.long ((lz0 + (0 : Int64)) &&& (9223372036854775807 : Int64))), .second, .unset, .unset, .unset] [(.int (63 : Int32)), (.long (lz0 + (0 : Int64))), (.long (hz0 + (mz <<< ((kz - (63 : Int32)) &&& 0x3f).toInt64)))]) _
      refine stp (fun _ => XS.lushr X0.here hx rfl (hb hby at_159) rfl) ?_
      show Go p e below T0 (mkF m 160 #[.val (.long ax), .second, .val (.int at_), .val (.int au), .val (.long ah), .second, .val (.long al), .second, .val (.long mz), .second, .val (.int tz), .val (.int uz), .val (.double xz), .second, .val (.long hz0), .second, .val (.long lz0), .second, .val (.int kz), .val (.long (mz <<< ((kz - (63 : Int32)) &&& 0x3f).toInt64)), .second, .val (.long (0 : Int64)), .second, .val (.long (lz0 + (0 : Int64))), .second, .val (.long ((lz0 + (0 : Int64)) &&& (9223372036854775807 : Int64))), .second, .unset, .unset, .unset] [(.long (((lz0 + (0 : Int64)).toUInt64 >>> ((63 : Int32) &&& 0x3f).toInt64.toUInt64).toInt64)), (.long (hz0 + (mz <<< ((kz - (63 : Int32)) &&& 0x3f).toInt64)))]) _
      refine stp (fun _ => XS.ladd X0.here hx rfl (hb hby at_160) rfl) ?_
      show Go p e below T0 (mkF m 161 #[.val (.long ax), .second, .val (.int at_), .val (.int au), .val (.long ah), .second, .val (.long al), .second, .val (.long mz), .second, .val (.int tz), .val (.int uz), .val (.double xz), .second, .val (.long hz0), .second, .val (.long lz0), .second, .val (.int kz), .val (.long (mz <<< ((kz - (63 : Int32)) &&& 0x3f).toInt64)), .second, .val (.long (0 : Int64)), .second, .val (.long (lz0 + (0 : Int64))), .second, .val (.long ((lz0 + (0 : Int64)) &&& (9223372036854775807 : Int64))), .second, .unset, .unset, .unset] [(.long ((hz0 + (mz <<< ((kz - (63 : Int32)) &&& 0x3f).toInt64)) + (((lz0 + (0 : Int64)).toUInt64 >>> ((63 : Int32) &&& 0x3f).toInt64.toUInt64).toInt64)))]) _
      refine stp (fun _ => XS.lstore X0.here hx rfl (hb hby at_161) rfl (l' := #[.val (.long ax), .second, .val (.int at_), .val (.int au), .val (.long ah), .second, .val (.long al), .second, .val (.long mz), .second, .val (.int tz), .val (.int uz), .val (.double xz), .second, .val (.long hz0), .second, .val (.long lz0), .second, .val (.int kz), .val (.long (mz <<< ((kz - (63 : Int32)) &&& 0x3f).toInt64)), .second, .val (.long (0 : Int64)), .second, .val (.long (lz0 + (0 : Int64))), .second, .val (.long ((lz0 + (0 : Int64)) &&& (9223372036854775807 : Int64))), .second, .val (.long ((hz0 + (mz <<< ((kz - (63 : Int32)) &&& 0x3f).toInt64)) + (((lz0 + (0 : Int64)).toUInt64 >>> ((63 : Int32) &&& 0x3f).toInt64.toUInt64).toInt64))), .second, .unset]) rfl) ?_
      show Go p e below T0 (mkF m 163 #[.val (.long ax), .second, .val (.int at_), .val (.int au), .val (.long ah), .second, .val (.long al), .second, .val (.long mz), .second, .val (.int tz), .val (.int uz), .val (.double xz), .second, .val (.long hz0), .second, .val (.long lz0), .second, .val (.int kz), .val (.long (mz <<< ((kz - (63 : Int32)) &&& 0x3f).toInt64)), .second, .val (.long (0 : Int64)), .second, .val (.long (lz0 + (0 : Int64))), .second, .val (.long ((lz0 + (0 : Int64)) &&& (9223372036854775807 : Int64))), .second, .val (.long ((hz0 + (mz <<< ((kz - (63 : Int32)) &&& 0x3f).toInt64)) + (((lz0 + (0 : Int64)).toUInt64 >>> ((63 : Int32) &&& 0x3f).toInt64.toUInt64).toInt64))), .second, .unset] []) _
      obtain ⟨T13, h13, X13, e13, E13, A13, D13, -, st13⟩ := newO X0 hx hZ hown (hw _ (List.mem_of_getElem? (i := 5) rfl)) (hw _ (List.mem_of_getElem? (i := 6) rfl)) (hw _ (List.mem_of_getElem? (i := 7) rfl)) e0 (g := (mkF m 163 #[.val (.long ax), .second, .val (.int at_), .val (.int au), .val (.long ah), .second, .val (.long al), .second, .val (.long mz), .second, .val (.int tz), .val (.int uz), .val (.double xz), .second, .val (.long hz0), .second, .val (.long lz0), .second, .val (.int kz), .val (.long (mz <<< ((kz - (63 : Int32)) &&& 0x3f).toInt64)), .second, .val (.long (0 : Int64)), .second, .val (.long (lz0 + (0 : Int64))), .second, .val (.long ((lz0 + (0 : Int64)) &&& (9223372036854775807 : Int64))), .second, .val (.long ((hz0 + (mz <<< ((kz - (63 : Int32)) &&& 0x3f).toInt64)) + (((lz0 + (0 : Int64)).toUInt64 >>> ((63 : Int32) &&& 0x3f).toInt64.toUInt64).toInt64))), .second, .unset] [])) rfl (hb hby at_163) (by decide) (by decide)
      obtain ⟨b13, g13⟩ : ∃ z, z = h0.size := ⟨_, rfl⟩
      rw [← g13] at A13 D13 st13
      have sz_b13 : h0.size ≤ b13 := Nat.le_trans (Keep.refl h0 []).1 (Nat.le_of_eq g13.symm)
      have ge_b13 : n0 ≤ b13 := Nat.le_trans (old_le O0) (Nat.le_of_eq g13.symm)
      have K13 : Keep h0 h13 [] := (Keep.refl h0 []).ext E13
      have O13 := O0.ext E13
      have F14 : Fld Z h13 b13 "com/example/heedful_rank/heedfulrank/solver/FixedPointSum" "high" "J" (.long (0 : Int64)) := D13 (Or.inl (hw _ (List.mem_of_getElem? (i := 20) rfl))) (ty := .long) (by decide)
      have F15 : Fld Z h13 b13 "com/example/heedful_rank/heedfulrank/solver/FixedPointSum" "low" "J" (.long (0 : Int64)) := D13 (Or.inl (hw _ (List.mem_of_getElem? (i := 22) rfl))) (ty := .long) (by decide)
      refine stp st13 ?_
      show Go p e below T13 (mkF m 166 #[.val (.long ax), .second, .val (.int at_), .val (.int au), .val (.long ah), .second, .val (.long al), .second, .val (.long mz), .second, .val (.int tz), .val (.int uz), .val (.double xz), .second, .val (.long hz0), .second, .val (.long lz0), .second, .val (.int kz), .val (.long (mz <<< ((kz - (63 : Int32)) &&& 0x3f).toInt64)), .second, .val (.long (0 : Int64)), .second, .val (.long (lz0 + (0 : Int64))), .second, .val (.long ((lz0 + (0 : Int64)) &&& (9223372036854775807 : Int64))), .second, .val (.long ((hz0 + (mz <<< ((kz - (63 : Int32)) &&& 0x3f).toInt64)) + (((lz0 + (0 : Int64)).toUInt64 >>> ((63 : Int32) &&& 0x3f).toInt64.toUInt64).toInt64))), .second, .unset] [(.ref b13)]) _
      refine stp (fun _ => XS.dup X13.here hx rfl (hb hby at_166) rfl rfl) ?_
      show Go p e below T13 (mkF m 167 #[.val (.long ax), .second, .val (.int at_), .val (.int au), .val (.long ah), .second, .val (.long al), .second, .val (.long mz), .second, .val (.int tz), .val (.int uz), .val (.double xz), .second, .val (.long hz0), .second, .val (.long lz0), .second, .val (.int kz), .val (.long (mz <<< ((kz - (63 : Int32)) &&& 0x3f).toInt64)), .second, .val (.long (0 : Int64)), .second, .val (.long (lz0 + (0 : Int64))), .second, .val (.long ((lz0 + (0 : Int64)) &&& (9223372036854775807 : Int64))), .second, .val (.long ((hz0 + (mz <<< ((kz - (63 : Int32)) &&& 0x3f).toInt64)) + (((lz0 + (0 : Int64)).toUInt64 >>> ((63 : Int32) &&& 0x3f).toInt64.toUInt64).toInt64))), .second, .unset] [(.ref b13), (.ref b13)]) _
      obtain ⟨_, _, ⟨T16, L16, k16, n16⟩, -, X16, ⟨Lc16, hQ16, l16, y16, z16⟩, st16⟩ := X13.specialBack hx (y := (⟨"com/example/heedful_rank/heedfulrank/solver/FixedPointSum", "<init>", "()V"⟩ : MethodName)) rfl hown (mvT hZ (hw _ (List.mem_of_getElem? (i := 8) rfl))) (mvT hZ (hw _ (List.mem_of_getElem? (i := 9) rfl))) (mvT hZ (hw _ (List.mem_of_getElem? (i := 10) rfl))) (by decide) (backOf (W := 1) (rm_ini l Z a0 hw [] b13  h13 n0 O13 ) hZ (hw _ (List.mem_of_getElem? (i := 10) rfl)) (hw _ (List.mem_of_getElem? (i := 7) rfl)) (by decide) (by decide)) (g := (mkF m 167 #[.val (.long ax), .second, .val (.int at_), .val (.int au), .val (.long ah), .second, .val (.long al), .second, .val (.long mz), .second, .val (.int tz), .val (.int uz), .val (.double xz), .second, .val (.long hz0), .second, .val (.long lz0), .second, .val (.int kz), .val (.long (mz <<< ((kz - (63 : Int32)) &&& 0x3f).toInt64)), .second, .val (.long (0 : Int64)), .second, .val (.long (lz0 + (0 : Int64))), .second, .val (.long ((lz0 + (0 : Int64)) &&& (9223372036854775807 : Int64))), .second, .val (.long ((hz0 + (mz <<< ((kz - (63 : Int32)) &&& 0x3f).toInt64)) + (((lz0 + (0 : Int64)).toUInt64 >>> ((63 : Int32) &&& 0x3f).toInt64.toUInt64).toInt64))), .second, .unset] [(.ref b13), (.ref b13)])) rfl (by rw [hml]; rfl) (Steps.refl _) (a := b13) (argsL := []) (rest := [(.ref b13)]) (lenOf pd_0 rfl) rfl (by show 2 * 0 + _ ≤ _; exact Nat.le_of_eq rfl) (hb hby at_167) (fun _ _ => ⟨rfl, e13, (by decide : 1 + 0 ≤ _), (by decide : 2 + 0 ≤ _)⟩)
      dsimp only [Pt.U, Pt.locs, Pt.cells, Pt.slots] at X16 l16 y16 z16 st16 hQ16
      subst y16 z16
      obtain ⟨rfl, N16q, e16⟩ := hQ16
      have N16 : Fr n0 L16 := by rw [l16]; exact Fr.app N0 N16q
      refine stt st16 ?_
      show Go p e below T16 (mkF m 170 #[.val (.long ax), .second, .val (.int at_), .val (.int au), .val (.long ah), .second, .val (.long al), .second, .val (.long mz), .second, .val (.int tz), .val (.int uz), .val (.double xz), .second, .val (.long hz0), .second, .val (.long lz0), .second, .val (.int kz), .val (.long (mz <<< ((kz - (63 : Int32)) &&& 0x3f).toInt64)), .second, .val (.long (0 : Int64)), .second, .val (.long (lz0 + (0 : Int64))), .second, .val (.long ((lz0 + (0 : Int64)) &&& (9223372036854775807 : Int64))), .second, .val (.long ((hz0 + (mz <<< ((kz - (63 : Int32)) &&& 0x3f).toInt64)) + (((lz0 + (0 : Int64)).toUInt64 >>> ((63 : Int32) &&& 0x3f).toInt64.toUInt64).toInt64))), .second, .unset] [(.ref b13)]) _
      refine stp (fun _ => XS.astore X16.here hx rfl (hb hby at_170) rfl rfl (l' := #[.val (.long ax), .second, .val (.int at_), .val (.int au), .val (.long ah), .second, .val (.long al), .second, .val (.long mz), .second, .val (.int tz), .val (.int uz), .val (.double xz), .second, .val (.long hz0), .second, .val (.long lz0), .second, .val (.int kz), .val (.long (mz <<< ((kz - (63 : Int32)) &&& 0x3f).toInt64)), .second, .val (.long (0 : Int64)), .second, .val (.long (lz0 + (0 : Int64))), .second, .val (.long ((lz0 + (0 : Int64)) &&& (9223372036854775807 : Int64))), .second, .val (.long ((hz0 + (mz <<< ((kz - (63 : Int32)) &&& 0x3f).toInt64)) + (((lz0 + (0 : Int64)).toUInt64 >>> ((63 : Int32) &&& 0x3f).toInt64.toUInt64).toInt64))), .second, .val (.ref b13)]) rfl) ?_
      show Go p e below T16 (mkF m 172 #[.val (.long ax), .second, .val (.int at_), .val (.int au), .val (.long ah), .second, .val (.long al), .second, .val (.long mz), .second, .val (.int tz), .val (.int uz), .val (.double xz), .second, .val (.long hz0), .second, .val (.long lz0), .second, .val (.int kz), .val (.long (mz <<< ((kz - (63 : Int32)) &&& 0x3f).toInt64)), .second, .val (.long (0 : Int64)), .second, .val (.long (lz0 + (0 : Int64))), .second, .val (.long ((lz0 + (0 : Int64)) &&& (9223372036854775807 : Int64))), .second, .val (.long ((hz0 + (mz <<< ((kz - (63 : Int32)) &&& 0x3f).toInt64)) + (((lz0 + (0 : Int64)).toUInt64 >>> ((63 : Int32) &&& 0x3f).toInt64.toUInt64).toInt64))), .second, .val (.ref b13)] []) _
      refine stp (fun _ => XS.aload X16.here hx rfl (hb hby at_172) rfl rfl) ?_
      show Go p e below T16 (mkF m 174 #[.val (.long ax), .second, .val (.int at_), .val (.int au), .val (.long ah), .second, .val (.long al), .second, .val (.long mz), .second, .val (.int tz), .val (.int uz), .val (.double xz), .second, .val (.long hz0), .second, .val (.long lz0), .second, .val (.int kz), .val (.long (mz <<< ((kz - (63 : Int32)) &&& 0x3f).toInt64)), .second, .val (.long (0 : Int64)), .second, .val (.long (lz0 + (0 : Int64))), .second, .val (.long ((lz0 + (0 : Int64)) &&& (9223372036854775807 : Int64))), .second, .val (.long ((hz0 + (mz <<< ((kz - (63 : Int32)) &&& 0x3f).toInt64)) + (((lz0 + (0 : Int64)).toUInt64 >>> ((63 : Int32) &&& 0x3f).toInt64.toUInt64).toInt64))), .second, .val (.ref b13)] [(.ref b13)]) _
      refine stp (fun _ => XS.lload X16.here hx rfl (hb hby at_174) rfl) ?_
      show Go p e below T16 (mkF m 176 #[.val (.long ax), .second, .val (.int at_), .val (.int au), .val (.long ah), .second, .val (.long al), .second, .val (.long mz), .second, .val (.int tz), .val (.int uz), .val (.double xz), .second, .val (.long hz0), .second, .val (.long lz0), .second, .val (.int kz), .val (.long (mz <<< ((kz - (63 : Int32)) &&& 0x3f).toInt64)), .second, .val (.long (0 : Int64)), .second, .val (.long (lz0 + (0 : Int64))), .second, .val (.long ((lz0 + (0 : Int64)) &&& (9223372036854775807 : Int64))), .second, .val (.long ((hz0 + (mz <<< ((kz - (63 : Int32)) &&& 0x3f).toInt64)) + (((lz0 + (0 : Int64)).toUInt64 >>> ((63 : Int32) &&& 0x3f).toInt64.toUInt64).toInt64))), .second, .val (.ref b13)] [(.long hz0), (.ref b13)]) _
      refine stp (fun _ => XS.lload X16.here hx rfl (hb hby at_176) rfl) ?_
      show Go p e below T16 (mkF m 178 #[.val (.long ax), .second, .val (.int at_), .val (.int au), .val (.long ah), .second, .val (.long al), .second, .val (.long mz), .second, .val (.int tz), .val (.int uz), .val (.double xz), .second, .val (.long hz0), .second, .val (.long lz0), .second, .val (.int kz), .val (.long (mz <<< ((kz - (63 : Int32)) &&& 0x3f).toInt64)), .second, .val (.long (0 : Int64)), .second, .val (.long (lz0 + (0 : Int64))), .second, .val (.long ((lz0 + (0 : Int64)) &&& (9223372036854775807 : Int64))), .second, .val (.long ((hz0 + (mz <<< ((kz - (63 : Int32)) &&& 0x3f).toInt64)) + (((lz0 + (0 : Int64)).toUInt64 >>> ((63 : Int32) &&& 0x3f).toInt64.toUInt64).toInt64))), .second, .val (.ref b13)] [(.long lz0), (.long hz0), (.ref b13)]) _
      obtain ⟨cq17, kq17, q17a, q17b, q17c⟩ := isOf hZ e16 A13
      obtain ⟨_, _, ⟨T17, L17, k17, n17⟩, -, X17, ⟨Lc17, hQ17, l17, y17, z17⟩, st17⟩ := X16.virtualBack hx (y := (⟨"com/example/heedful_rank/heedfulrank/solver/FixedPointSum", "resume", "(JJ)V"⟩ : MethodName)) (z := (⟨"com/example/heedful_rank/heedfulrank/solver/FixedPointSum", "resume", "(JJ)V"⟩ : MethodName)) hown (mvT hZ (hw _ (List.mem_of_getElem? (i := 14) rfl))) (mvT hZ (hw _ (List.mem_of_getElem? (i := 15) rfl))) (notFace_of_selects (args := #[]) (mvT hZ (hw _ (List.mem_of_getElem? (i := 17) rfl)))) (mvT hZ (hw _ (List.mem_of_getElem? (i := 17) rfl))) (mvT hZ (hw _ (List.mem_of_getElem? (i := 16) rfl))) (by decide) (backOf (W := 0) (rm_res l Z a0 hw [] b13 hz0 lz0  h13 n0 O13 A13 F14 F15 ge_b13) hZ (hw _ (List.mem_of_getElem? (i := 18) rfl)) (hw _ (List.mem_of_getElem? (i := 7) rfl)) (by decide) (by decide)) q17a q17c (g := (mkF m 178 #[.val (.long ax), .second, .val (.int at_), .val (.int au), .val (.long ah), .second, .val (.long al), .second, .val (.long mz), .second, .val (.int tz), .val (.int uz), .val (.double xz), .second, .val (.long hz0), .second, .val (.long lz0), .second, .val (.int kz), .val (.long (mz <<< ((kz - (63 : Int32)) &&& 0x3f).toInt64)), .second, .val (.long (0 : Int64)), .second, .val (.long (lz0 + (0 : Int64))), .second, .val (.long ((lz0 + (0 : Int64)) &&& (9223372036854775807 : Int64))), .second, .val (.long ((hz0 + (mz <<< ((kz - (63 : Int32)) &&& 0x3f).toInt64)) + (((lz0 + (0 : Int64)).toUInt64 >>> ((63 : Int32) &&& 0x3f).toInt64.toUInt64).toInt64))), .second, .val (.ref b13)] [(.long lz0), (.long hz0), (.ref b13)])) rfl (by rw [hml]; rfl) (Steps.refl _) (argsL := [(.long hz0), (.long lz0)]) (rest := []) (lenOf pd_1 rfl) rfl (by show 2 * 0 + _ ≤ _; exact Nat.le_of_eq rfl) (hb hby at_178) (fun _ _ => ⟨rfl, e16, (by decide : 1 + 0 ≤ _), (by decide : 2 + 0 ≤ _)⟩)
      dsimp only [Pt.U, Pt.locs, Pt.cells, Pt.slots] at X17 l17 y17 z17 st17 hQ17
      subst y17 z17
      obtain ⟨rfl, N17q, K17q, r17_0, r17_1, r17_2⟩ := hQ17
      have N17 : Fr n0 L17 := by rw [l17]; exact Fr.app N16 N17q
      have f18 := A13.keep K17q
      have K17 : Keep h0 T17.heap [] := K13.trans K17q (allS (Or.inr sz_b13) all0)
      have O17 := O13.keep K17q (allS ge_b13 all0)
      refine stt st17 ?_
      show Go p e below T17 (mkF m 181 #[.val (.long ax), .second, .val (.int at_), .val (.int au), .val (.long ah), .second, .val (.long al), .second, .val (.long mz), .second, .val (.int tz), .val (.int uz), .val (.double xz), .second, .val (.long hz0), .second, .val (.long lz0), .second, .val (.int kz), .val (.long (mz <<< ((kz - (63 : Int32)) &&& 0x3f).toInt64)), .second, .val (.long (0 : Int64)), .second, .val (.long (lz0 + (0 : Int64))), .second, .val (.long ((lz0 + (0 : Int64)) &&& (9223372036854775807 : Int64))), .second, .val (.long ((hz0 + (mz <<< ((kz - (63 : Int32)) &&& 0x3f).toInt64)) + (((lz0 + (0 : Int64)).toUInt64 >>> ((63 : Int32) &&& 0x3f).toInt64.toUInt64).toInt64))), .second, .val (.ref b13)] []) _
      refine stp (fun _ => XS.aload X17.here hx rfl (hb hby at_181) rfl rfl) ?_
      show Go p e below T17 (mkF m 183 #[.val (.long ax), .second, .val (.int at_), .val (.int au), .val (.long ah), .second, .val (.long al), .second, .val (.long mz), .second, .val (.int tz), .val (.int uz), .val (.double xz), .second, .val (.long hz0), .second, .val (.long lz0), .second, .val (.int kz), .val (.long (mz <<< ((kz - (63 : Int32)) &&& 0x3f).toInt64)), .second, .val (.long (0 : Int64)), .second, .val (.long (lz0 + (0 : Int64))), .second, .val (.long ((lz0 + (0 : Int64)) &&& (9223372036854775807 : Int64))), .second, .val (.long ((hz0 + (mz <<< ((kz - (63 : Int32)) &&& 0x3f).toInt64)) + (((lz0 + (0 : Int64)).toUInt64 >>> ((63 : Int32) &&& 0x3f).toInt64.toUInt64).toInt64))), .second, .val (.ref b13)] [(.ref b13)]) _
      refine stp (fun _ => XS.dload X17.here hx rfl (hb hby at_183) rfl) ?_
      show Go p e below T17 (mkF m 185 #[.val (.long ax), .second, .val (.int at_), .val (.int au), .val (.long ah), .second, .val (.long al), .second, .val (.long mz), .second, .val (.int tz), .val (.int uz), .val (.double xz), .second, .val (.long hz0), .second, .val (.long lz0), .second, .val (.int kz), .val (.long (mz <<< ((kz - (63 : Int32)) &&& 0x3f).toInt64)), .second, .val (.long (0 : Int64)), .second, .val (.long (lz0 + (0 : Int64))), .second, .val (.long ((lz0 + (0 : Int64)) &&& (9223372036854775807 : Int64))), .second, .val (.long ((hz0 + (mz <<< ((kz - (63 : Int32)) &&& 0x3f).toInt64)) + (((lz0 + (0 : Int64)).toUInt64 >>> ((63 : Int32) &&& 0x3f).toInt64.toUInt64).toInt64))), .second, .val (.ref b13)] [(.double xz), (.ref b13)]) _
      obtain ⟨cq19, kq19, q19a, q19b, q19c⟩ := isOf hZ rfl r17_0
      obtain ⟨_, _, ⟨T19, L19, k19, n19⟩, -, X19, ⟨Lc19, hQ19, l19, y19, z19⟩, st19⟩ := X17.virtualBack hx (y := (⟨"com/example/heedful_rank/heedfulrank/solver/FixedPointSum", "add", "(D)V"⟩ : MethodName)) (z := (⟨"com/example/heedful_rank/heedfulrank/solver/FixedPointSum", "add", "(D)V"⟩ : MethodName)) hown (mvT hZ (hw _ (List.mem_of_getElem? (i := 23) rfl))) (mvT hZ (hw _ (List.mem_of_getElem? (i := 24) rfl))) (notFace_of_selects (args := #[]) (mvT hZ (hw _ (List.mem_of_getElem? (i := 26) rfl)))) (mvT hZ (hw _ (List.mem_of_getElem? (i := 26) rfl))) (mvT hZ (hw _ (List.mem_of_getElem? (i := 25) rfl))) (by decide) (backOf (W := 0) (rm_add l Z a0 hw [] b13 xz hz0 lz0 T17.heap n0 O17 r17_0 r17_1 r17_2 ge_b13 (own_ge0 hok) (own_lt2 hok) (own_parts hok).1 (own_parts hok).2.1 (own_parts hok).2.2.1 (own_parts hok).2.2.2.1 (own_high hok hA1 hA2)) hZ (hw _ (List.mem_of_getElem? (i := 27) rfl)) (hw _ (List.mem_of_getElem? (i := 7) rfl)) (by decide) (by decide)) q19a q19c (g := (mkF m 185 #[.val (.long ax), .second, .val (.int at_), .val (.int au), .val (.long ah), .second, .val (.long al), .second, .val (.long mz), .second, .val (.int tz), .val (.int uz), .val (.double xz), .second, .val (.long hz0), .second, .val (.long lz0), .second, .val (.int kz), .val (.long (mz <<< ((kz - (63 : Int32)) &&& 0x3f).toInt64)), .second, .val (.long (0 : Int64)), .second, .val (.long (lz0 + (0 : Int64))), .second, .val (.long ((lz0 + (0 : Int64)) &&& (9223372036854775807 : Int64))), .second, .val (.long ((hz0 + (mz <<< ((kz - (63 : Int32)) &&& 0x3f).toInt64)) + (((lz0 + (0 : Int64)).toUInt64 >>> ((63 : Int32) &&& 0x3f).toInt64.toUInt64).toInt64))), .second, .val (.ref b13)] [(.double xz), (.ref b13)])) rfl (by rw [hml]; rfl) (Steps.refl _) (argsL := [(.double xz)]) (rest := []) (lenOf pd_2 rfl) rfl (by show 2 * 0 + _ ≤ _; exact Nat.le_of_eq rfl) (hb hby at_185) (fun _ _ => ⟨rfl, rfl, (by decide : 1 + 0 ≤ _), (by decide : 2 + 0 ≤ _)⟩)
      dsimp only [Pt.U, Pt.locs, Pt.cells, Pt.slots] at X19 l19 y19 z19 st19 hQ19
      subst y19 z19
      obtain ⟨rfl, N19q, K19q, r19_0, r19_1, r19_2⟩ := hQ19
      have N19 : Fr n0 L19 := by rw [l19]; exact Fr.app N17 N19q
      have f20 := r17_0.keep K19q
      have K19 : Keep h0 T19.heap [] := K17.trans K19q (allS (Or.inr sz_b13) all0)
      have O19 := O17.keep K19q (allS ge_b13 all0)
      refine stt st19 ?_
      show Go p e below T19 (mkF m 188 #[.val (.long ax), .second, .val (.int at_), .val (.int au), .val (.long ah), .second, .val (.long al), .second, .val (.long mz), .second, .val (.int tz), .val (.int uz), .val (.double xz), .second, .val (.long hz0), .second, .val (.long lz0), .second, .val (.int kz), .val (.long (mz <<< ((kz - (63 : Int32)) &&& 0x3f).toInt64)), .second, .val (.long (0 : Int64)), .second, .val (.long (lz0 + (0 : Int64))), .second, .val (.long ((lz0 + (0 : Int64)) &&& (9223372036854775807 : Int64))), .second, .val (.long ((hz0 + (mz <<< ((kz - (63 : Int32)) &&& 0x3f).toInt64)) + (((lz0 + (0 : Int64)).toUInt64 >>> ((63 : Int32) &&& 0x3f).toInt64.toUInt64).toInt64))), .second, .val (.ref b13)] []) _
      refine stp (fun _ => XS.aload X19.here hx rfl (hb hby at_188) rfl rfl) ?_
      show Go p e below T19 (mkF m 190 #[.val (.long ax), .second, .val (.int at_), .val (.int au), .val (.long ah), .second, .val (.long al), .second, .val (.long mz), .second, .val (.int tz), .val (.int uz), .val (.double xz), .second, .val (.long hz0), .second, .val (.long lz0), .second, .val (.int kz), .val (.long (mz <<< ((kz - (63 : Int32)) &&& 0x3f).toInt64)), .second, .val (.long (0 : Int64)), .second, .val (.long (lz0 + (0 : Int64))), .second, .val (.long ((lz0 + (0 : Int64)) &&& (9223372036854775807 : Int64))), .second, .val (.long ((hz0 + (mz <<< ((kz - (63 : Int32)) &&& 0x3f).toInt64)) + (((lz0 + (0 : Int64)).toUInt64 >>> ((63 : Int32) &&& 0x3f).toInt64.toUInt64).toInt64))), .second, .val (.ref b13)] [(.ref b13)]) _
      obtain ⟨cq21, kq21, q21a, q21b, q21c⟩ := isOf hZ rfl r19_0
      obtain ⟨_, _, ⟨T21, L21, k21, n21⟩, -, X21, ⟨Lc21, hQ21, l21, y21, z21⟩, st21⟩ := X19.virtualBack hx (y := (⟨"com/example/heedful_rank/heedfulrank/solver/FixedPointSum", "high", "()J"⟩ : MethodName)) (z := (⟨"com/example/heedful_rank/heedfulrank/solver/FixedPointSum", "high", "()J"⟩ : MethodName)) hown (mvT hZ (hw _ (List.mem_of_getElem? (i := 33) rfl))) (mvT hZ (hw _ (List.mem_of_getElem? (i := 34) rfl))) (notFace_of_selects (args := #[]) (mvT hZ (hw _ (List.mem_of_getElem? (i := 36) rfl)))) (mvT hZ (hw _ (List.mem_of_getElem? (i := 36) rfl))) (mvT hZ (hw _ (List.mem_of_getElem? (i := 35) rfl))) (by decide) (backOf (W := 0) (rm_hi l Z a0 hw [] b13 (hz0 + ((own_H xz) + (((lz0 + (own_L xz)).toUInt64 >>> ((63 : Int32) &&& 0x3f).toInt64.toUInt64).toInt64))) T19.heap n0 O19 r19_1) hZ (hw _ (List.mem_of_getElem? (i := 37) rfl)) (hw _ (List.mem_of_getElem? (i := 7) rfl)) (by decide) (by decide)) q21a q21c (g := (mkF m 190 #[.val (.long ax), .second, .val (.int at_), .val (.int au), .val (.long ah), .second, .val (.long al), .second, .val (.long mz), .second, .val (.int tz), .val (.int uz), .val (.double xz), .second, .val (.long hz0), .second, .val (.long lz0), .second, .val (.int kz), .val (.long (mz <<< ((kz - (63 : Int32)) &&& 0x3f).toInt64)), .second, .val (.long (0 : Int64)), .second, .val (.long (lz0 + (0 : Int64))), .second, .val (.long ((lz0 + (0 : Int64)) &&& (9223372036854775807 : Int64))), .second, .val (.long ((hz0 + (mz <<< ((kz - (63 : Int32)) &&& 0x3f).toInt64)) + (((lz0 + (0 : Int64)).toUInt64 >>> ((63 : Int32) &&& 0x3f).toInt64.toUInt64).toInt64))), .second, .val (.ref b13)] [(.ref b13)])) rfl (by rw [hml]; rfl) (Steps.refl _) (argsL := []) (rest := []) (lenOf pd_3 rfl) rfl (by show 2 * 0 + _ ≤ _; exact Nat.le_of_eq rfl) (hb hby at_190) (fun _ _ => ⟨rfl, rfl, (by decide : 1 + 0 ≤ _), (by decide : 2 + 0 ≤ _)⟩)
      dsimp only [Pt.U, Pt.locs, Pt.cells, Pt.slots] at X21 l21 y21 z21 st21 hQ21
      subst y21 z21
      obtain ⟨rfl, N21q, e21⟩ := hQ21
      have N21 : Fr n0 L21 := by rw [l21]; exact Fr.app N19 N21q
      refine stt st21 ?_
      show Go p e below T21 (mkF m 193 #[.val (.long ax), .second, .val (.int at_), .val (.int au), .val (.long ah), .second, .val (.long al), .second, .val (.long mz), .second, .val (.int tz), .val (.int uz), .val (.double xz), .second, .val (.long hz0), .second, .val (.long lz0), .second, .val (.int kz), .val (.long (mz <<< ((kz - (63 : Int32)) &&& 0x3f).toInt64)), .second, .val (.long (0 : Int64)), .second, .val (.long (lz0 + (0 : Int64))), .second, .val (.long ((lz0 + (0 : Int64)) &&& (9223372036854775807 : Int64))), .second, .val (.long ((hz0 + (mz <<< ((kz - (63 : Int32)) &&& 0x3f).toInt64)) + (((lz0 + (0 : Int64)).toUInt64 >>> ((63 : Int32) &&& 0x3f).toInt64.toUInt64).toInt64))), .second, .val (.ref b13)] [(.long (hz0 + ((own_H xz) + (((lz0 + (own_L xz)).toUInt64 >>> ((63 : Int32) &&& 0x3f).toInt64.toUInt64).toInt64))))]) _
      refine stp (fun _ => XS.lload X21.here hx rfl (hb hby at_193) rfl) ?_
      show Go p e below T21 (mkF m 195 #[.val (.long ax), .second, .val (.int at_), .val (.int au), .val (.long ah), .second, .val (.long al), .second, .val (.long mz), .second, .val (.int tz), .val (.int uz), .val (.double xz), .second, .val (.long hz0), .second, .val (.long lz0), .second, .val (.int kz), .val (.long (mz <<< ((kz - (63 : Int32)) &&& 0x3f).toInt64)), .second, .val (.long (0 : Int64)), .second, .val (.long (lz0 + (0 : Int64))), .second, .val (.long ((lz0 + (0 : Int64)) &&& (9223372036854775807 : Int64))), .second, .val (.long ((hz0 + (mz <<< ((kz - (63 : Int32)) &&& 0x3f).toInt64)) + (((lz0 + (0 : Int64)).toUInt64 >>> ((63 : Int32) &&& 0x3f).toInt64.toUInt64).toInt64))), .second, .val (.ref b13)] [(.long ((hz0 + (mz <<< ((kz - (63 : Int32)) &&& 0x3f).toInt64)) + (((lz0 + (0 : Int64)).toUInt64 >>> ((63 : Int32) &&& 0x3f).toInt64.toUInt64).toInt64))), (.long (hz0 + ((own_H xz) + (((lz0 + (own_L xz)).toUInt64 >>> ((63 : Int32) &&& 0x3f).toInt64.toUInt64).toInt64))))]) _
      refine stp (fun _ => XS.lcmp X21.here hx rfl (hb hby at_195) rfl) ?_
      show Go p e below T21 (mkF m 196 #[.val (.long ax), .second, .val (.int at_), .val (.int au), .val (.long ah), .second, .val (.long al), .second, .val (.long mz), .second, .val (.int tz), .val (.int uz), .val (.double xz), .second, .val (.long hz0), .second, .val (.long lz0), .second, .val (.int kz), .val (.long (mz <<< ((kz - (63 : Int32)) &&& 0x3f).toInt64)), .second, .val (.long (0 : Int64)), .second, .val (.long (lz0 + (0 : Int64))), .second, .val (.long ((lz0 + (0 : Int64)) &&& (9223372036854775807 : Int64))), .second, .val (.long ((hz0 + (mz <<< ((kz - (63 : Int32)) &&& 0x3f).toInt64)) + (((lz0 + (0 : Int64)).toUInt64 >>> ((63 : Int32) &&& 0x3f).toInt64.toUInt64).toInt64))), .second, .val (.ref b13)] [(.int (lcmpW (hz0 + ((own_H xz) + (((lz0 + (own_L xz)).toUInt64 >>> ((63 : Int32) &&& 0x3f).toInt64.toUInt64).toInt64))) ((hz0 + (mz <<< ((kz - (63 : Int32)) &&& 0x3f).toInt64)) + (((lz0 + (0 : Int64)).toUInt64 >>> ((63 : Int32) &&& 0x3f).toInt64.toUInt64).toInt64))))]) _
      refine stp (fun _ => XS.ifNo X21.here hx rfl (hb hby at_196) rfl (XT.ll_ne_f (by rw [(own_Cc hok q95_2).1, (own_Cc hok q95_2).2]; exact (Int64.add_assoc _ _ _).symm))) ?_
      show Go p e below T21 (mkF m 199 #[.val (.long ax), .second, .val (.int at_), .val (.int au), .val (.long ah), .second, .val (.long al), .second, .val (.long mz), .second, .val (.int tz), .val (.int uz), .val (.double xz), .second, .val (.long hz0), .second, .val (.long lz0), .second, .val (.int kz), .val (.long (mz <<< ((kz - (63 : Int32)) &&& 0x3f).toInt64)), .second, .val (.long (0 : Int64)), .second, .val (.long (lz0 + (0 : Int64))), .second, .val (.long ((lz0 + (0 : Int64)) &&& (9223372036854775807 : Int64))), .second, .val (.long ((hz0 + (mz <<< ((kz - (63 : Int32)) &&& 0x3f).toInt64)) + (((lz0 + (0 : Int64)).toUInt64 >>> ((63 : Int32) &&& 0x3f).toInt64.toUInt64).toInt64))), .second, .val (.ref b13)] []) _
      refine stp (fun _ => XS.aload X21.here hx rfl (hb hby at_199) rfl rfl) ?_
      show Go p e below T21 (mkF m 201 #[.val (.long ax), .second, .val (.int at_), .val (.int au), .val (.long ah), .second, .val (.long al), .second, .val (.long mz), .second, .val (.int tz), .val (.int uz), .val (.double xz), .second, .val (.long hz0), .second, .val (.long lz0), .second, .val (.int kz), .val (.long (mz <<< ((kz - (63 : Int32)) &&& 0x3f).toInt64)), .second, .val (.long (0 : Int64)), .second, .val (.long (lz0 + (0 : Int64))), .second, .val (.long ((lz0 + (0 : Int64)) &&& (9223372036854775807 : Int64))), .second, .val (.long ((hz0 + (mz <<< ((kz - (63 : Int32)) &&& 0x3f).toInt64)) + (((lz0 + (0 : Int64)).toUInt64 >>> ((63 : Int32) &&& 0x3f).toInt64.toUInt64).toInt64))), .second, .val (.ref b13)] [(.ref b13)]) _
      obtain ⟨cq22, kq22, q22a, q22b, q22c⟩ := isOf hZ e21 r19_0
      obtain ⟨_, _, ⟨T22, L22, k22, n22⟩, -, X22, ⟨Lc22, hQ22, l22, y22, z22⟩, st22⟩ := X21.virtualBack hx (y := (⟨"com/example/heedful_rank/heedfulrank/solver/FixedPointSum", "low", "()J"⟩ : MethodName)) (z := (⟨"com/example/heedful_rank/heedfulrank/solver/FixedPointSum", "low", "()J"⟩ : MethodName)) hown (mvT hZ (hw _ (List.mem_of_getElem? (i := 38) rfl))) (mvT hZ (hw _ (List.mem_of_getElem? (i := 39) rfl))) (notFace_of_selects (args := #[]) (mvT hZ (hw _ (List.mem_of_getElem? (i := 41) rfl)))) (mvT hZ (hw _ (List.mem_of_getElem? (i := 41) rfl))) (mvT hZ (hw _ (List.mem_of_getElem? (i := 40) rfl))) (by decide) (backOf (W := 0) (rm_lo l Z a0 hw [] b13 ((lz0 + (own_L xz)) &&& (9223372036854775807 : Int64)) T19.heap n0 O19 r19_2) hZ (hw _ (List.mem_of_getElem? (i := 42) rfl)) (hw _ (List.mem_of_getElem? (i := 7) rfl)) (by decide) (by decide)) q22a q22c (g := (mkF m 201 #[.val (.long ax), .second, .val (.int at_), .val (.int au), .val (.long ah), .second, .val (.long al), .second, .val (.long mz), .second, .val (.int tz), .val (.int uz), .val (.double xz), .second, .val (.long hz0), .second, .val (.long lz0), .second, .val (.int kz), .val (.long (mz <<< ((kz - (63 : Int32)) &&& 0x3f).toInt64)), .second, .val (.long (0 : Int64)), .second, .val (.long (lz0 + (0 : Int64))), .second, .val (.long ((lz0 + (0 : Int64)) &&& (9223372036854775807 : Int64))), .second, .val (.long ((hz0 + (mz <<< ((kz - (63 : Int32)) &&& 0x3f).toInt64)) + (((lz0 + (0 : Int64)).toUInt64 >>> ((63 : Int32) &&& 0x3f).toInt64.toUInt64).toInt64))), .second, .val (.ref b13)] [(.ref b13)])) rfl (by rw [hml]; rfl) (Steps.refl _) (argsL := []) (rest := []) (lenOf pd_3 rfl) rfl (by show 2 * 0 + _ ≤ _; exact Nat.le_of_eq rfl) (hb hby at_201) (fun _ _ => ⟨rfl, e21, (by decide : 1 + 0 ≤ _), (by decide : 2 + 0 ≤ _)⟩)
      dsimp only [Pt.U, Pt.locs, Pt.cells, Pt.slots] at X22 l22 y22 z22 st22 hQ22
      subst y22 z22
      obtain ⟨rfl, N22q, e22⟩ := hQ22
      have N22 : Fr n0 L22 := by rw [l22]; exact Fr.app N21 N22q
      refine stt st22 ?_
      show Go p e below T22 (mkF m 204 #[.val (.long ax), .second, .val (.int at_), .val (.int au), .val (.long ah), .second, .val (.long al), .second, .val (.long mz), .second, .val (.int tz), .val (.int uz), .val (.double xz), .second, .val (.long hz0), .second, .val (.long lz0), .second, .val (.int kz), .val (.long (mz <<< ((kz - (63 : Int32)) &&& 0x3f).toInt64)), .second, .val (.long (0 : Int64)), .second, .val (.long (lz0 + (0 : Int64))), .second, .val (.long ((lz0 + (0 : Int64)) &&& (9223372036854775807 : Int64))), .second, .val (.long ((hz0 + (mz <<< ((kz - (63 : Int32)) &&& 0x3f).toInt64)) + (((lz0 + (0 : Int64)).toUInt64 >>> ((63 : Int32) &&& 0x3f).toInt64.toUInt64).toInt64))), .second, .val (.ref b13)] [(.long ((lz0 + (own_L xz)) &&& (9223372036854775807 : Int64)))]) _
      refine stp (fun _ => XS.lload X22.here hx rfl (hb hby at_204) rfl) ?_
      show Go p e below T22 (mkF m 206 #[.val (.long ax), .second, .val (.int at_), .val (.int au), .val (.long ah), .second, .val (.long al), .second, .val (.long mz), .second, .val (.int tz), .val (.int uz), .val (.double xz), .second, .val (.long hz0), .second, .val (.long lz0), .second, .val (.int kz), .val (.long (mz <<< ((kz - (63 : Int32)) &&& 0x3f).toInt64)), .second, .val (.long (0 : Int64)), .second, .val (.long (lz0 + (0 : Int64))), .second, .val (.long ((lz0 + (0 : Int64)) &&& (9223372036854775807 : Int64))), .second, .val (.long ((hz0 + (mz <<< ((kz - (63 : Int32)) &&& 0x3f).toInt64)) + (((lz0 + (0 : Int64)).toUInt64 >>> ((63 : Int32) &&& 0x3f).toInt64.toUInt64).toInt64))), .second, .val (.ref b13)] [(.long ((lz0 + (0 : Int64)) &&& (9223372036854775807 : Int64))), (.long ((lz0 + (own_L xz)) &&& (9223372036854775807 : Int64)))]) _
      refine stp (fun _ => XS.lcmp X22.here hx rfl (hb hby at_206) rfl) ?_
      show Go p e below T22 (mkF m 207 #[.val (.long ax), .second, .val (.int at_), .val (.int au), .val (.long ah), .second, .val (.long al), .second, .val (.long mz), .second, .val (.int tz), .val (.int uz), .val (.double xz), .second, .val (.long hz0), .second, .val (.long lz0), .second, .val (.int kz), .val (.long (mz <<< ((kz - (63 : Int32)) &&& 0x3f).toInt64)), .second, .val (.long (0 : Int64)), .second, .val (.long (lz0 + (0 : Int64))), .second, .val (.long ((lz0 + (0 : Int64)) &&& (9223372036854775807 : Int64))), .second, .val (.long ((hz0 + (mz <<< ((kz - (63 : Int32)) &&& 0x3f).toInt64)) + (((lz0 + (0 : Int64)).toUInt64 >>> ((63 : Int32) &&& 0x3f).toInt64.toUInt64).toInt64))), .second, .val (.ref b13)] [(.int (lcmpW ((lz0 + (own_L xz)) &&& (9223372036854775807 : Int64)) ((lz0 + (0 : Int64)) &&& (9223372036854775807 : Int64))))]) _
      refine stp (fun _ => XS.ifNo X22.here hx rfl (hb hby at_207) rfl (XT.ll_ne_f (by rw [(own_Cc hok q95_2).2]))) ?_
      show Go p e below T22 (mkF m 210 #[.val (.long ax), .second, .val (.int at_), .val (.int au), .val (.long ah), .second, .val (.long al), .second, .val (.long mz), .second, .val (.int tz), .val (.int uz), .val (.double xz), .second, .val (.long hz0), .second, .val (.long lz0), .second, .val (.int kz), .val (.long (mz <<< ((kz - (63 : Int32)) &&& 0x3f).toInt64)), .second, .val (.long (0 : Int64)), .second, .val (.long (lz0 + (0 : Int64))), .second, .val (.long ((lz0 + (0 : Int64)) &&& (9223372036854775807 : Int64))), .second, .val (.long ((hz0 + (mz <<< ((kz - (63 : Int32)) &&& 0x3f).toInt64)) + (((lz0 + (0 : Int64)).toUInt64 >>> ((63 : Int32) &&& 0x3f).toInt64.toUInt64).toInt64))), .second, .val (.ref b13)] []) _
      refine stp (fun _ => XS.iconst X22.here hx rfl (hb hby at_210)) ?_
      show Go p e below T22 (mkF m 211 #[.val (.long ax), .second, .val (.int at_), .val (.int au), .val (.long ah), .second, .val (.long al), .second, .val (.long mz), .second, .val (.int tz), .val (.int uz), .val (.double xz), .second, .val (.long hz0), .second, .val (.long lz0), .second, .val (.int kz), .val (.long (mz <<< ((kz - (63 : Int32)) &&& 0x3f).toInt64)), .second, .val (.long (0 : Int64)), .second, .val (.long (lz0 + (0 : Int64))), .second, .val (.long ((lz0 + (0 : Int64)) &&& (9223372036854775807 : Int64))), .second, .val (.long ((hz0 + (mz <<< ((kz - (63 : Int32)) &&& 0x3f).toInt64)) + (((lz0 + (0 : Int64)).toUInt64 >>> ((63 : Int32) &&& 0x3f).toInt64.toUInt64).toInt64))), .second, .val (.ref b13)] [(.int (1 : Int32))]) _
      refine stp (fun _ => XS.goto X22.here hx rfl (pc0 := 211) (pc' := 215) rfl (hb hby at_211) (by decide) (by decide)) ?_
      show Go p e below T22 (mkF m 215 #[.val (.long ax), .second, .val (.int at_), .val (.int au), .val (.long ah), .second, .val (.long al), .second, .val (.long mz), .second, .val (.int tz), .val (.int uz), .val (.double xz), .second, .val (.long hz0), .second, .val (.long lz0), .second, .val (.int kz), .val (.long (mz <<< ((kz - (63 : Int32)) &&& 0x3f).toInt64)), .second, .val (.long (0 : Int64)), .second, .val (.long (lz0 + (0 : Int64))), .second, .val (.long ((lz0 + (0 : Int64)) &&& (9223372036854775807 : Int64))), .second, .val (.long ((hz0 + (mz <<< ((kz - (63 : Int32)) &&& 0x3f).toInt64)) + (((lz0 + (0 : Int64)).toUInt64 >>> ((63 : Int32) &&& 0x3f).toInt64.toUInt64).toInt64))), .second, .val (.ref b13)] [(.int (1 : Int32))]) _
      refine outN X22 hx (t := .boolean) hret (by simp) (hb hby at_215) hlk (by decide) (by decide) ?_
      exact ⟨rfl, N22⟩
  · refine stp (fun _ => XS.ifNo X0.here hx rfl (hb hby at_74) rfl (XT.i0_gt_f q74_1)) ?_
    show Go p e below T0 (mkF m 77 #[.val (.long ax), .second, .val (.int at_), .val (.int au), .val (.long ah), .second, .val (.long al), .second, .val (.long mz), .second, .val (.int tz), .val (.int uz), .val (.double xz), .second, .val (.long hz0), .second, .val (.long lz0), .second, .val (.int kz), .unset, .unset, .unset, .unset, .unset, .unset, .unset, .unset, .unset, .unset, .unset] []) _
    refine stp (fun _ => XS.lconst X0.here hx rfl (hb hby at_77)) ?_
    show Go p e below T0 (mkF m 78 #[.val (.long ax), .second, .val (.int at_), .val (.int au), .val (.long ah), .second, .val (.long al), .second, .val (.long mz), .second, .val (.int tz), .val (.int uz), .val (.double xz), .second, .val (.long hz0), .second, .val (.long lz0), .second, .val (.int kz), .unset, .unset, .unset, .unset, .unset, .unset, .unset, .unset, .unset, .unset, .unset] [(.long (0 : Int64))]) _
    refine stp (fun _ => XS.lstore X0.here hx rfl (hb hby at_78) rfl (l' := #[.val (.long ax), .second, .val (.int at_), .val (.int au), .val (.long ah), .second, .val (.long al), .second, .val (.long mz), .second, .val (.int tz), .val (.int uz), .val (.double xz), .second, .val (.long hz0), .second, .val (.long lz0), .second, .val (.int kz), .val (.long (0 : Int64)), .second, .unset, .unset, .unset, .unset, .unset, .unset, .unset, .unset, .unset]) rfl) ?_
    show Go p e below T0 (mkF m 80 #[.val (.long ax), .second, .val (.int at_), .val (.int au), .val (.long ah), .second, .val (.long al), .second, .val (.long mz), .second, .val (.int tz), .val (.int uz), .val (.double xz), .second, .val (.long hz0), .second, .val (.long lz0), .second, .val (.int kz), .val (.long (0 : Int64)), .second, .unset, .unset, .unset, .unset, .unset, .unset, .unset, .unset, .unset] []) _
    refine stp (fun _ => XS.lload X0.here hx rfl (hb hby at_80) rfl) ?_
    show Go p e below T0 (mkF m 82 #[.val (.long ax), .second, .val (.int at_), .val (.int au), .val (.long ah), .second, .val (.long al), .second, .val (.long mz), .second, .val (.int tz), .val (.int uz), .val (.double xz), .second, .val (.long hz0), .second, .val (.long lz0), .second, .val (.int kz), .val (.long (0 : Int64)), .second, .unset, .unset, .unset, .unset, .unset, .unset, .unset, .unset, .unset] [(.long mz)]) _
    refine stp (fun _ => XS.iload X0.here hx rfl (hb hby at_82) rfl) ?_
    show Go p e below T0 (mkF m 84 #[.val (.long ax), .second, .val (.int at_), .val (.int au), .val (.long ah), .second, .val (.long al), .second, .val (.long mz), .second, .val (.int tz), .val (.int uz), .val (.double xz), .second, .val (.long hz0), .second, .val (.long lz0), .second, .val (.int kz), .val (.long (0 : Int64)), .second, .unset, .unset, .unset, .unset, .unset, .unset, .unset, .unset, .unset] [(.int kz), (.long mz)]) _
    refine stp (fun _ => XS.ineg X0.here hx rfl (hb hby at_84) rfl) ?_
    show Go p e below T0 (mkF m 85 #[.val (.long ax), .second, .val (.int at_), .val (.int au), .val (.long ah), .second, .val (.long al), .second, .val (.long mz), .second, .val (.int tz), .val (.int uz), .val (.double xz), .second, .val (.long hz0), .second, .val (.long lz0), .second, .val (.int kz), .val (.long (0 : Int64)), .second, .unset, .unset, .unset, .unset, .unset, .unset, .unset, .unset, .unset] [(.int (-kz)), (.long mz)]) _
    refine stp (fun _ => XS.lushr X0.here hx rfl (hb hby at_85) rfl) ?_
    show Go p e below T0 (mkF m 86 #[.val (.long ax), .second, .val (.int at_), .val (.int au), .val (.long ah), .second, .val (.long al), .second, .val (.long mz), .second, .val (.int tz), .val (.int uz), .val (.double xz), .second, .val (.long hz0), .second, .val (.long lz0), .second, .val (.int kz), .val (.long (0 : Int64)), .second, .unset, .unset, .unset, .unset, .unset, .unset, .unset, .unset, .unset] [(.long ((mz.toUInt64 >>> ((-kz) &&& 0x3f).toInt64.toUInt64).toInt64))]) _
    refine stp (fun _ => XS.lstore X0.here hx rfl (hb hby at_86) rfl (l' := #[.val (.long ax), .second, .val (.int at_), .val (.int au), .val (.long ah), .second, .val (.long al), .second, .val (.long mz), .second, .val (.int tz), .val (.int uz), .val (.double xz), .second, .val (.long hz0), .second, .val (.long lz0), .second, .val (.int kz), .val (.long (0 : Int64)), .second, .val (.long ((mz.toUInt64 >>> ((-kz) &&& 0x3f).toInt64.toUInt64).toInt64)), .second, .unset, .unset, .unset, .unset, .unset, .unset, .unset]) rfl) ?_
    show Go p e below T0 (mkF m 88 #[.val (.long ax), .second, .val (.int at_), .val (.int au), .val (.long ah), .second, .val (.long al), .second, .val (.long mz), .second, .val (.int tz), .val (.int uz), .val (.double xz), .second, .val (.long hz0), .second, .val (.long lz0), .second, .val (.int kz), .val (.long (0 : Int64)), .second, .val (.long ((mz.toUInt64 >>> ((-kz) &&& 0x3f).toInt64.toUInt64).toInt64)), .second, .unset, .unset, .unset, .unset, .unset, .unset, .unset] []) _
    refine stp (fun _ => XS.goto X0.here hx rfl (pc0 := 88) (pc' := 135) rfl (hb hby at_88) (by decide) (by decide)) ?_
    show Go p e below T0 (mkF m 135 #[.val (.long ax), .second, .val (.int at_), .val (.int au), .val (.long ah), .second, .val (.long al), .second, .val (.long mz), .second, .val (.int tz), .val (.int uz), .val (.double xz), .second, .val (.long hz0), .second, .val (.long lz0), .second, .val (.int kz), .val (.long (0 : Int64)), .second, .val (.long ((mz.toUInt64 >>> ((-kz) &&& 0x3f).toInt64.toUInt64).toInt64)), .second, .unset, .unset, .unset, .unset, .unset, .unset, .unset] []) _
    refine stp (fun _ => XS.lload X0.here hx rfl (hb hby at_135) rfl) ?_
    show Go p e below T0 (mkF m 137 #[.val (.long ax), .second, .val (.int at_), .val (.int au), .val (.long ah), .second, .val (.long al), .second, .val (.long mz), .second, .val (.int tz), .val (.int uz), .val (.double xz), .second, .val (.long hz0), .second, .val (.long lz0), .second, .val (.int kz), .val (.long (0 : Int64)), .second, .val (.long ((mz.toUInt64 >>> ((-kz) &&& 0x3f).toInt64.toUInt64).toInt64)), .second, .unset, .unset, .unset, .unset, .unset, .unset, .unset] [(.long lz0)]) _
    refine stp (fun _ => XS.lload X0.here hx rfl (hb hby at_137) rfl) ?_
    show Go p e below T0 (mkF m 139 #[.val (.long ax), .second, .val (.int at_), .val (.int au), .val (.long ah), .second, .val (.long al), .second, .val (.long mz), .second, .val (.int tz), .val (.int uz), .val (.double xz), .second, .val (.long hz0), .second, .val (.long lz0), .second, .val (.int kz), .val (.long (0 : Int64)), .second, .val (.long ((mz.toUInt64 >>> ((-kz) &&& 0x3f).toInt64.toUInt64).toInt64)), .second, .unset, .unset, .unset, .unset, .unset, .unset, .unset] [(.long ((mz.toUInt64 >>> ((-kz) &&& 0x3f).toInt64.toUInt64).toInt64)), (.long lz0)]) _
    refine stp (fun _ => XS.ladd X0.here hx rfl (hb hby at_139) rfl) ?_
    show Go p e below T0 (mkF m 140 #[.val (.long ax), .second, .val (.int at_), .val (.int au), .val (.long ah), .second, .val (.long al), .second, .val (.long mz), .second, .val (.int tz), .val (.int uz), .val (.double xz), .second, .val (.long hz0), .second, .val (.long lz0), .second, .val (.int kz), .val (.long (0 : Int64)), .second, .val (.long ((mz.toUInt64 >>> ((-kz) &&& 0x3f).toInt64.toUInt64).toInt64)), .second, .unset, .unset, .unset, .unset, .unset, .unset, .unset] [(.long (lz0 + ((mz.toUInt64 >>> ((-kz) &&& 0x3f).toInt64.toUInt64).toInt64)))]) _
    refine stp (fun _ => XS.lstore X0.here hx rfl (hb hby at_140) rfl (l' := #[.val (.long ax), .second, .val (.int at_), .val (.int au), .val (.long ah), .second, .val (.long al), .second, .val (.long mz), .second, .val (.int tz), .val (.int uz), .val (.double xz), .second, .val (.long hz0), .second, .val (.long lz0), .second, .val (.int kz), .val (.long (0 : Int64)), .second, .val (.long ((mz.toUInt64 >>> ((-kz) &&& 0x3f).toInt64.toUInt64).toInt64)), .second, .val (.long (lz0 + ((mz.toUInt64 >>> ((-kz) &&& 0x3f).toInt64.toUInt64).toInt64))), .second, .unset, .unset, .unset, .unset, .unset]) rfl) ?_
    show Go p e below T0 (mkF m 142 #[.val (.long ax), .second, .val (.int at_), .val (.int au), .val (.long ah), .second, .val (.long al), .second, .val (.long mz), .second, .val (.int tz), .val (.int uz), .val (.double xz), .second, .val (.long hz0), .second, .val (.long lz0), .second, .val (.int kz), .val (.long (0 : Int64)), .second, .val (.long ((mz.toUInt64 >>> ((-kz) &&& 0x3f).toInt64.toUInt64).toInt64)), .second, .val (.long (lz0 + ((mz.toUInt64 >>> ((-kz) &&& 0x3f).toInt64.toUInt64).toInt64))), .second, .unset, .unset, .unset, .unset, .unset] []) _
    refine stp (fun _ => XS.lload X0.here hx rfl (hb hby at_142) rfl) ?_
    show Go p e below T0 (mkF m 144 #[.val (.long ax), .second, .val (.int at_), .val (.int au), .val (.long ah), .second, .val (.long al), .second, .val (.long mz), .second, .val (.int tz), .val (.int uz), .val (.double xz), .second, .val (.long hz0), .second, .val (.long lz0), .second, .val (.int kz), .val (.long (0 : Int64)), .second, .val (.long ((mz.toUInt64 >>> ((-kz) &&& 0x3f).toInt64.toUInt64).toInt64)), .second, .val (.long (lz0 + ((mz.toUInt64 >>> ((-kz) &&& 0x3f).toInt64.toUInt64).toInt64))), .second, .unset, .unset, .unset, .unset, .unset] [(.long (lz0 + ((mz.toUInt64 >>> ((-kz) &&& 0x3f).toInt64.toUInt64).toInt64)))]) _
    refine stp (fun _ => X0.ldc2Long hx hown (mvT hZ (hw _ (List.mem_of_getElem? (i := 4) rfl))) (g := (mkF m 144 #[.val (.long ax), .second, .val (.int at_), .val (.int au), .val (.long ah), .second, .val (.long al), .second, .val (.long mz), .second, .val (.int tz), .val (.int uz), .val (.double xz), .second, .val (.long hz0), .second, .val (.long lz0), .second, .val (.int kz), .val (.long (0 : Int64)), .second, .val (.long ((mz.toUInt64 >>> ((-kz) &&& 0x3f).toInt64.toUInt64).toInt64)), .second, .val (.long (lz0 + ((mz.toUInt64 >>> ((-kz) &&& 0x3f).toInt64.toUInt64).toInt64))), .second, .unset, .unset, .unset, .unset, .unset] [(.long (lz0 + ((mz.toUInt64 >>> ((-kz) &&& 0x3f).toInt64.toUInt64).toInt64)))])) rfl (hb hby at_144) _) ?_
    show Go p e below T0 (mkF m 147 #[.val (.long ax), .second, .val (.int at_), .val (.int au), .val (.long ah), .second, .val (.long al), .second, .val (.long mz), .second, .val (.int tz), .val (.int uz), .val (.double xz), .second, .val (.long hz0), .second, .val (.long lz0), .second, .val (.int kz), .val (.long (0 : Int64)), .second, .val (.long ((mz.toUInt64 >>> ((-kz) &&& 0x3f).toInt64.toUInt64).toInt64)), .second, .val (.long (lz0 + ((mz.toUInt64 >>> ((-kz) &&& 0x3f).toInt64.toUInt64).toInt64))), .second, .unset, .unset, .unset, .unset, .unset] [(.long (9223372036854775807 : Int64)), (.long (lz0 + ((mz.toUInt64 >>> ((-kz) &&& 0x3f).toInt64.toUInt64).toInt64)))]) _
    refine stp (fun _ => XS.land X0.here hx rfl (hb hby at_147) rfl) ?_
    show Go p e below T0 (mkF m 148 #[.val (.long ax), .second, .val (.int at_), .val (.int au), .val (.long ah), .second, .val (.long al), .second, .val (.long mz), .second, .val (.int tz), .val (.int uz), .val (.double xz), .second, .val (.long hz0), .second, .val (.long lz0), .second, .val (.int kz), .val (.long (0 : Int64)), .second, .val (.long ((mz.toUInt64 >>> ((-kz) &&& 0x3f).toInt64.toUInt64).toInt64)), .second, .val (.long (lz0 + ((mz.toUInt64 >>> ((-kz) &&& 0x3f).toInt64.toUInt64).toInt64))), .second, .unset, .unset, .unset, .unset, .unset] [(.long ((lz0 + ((mz.toUInt64 >>> ((-kz) &&& 0x3f).toInt64.toUInt64).toInt64)) &&& (9223372036854775807 : Int64)))]) _
    refine stp (fun _ => XS.lstore X0.here hx rfl (hb hby at_148) rfl (l' := #[.val (.long ax), .second, .val (.int at_), .val (.int au), .val (.long ah), .second, .val (.long al), .second, .val (.long mz), .second, .val (.int tz), .val (.int uz), .val (.double xz), .second, .val (.long hz0), .second, .val (.long lz0), .second, .val (.int kz), .val (.long (0 : Int64)), .second, .val (.long ((mz.toUInt64 >>> ((-kz) &&& 0x3f).toInt64.toUInt64).toInt64)), .second, .val (.long (lz0 + ((mz.toUInt64 >>> ((-kz) &&& 0x3f).toInt64.toUInt64).toInt64))), .second, .val (.long ((lz0 + ((mz.toUInt64 >>> ((-kz) &&& 0x3f).toInt64.toUInt64).toInt64)) &&& (9223372036854775807 : Int64))), .second, .unset, .unset, .unset]) rfl) ?_
    show Go p e below T0 (mkF m 150 #[.val (.long ax), .second, .val (.int at_), .val (.int au), .val (.long ah), .second, .val (.long al), .second, .val (.long mz), .second, .val (.int tz), .val (.int uz), .val (.double xz), .second, .val (.long hz0), .second, .val (.long lz0), .second, .val (.int kz), .val (.long (0 : Int64)), .second, .val (.long ((mz.toUInt64 >>> ((-kz) &&& 0x3f).toInt64.toUInt64).toInt64)), .second, .val (.long (lz0 + ((mz.toUInt64 >>> ((-kz) &&& 0x3f).toInt64.toUInt64).toInt64))), .second, .val (.long ((lz0 + ((mz.toUInt64 >>> ((-kz) &&& 0x3f).toInt64.toUInt64).toInt64)) &&& (9223372036854775807 : Int64))), .second, .unset, .unset, .unset] []) _
    refine stp (fun _ => XS.lload X0.here hx rfl (hb hby at_150) rfl) ?_
    show Go p e below T0 (mkF m 152 #[.val (.long ax), .second, .val (.int at_), .val (.int au), .val (.long ah), .second, .val (.long al), .second, .val (.long mz), .second, .val (.int tz), .val (.int uz), .val (.double xz), .second, .val (.long hz0), .second, .val (.long lz0), .second, .val (.int kz), .val (.long (0 : Int64)), .second, .val (.long ((mz.toUInt64 >>> ((-kz) &&& 0x3f).toInt64.toUInt64).toInt64)), .second, .val (.long (lz0 + ((mz.toUInt64 >>> ((-kz) &&& 0x3f).toInt64.toUInt64).toInt64))), .second, .val (.long ((lz0 + ((mz.toUInt64 >>> ((-kz) &&& 0x3f).toInt64.toUInt64).toInt64)) &&& (9223372036854775807 : Int64))), .second, .unset, .unset, .unset] [(.long hz0)]) _
    refine stp (fun _ => XS.lload X0.here hx rfl (hb hby at_152) rfl) ?_
    show Go p e below T0 (mkF m 154 #[.val (.long ax), .second, .val (.int at_), .val (.int au), .val (.long ah), .second, .val (.long al), .second, .val (.long mz), .second, .val (.int tz), .val (.int uz), .val (.double xz), .second, .val (.long hz0), .second, .val (.long lz0), .second, .val (.int kz), .val (.long (0 : Int64)), .second, .val (.long ((mz.toUInt64 >>> ((-kz) &&& 0x3f).toInt64.toUInt64).toInt64)), .second, .val (.long (lz0 + ((mz.toUInt64 >>> ((-kz) &&& 0x3f).toInt64.toUInt64).toInt64))), .second, .val (.long ((lz0 + ((mz.toUInt64 >>> ((-kz) &&& 0x3f).toInt64.toUInt64).toInt64)) &&& (9223372036854775807 : Int64))), .second, .unset, .unset, .unset] [(.long (0 : Int64)), (.long hz0)]) _
    refine stp (fun _ => XS.ladd X0.here hx rfl (hb hby at_154) rfl) ?_
    show Go p e below T0 (mkF m 155 #[.val (.long ax), .second, .val (.int at_), .val (.int au), .val (.long ah), .second, .val (.long al), .second, .val (.long mz), .second, .val (.int tz), .val (.int uz), .val (.double xz), .second, .val (.long hz0), .second, .val (.long lz0), .second, .val (.int kz), .val (.long (0 : Int64)), .second, .val (.long ((mz.toUInt64 >>> ((-kz) &&& 0x3f).toInt64.toUInt64).toInt64)), .second, .val (.long (lz0 + ((mz.toUInt64 >>> ((-kz) &&& 0x3f).toInt64.toUInt64).toInt64))), .second, .val (.long ((lz0 + ((mz.toUInt64 >>> ((-kz) &&& 0x3f).toInt64.toUInt64).toInt64)) &&& (9223372036854775807 : Int64))), .second, .unset, .unset, .unset] [(.long (hz0 + (0 : Int64)))]) _
    refine stp (fun _ => XS.lload X0.here hx rfl (hb hby at_155) rfl) ?_
    show Go p e below T0 (mkF m 157 #[.val (.long ax), .second, .val (.int at_), .val (.int au), .val (.long ah), .second, .val (.long al), .second, .val (.long mz), .second, .val (.int tz), .val (.int uz), .val (.double xz), .second, .val (.long hz0), .second, .val (.long lz0), .second, .val (.int kz), .val (.long (0 : Int64)), .second, .val (.long ((mz.toUInt64 >>> ((-kz) &&& 0x3f).toInt64.toUInt64).toInt64)), .second, .val (.long (lz0 + ((mz.toUInt64 >>> ((-kz) &&& 0x3f).toInt64.toUInt64).toInt64))), .second, .val (.long ((lz0 + ((mz.toUInt64 >>> ((-kz) &&& 0x3f).toInt64.toUInt64).toInt64)) &&& (9223372036854775807 : Int64))), .second, .unset, .unset, .unset] [(.long (lz0 + ((mz.toUInt64 >>> ((-kz) &&& 0x3f).toInt64.toUInt64).toInt64))), (.long (hz0 + (0 : Int64)))]) _
    refine stp (fun _ => XS.bipush X0.here hx rfl (hb hby at_157)) ?_
    show Go p e below T0 (mkF m 159 #[.val (.long ax), .second, .val (.int at_), .val (.int au), .val (.long ah), .second, .val (.long al), .second, .val (.long mz), .second, .val (.int tz), .val (.int uz), .val (.double xz), .second, .val (.long hz0), .second, .val (.long lz0), .second, .val (.int kz), .val (.long (0 : Int64)), .second, .val (.long ((mz.toUInt64 >>> ((-kz) &&& 0x3f).toInt64.toUInt64).toInt64)), .second, .val (.long (lz0 + ((mz.toUInt64 >>> ((-kz) &&& 0x3f).toInt64.toUInt64).toInt64))), .second, .val (.long ((lz0 + ((mz.toUInt64 >>> ((-kz) &&& 0x3f).toInt64.toUInt64).toInt64)) &&& (9223372036854775807 : Int64))), .second, .unset, .unset, .unset] [(.int (63 : Int32)), (.long (lz0 + ((mz.toUInt64 >>> ((-kz) &&& 0x3f).toInt64.toUInt64).toInt64))), (.long (hz0 + (0 : Int64)))]) _
    refine stp (fun _ => XS.lushr X0.here hx rfl (hb hby at_159) rfl) ?_
    show Go p e below T0 (mkF m 160 #[.val (.long ax), .second, .val (.int at_), .val (.int au), .val (.long ah), .second, .val (.long al), .second, .val (.long mz), .second, .val (.int tz), .val (.int uz), .val (.double xz), .second, .val (.long hz0), .second, .val (.long lz0), .second, .val (.int kz), .val (.long (0 : Int64)), .second, .val (.long ((mz.toUInt64 >>> ((-kz) &&& 0x3f).toInt64.toUInt64).toInt64)), .second, .val (.long (lz0 + ((mz.toUInt64 >>> ((-kz) &&& 0x3f).toInt64.toUInt64).toInt64))), .second, .val (.long ((lz0 + ((mz.toUInt64 >>> ((-kz) &&& 0x3f).toInt64.toUInt64).toInt64)) &&& (9223372036854775807 : Int64))), .second, .unset, .unset, .unset] [(.long (((lz0 + ((mz.toUInt64 >>> ((-kz) &&& 0x3f).toInt64.toUInt64).toInt64)).toUInt64 >>> ((63 : Int32) &&& 0x3f).toInt64.toUInt64).toInt64)), (.long (hz0 + (0 : Int64)))]) _
    refine stp (fun _ => XS.ladd X0.here hx rfl (hb hby at_160) rfl) ?_
    show Go p e below T0 (mkF m 161 #[.val (.long ax), .second, .val (.int at_), .val (.int au), .val (.long ah), .second, .val (.long al), .second, .val (.long mz), .second, .val (.int tz), .val (.int uz), .val (.double xz), .second, .val (.long hz0), .second, .val (.long lz0), .second, .val (.int kz), .val (.long (0 : Int64)), .second, .val (.long ((mz.toUInt64 >>> ((-kz) &&& 0x3f).toInt64.toUInt64).toInt64)), .second, .val (.long (lz0 + ((mz.toUInt64 >>> ((-kz) &&& 0x3f).toInt64.toUInt64).toInt64))), .second, .val (.long ((lz0 + ((mz.toUInt64 >>> ((-kz) &&& 0x3f).toInt64.toUInt64).toInt64)) &&& (9223372036854775807 : Int64))), .second, .unset, .unset, .unset] [(.long ((hz0 + (0 : Int64)) + (((lz0 + ((mz.toUInt64 >>> ((-kz) &&& 0x3f).toInt64.toUInt64).toInt64)).toUInt64 >>> ((63 : Int32) &&& 0x3f).toInt64.toUInt64).toInt64)))]) _
    refine stp (fun _ => XS.lstore X0.here hx rfl (hb hby at_161) rfl (l' := #[.val (.long ax), .second, .val (.int at_), .val (.int au), .val (.long ah), .second, .val (.long al), .second, .val (.long mz), .second, .val (.int tz), .val (.int uz), .val (.double xz), .second, .val (.long hz0), .second, .val (.long lz0), .second, .val (.int kz), .val (.long (0 : Int64)), .second, .val (.long ((mz.toUInt64 >>> ((-kz) &&& 0x3f).toInt64.toUInt64).toInt64)), .second, .val (.long (lz0 + ((mz.toUInt64 >>> ((-kz) &&& 0x3f).toInt64.toUInt64).toInt64))), .second, .val (.long ((lz0 + ((mz.toUInt64 >>> ((-kz) &&& 0x3f).toInt64.toUInt64).toInt64)) &&& (9223372036854775807 : Int64))), .second, .val (.long ((hz0 + (0 : Int64)) + (((lz0 + ((mz.toUInt64 >>> ((-kz) &&& 0x3f).toInt64.toUInt64).toInt64)).toUInt64 >>> ((63 : Int32) &&& 0x3f).toInt64.toUInt64).toInt64))), .second, .unset]) rfl) ?_
    show Go p e below T0 (mkF m 163 #[.val (.long ax), .second, .val (.int at_), .val (.int au), .val (.long ah), .second, .val (.long al), .second, .val (.long mz), .second, .val (.int tz), .val (.int uz), .val (.double xz), .second, .val (.long hz0), .second, .val (.long lz0), .second, .val (.int kz), .val (.long (0 : Int64)), .second, .val (.long ((mz.toUInt64 >>> ((-kz) &&& 0x3f).toInt64.toUInt64).toInt64)), .second, .val (.long (lz0 + ((mz.toUInt64 >>> ((-kz) &&& 0x3f).toInt64.toUInt64).toInt64))), .second, .val (.long ((lz0 + ((mz.toUInt64 >>> ((-kz) &&& 0x3f).toInt64.toUInt64).toInt64)) &&& (9223372036854775807 : Int64))), .second, .val (.long ((hz0 + (0 : Int64)) + (((lz0 + ((mz.toUInt64 >>> ((-kz) &&& 0x3f).toInt64.toUInt64).toInt64)).toUInt64 >>> ((63 : Int32) &&& 0x3f).toInt64.toUInt64).toInt64))), .second, .unset] []) _
    obtain ⟨T23, h23, X23, e23, E23, A23, D23, -, st23⟩ := newO X0 hx hZ hown (hw _ (List.mem_of_getElem? (i := 5) rfl)) (hw _ (List.mem_of_getElem? (i := 6) rfl)) (hw _ (List.mem_of_getElem? (i := 7) rfl)) e0 (g := (mkF m 163 #[.val (.long ax), .second, .val (.int at_), .val (.int au), .val (.long ah), .second, .val (.long al), .second, .val (.long mz), .second, .val (.int tz), .val (.int uz), .val (.double xz), .second, .val (.long hz0), .second, .val (.long lz0), .second, .val (.int kz), .val (.long (0 : Int64)), .second, .val (.long ((mz.toUInt64 >>> ((-kz) &&& 0x3f).toInt64.toUInt64).toInt64)), .second, .val (.long (lz0 + ((mz.toUInt64 >>> ((-kz) &&& 0x3f).toInt64.toUInt64).toInt64))), .second, .val (.long ((lz0 + ((mz.toUInt64 >>> ((-kz) &&& 0x3f).toInt64.toUInt64).toInt64)) &&& (9223372036854775807 : Int64))), .second, .val (.long ((hz0 + (0 : Int64)) + (((lz0 + ((mz.toUInt64 >>> ((-kz) &&& 0x3f).toInt64.toUInt64).toInt64)).toUInt64 >>> ((63 : Int32) &&& 0x3f).toInt64.toUInt64).toInt64))), .second, .unset] [])) rfl (hb hby at_163) (by decide) (by decide)
    obtain ⟨b23, g23⟩ : ∃ z, z = h0.size := ⟨_, rfl⟩
    rw [← g23] at A23 D23 st23
    have sz_b23 : h0.size ≤ b23 := Nat.le_trans (Keep.refl h0 []).1 (Nat.le_of_eq g23.symm)
    have ge_b23 : n0 ≤ b23 := Nat.le_trans (old_le O0) (Nat.le_of_eq g23.symm)
    have K23 : Keep h0 h23 [] := (Keep.refl h0 []).ext E23
    have O23 := O0.ext E23
    have F24 : Fld Z h23 b23 "com/example/heedful_rank/heedfulrank/solver/FixedPointSum" "high" "J" (.long (0 : Int64)) := D23 (Or.inl (hw _ (List.mem_of_getElem? (i := 20) rfl))) (ty := .long) (by decide)
    have F25 : Fld Z h23 b23 "com/example/heedful_rank/heedfulrank/solver/FixedPointSum" "low" "J" (.long (0 : Int64)) := D23 (Or.inl (hw _ (List.mem_of_getElem? (i := 22) rfl))) (ty := .long) (by decide)
    refine stp st23 ?_
    show Go p e below T23 (mkF m 166 #[.val (.long ax), .second, .val (.int at_), .val (.int au), .val (.long ah), .second, .val (.long al), .second, .val (.long mz), .second, .val (.int tz), .val (.int uz), .val (.double xz), .second, .val (.long hz0), .second, .val (.long lz0), .second, .val (.int kz), .val (.long (0 : Int64)), .second, .val (.long ((mz.toUInt64 >>> ((-kz) &&& 0x3f).toInt64.toUInt64).toInt64)), .second, .val (.long (lz0 + ((mz.toUInt64 >>> ((-kz) &&& 0x3f).toInt64.toUInt64).toInt64))), .second, .val (.long ((lz0 + ((mz.toUInt64 >>> ((-kz) &&& 0x3f).toInt64.toUInt64).toInt64)) &&& (9223372036854775807 : Int64))), .second, .val (.long ((hz0 + (0 : Int64)) + (((lz0 + ((mz.toUInt64 >>> ((-kz) &&& 0x3f).toInt64.toUInt64).toInt64)).toUInt64 >>> ((63 : Int32) &&& 0x3f).toInt64.toUInt64).toInt64))), .second, .unset] [(.ref b23)]) _
    refine stp (fun _ => XS.dup X23.here hx rfl (hb hby at_166) rfl rfl) ?_
    show Go p e below T23 (mkF m 167 #[.val (.long ax), .second, .val (.int at_), .val (.int au), .val (.long ah), .second, .val (.long al), .second, .val (.long mz), .second, .val (.int tz), .val (.int uz), .val (.double xz), .second, .val (.long hz0), .second, .val (.long lz0), .second, .val (.int kz), .val (.long (0 : Int64)), .second, .val (.long ((mz.toUInt64 >>> ((-kz) &&& 0x3f).toInt64.toUInt64).toInt64)), .second, .val (.long (lz0 + ((mz.toUInt64 >>> ((-kz) &&& 0x3f).toInt64.toUInt64).toInt64))), .second, .val (.long ((lz0 + ((mz.toUInt64 >>> ((-kz) &&& 0x3f).toInt64.toUInt64).toInt64)) &&& (9223372036854775807 : Int64))), .second, .val (.long ((hz0 + (0 : Int64)) + (((lz0 + ((mz.toUInt64 >>> ((-kz) &&& 0x3f).toInt64.toUInt64).toInt64)).toUInt64 >>> ((63 : Int32) &&& 0x3f).toInt64.toUInt64).toInt64))), .second, .unset] [(.ref b23), (.ref b23)]) _
    obtain ⟨_, _, ⟨T26, L26, k26, n26⟩, -, X26, ⟨Lc26, hQ26, l26, y26, z26⟩, st26⟩ := X23.specialBack hx (y := (⟨"com/example/heedful_rank/heedfulrank/solver/FixedPointSum", "<init>", "()V"⟩ : MethodName)) rfl hown (mvT hZ (hw _ (List.mem_of_getElem? (i := 8) rfl))) (mvT hZ (hw _ (List.mem_of_getElem? (i := 9) rfl))) (mvT hZ (hw _ (List.mem_of_getElem? (i := 10) rfl))) (by decide) (backOf (W := 1) (rm_ini l Z a0 hw [] b23  h23 n0 O23 ) hZ (hw _ (List.mem_of_getElem? (i := 10) rfl)) (hw _ (List.mem_of_getElem? (i := 7) rfl)) (by decide) (by decide)) (g := (mkF m 167 #[.val (.long ax), .second, .val (.int at_), .val (.int au), .val (.long ah), .second, .val (.long al), .second, .val (.long mz), .second, .val (.int tz), .val (.int uz), .val (.double xz), .second, .val (.long hz0), .second, .val (.long lz0), .second, .val (.int kz), .val (.long (0 : Int64)), .second, .val (.long ((mz.toUInt64 >>> ((-kz) &&& 0x3f).toInt64.toUInt64).toInt64)), .second, .val (.long (lz0 + ((mz.toUInt64 >>> ((-kz) &&& 0x3f).toInt64.toUInt64).toInt64))), .second, .val (.long ((lz0 + ((mz.toUInt64 >>> ((-kz) &&& 0x3f).toInt64.toUInt64).toInt64)) &&& (9223372036854775807 : Int64))), .second, .val (.long ((hz0 + (0 : Int64)) + (((lz0 + ((mz.toUInt64 >>> ((-kz) &&& 0x3f).toInt64.toUInt64).toInt64)).toUInt64 >>> ((63 : Int32) &&& 0x3f).toInt64.toUInt64).toInt64))), .second, .unset] [(.ref b23), (.ref b23)])) rfl (by rw [hml]; rfl) (Steps.refl _) (a := b23) (argsL := []) (rest := [(.ref b23)]) (lenOf pd_0 rfl) rfl (by show 2 * 0 + _ ≤ _; exact Nat.le_of_eq rfl) (hb hby at_167) (fun _ _ => ⟨rfl, e23, (by decide : 1 + 0 ≤ _), (by decide : 2 + 0 ≤ _)⟩)
    dsimp only [Pt.U, Pt.locs, Pt.cells, Pt.slots] at X26 l26 y26 z26 st26 hQ26
    subst y26 z26
    obtain ⟨rfl, N26q, e26⟩ := hQ26
    have N26 : Fr n0 L26 := by rw [l26]; exact Fr.app N0 N26q
    refine stt st26 ?_
    show Go p e below T26 (mkF m 170 #[.val (.long ax), .second, .val (.int at_), .val (.int au), .val (.long ah), .second, .val (.long al), .second, .val (.long mz), .second, .val (.int tz), .val (.int uz), .val (.double xz), .second, .val (.long hz0), .second, .val (.long lz0), .second, .val (.int kz), .val (.long (0 : Int64)), .second, .val (.long ((mz.toUInt64 >>> ((-kz) &&& 0x3f).toInt64.toUInt64).toInt64)), .second, .val (.long (lz0 + ((mz.toUInt64 >>> ((-kz) &&& 0x3f).toInt64.toUInt64).toInt64))), .second, .val (.long ((lz0 + ((mz.toUInt64 >>> ((-kz) &&& 0x3f).toInt64.toUInt64).toInt64)) &&& (9223372036854775807 : Int64))), .second, .val (.long ((hz0 + (0 : Int64)) + (((lz0 + ((mz.toUInt64 >>> ((-kz) &&& 0x3f).toInt64.toUInt64).toInt64)).toUInt64 >>> ((63 : Int32) &&& 0x3f).toInt64.toUInt64).toInt64))), .second, .unset] [(.ref b23)]) _
    refine stp (fun _ => XS.astore X26.here hx rfl (hb hby at_170) rfl rfl (l' := #[.val (.long ax), .second, .val (.int at_), .val (.int au), .val (.long ah), .second, .val (.long al), .second, .val (.long mz), .second, .val (.int tz), .val (.int uz), .val (.double xz), .second, .val (.long hz0), .second, .val (.long lz0), .second, .val (.int kz), .val (.long (0 : Int64)), .second, .val (.long ((mz.toUInt64 >>> ((-kz) &&& 0x3f).toInt64.toUInt64).toInt64)), .second, .val (.long (lz0 + ((mz.toUInt64 >>> ((-kz) &&& 0x3f).toInt64.toUInt64).toInt64))), .second, .val (.long ((lz0 + ((mz.toUInt64 >>> ((-kz) &&& 0x3f).toInt64.toUInt64).toInt64)) &&& (9223372036854775807 : Int64))), .second, .val (.long ((hz0 + (0 : Int64)) + (((lz0 + ((mz.toUInt64 >>> ((-kz) &&& 0x3f).toInt64.toUInt64).toInt64)).toUInt64 >>> ((63 : Int32) &&& 0x3f).toInt64.toUInt64).toInt64))), .second, .val (.ref b23)]) rfl) ?_
    show Go p e below T26 (mkF m 172 #[.val (.long ax), .second, .val (.int at_), .val (.int au), .val (.long ah), .second, .val (.long al), .second, .val (.long mz), .second, .val (.int tz), .val (.int uz), .val (.double xz), .second, .val (.long hz0), .second, .val (.long lz0), .second, .val (.int kz), .val (.long (0 : Int64)), .second, .val (.long ((mz.toUInt64 >>> ((-kz) &&& 0x3f).toInt64.toUInt64).toInt64)), .second, .val (.long (lz0 + ((mz.toUInt64 >>> ((-kz) &&& 0x3f).toInt64.toUInt64).toInt64))), .second, .val (.long ((lz0 + ((mz.toUInt64 >>> ((-kz) &&& 0x3f).toInt64.toUInt64).toInt64)) &&& (9223372036854775807 : Int64))), .second, .val (.long ((hz0 + (0 : Int64)) + (((lz0 + ((mz.toUInt64 >>> ((-kz) &&& 0x3f).toInt64.toUInt64).toInt64)).toUInt64 >>> ((63 : Int32) &&& 0x3f).toInt64.toUInt64).toInt64))), .second, .val (.ref b23)] []) _
    refine stp (fun _ => XS.aload X26.here hx rfl (hb hby at_172) rfl rfl) ?_
    show Go p e below T26 (mkF m 174 #[.val (.long ax), .second, .val (.int at_), .val (.int au), .val (.long ah), .second, .val (.long al), .second, .val (.long mz), .second, .val (.int tz), .val (.int uz), .val (.double xz), .second, .val (.long hz0), .second, .val (.long lz0), .second, .val (.int kz), .val (.long (0 : Int64)), .second, .val (.long ((mz.toUInt64 >>> ((-kz) &&& 0x3f).toInt64.toUInt64).toInt64)), .second, .val (.long (lz0 + ((mz.toUInt64 >>> ((-kz) &&& 0x3f).toInt64.toUInt64).toInt64))), .second, .val (.long ((lz0 + ((mz.toUInt64 >>> ((-kz) &&& 0x3f).toInt64.toUInt64).toInt64)) &&& (9223372036854775807 : Int64))), .second, .val (.long ((hz0 + (0 : Int64)) + (((lz0 + ((mz.toUInt64 >>> ((-kz) &&& 0x3f).toInt64.toUInt64).toInt64)).toUInt64 >>> ((63 : Int32) &&& 0x3f).toInt64.toUInt64).toInt64))), .second, .val (.ref b23)] [(.ref b23)]) _
    refine stp (fun _ => XS.lload X26.here hx rfl (hb hby at_174) rfl) ?_
    show Go p e below T26 (mkF m 176 #[.val (.long ax), .second, .val (.int at_), .val (.int au), .val (.long ah), .second, .val (.long al), .second, .val (.long mz), .second, .val (.int tz), .val (.int uz), .val (.double xz), .second, .val (.long hz0), .second, .val (.long lz0), .second, .val (.int kz), .val (.long (0 : Int64)), .second, .val (.long ((mz.toUInt64 >>> ((-kz) &&& 0x3f).toInt64.toUInt64).toInt64)), .second, .val (.long (lz0 + ((mz.toUInt64 >>> ((-kz) &&& 0x3f).toInt64.toUInt64).toInt64))), .second, .val (.long ((lz0 + ((mz.toUInt64 >>> ((-kz) &&& 0x3f).toInt64.toUInt64).toInt64)) &&& (9223372036854775807 : Int64))), .second, .val (.long ((hz0 + (0 : Int64)) + (((lz0 + ((mz.toUInt64 >>> ((-kz) &&& 0x3f).toInt64.toUInt64).toInt64)).toUInt64 >>> ((63 : Int32) &&& 0x3f).toInt64.toUInt64).toInt64))), .second, .val (.ref b23)] [(.long hz0), (.ref b23)]) _
    refine stp (fun _ => XS.lload X26.here hx rfl (hb hby at_176) rfl) ?_
    show Go p e below T26 (mkF m 178 #[.val (.long ax), .second, .val (.int at_), .val (.int au), .val (.long ah), .second, .val (.long al), .second, .val (.long mz), .second, .val (.int tz), .val (.int uz), .val (.double xz), .second, .val (.long hz0), .second, .val (.long lz0), .second, .val (.int kz), .val (.long (0 : Int64)), .second, .val (.long ((mz.toUInt64 >>> ((-kz) &&& 0x3f).toInt64.toUInt64).toInt64)), .second, .val (.long (lz0 + ((mz.toUInt64 >>> ((-kz) &&& 0x3f).toInt64.toUInt64).toInt64))), .second, .val (.long ((lz0 + ((mz.toUInt64 >>> ((-kz) &&& 0x3f).toInt64.toUInt64).toInt64)) &&& (9223372036854775807 : Int64))), .second, .val (.long ((hz0 + (0 : Int64)) + (((lz0 + ((mz.toUInt64 >>> ((-kz) &&& 0x3f).toInt64.toUInt64).toInt64)).toUInt64 >>> ((63 : Int32) &&& 0x3f).toInt64.toUInt64).toInt64))), .second, .val (.ref b23)] [(.long lz0), (.long hz0), (.ref b23)]) _
    obtain ⟨cq27, kq27, q27a, q27b, q27c⟩ := isOf hZ e26 A23
    obtain ⟨_, _, ⟨T27, L27, k27, n27⟩, -, X27, ⟨Lc27, hQ27, l27, y27, z27⟩, st27⟩ := X26.virtualBack hx (y := (⟨"com/example/heedful_rank/heedfulrank/solver/FixedPointSum", "resume", "(JJ)V"⟩ : MethodName)) (z := (⟨"com/example/heedful_rank/heedfulrank/solver/FixedPointSum", "resume", "(JJ)V"⟩ : MethodName)) hown (mvT hZ (hw _ (List.mem_of_getElem? (i := 14) rfl))) (mvT hZ (hw _ (List.mem_of_getElem? (i := 15) rfl))) (notFace_of_selects (args := #[]) (mvT hZ (hw _ (List.mem_of_getElem? (i := 17) rfl)))) (mvT hZ (hw _ (List.mem_of_getElem? (i := 17) rfl))) (mvT hZ (hw _ (List.mem_of_getElem? (i := 16) rfl))) (by decide) (backOf (W := 0) (rm_res l Z a0 hw [] b23 hz0 lz0  h23 n0 O23 A23 F24 F25 ge_b23) hZ (hw _ (List.mem_of_getElem? (i := 18) rfl)) (hw _ (List.mem_of_getElem? (i := 7) rfl)) (by decide) (by decide)) q27a q27c (g := (mkF m 178 #[.val (.long ax), .second, .val (.int at_), .val (.int au), .val (.long ah), .second, .val (.long al), .second, .val (.long mz), .second, .val (.int tz), .val (.int uz), .val (.double xz), .second, .val (.long hz0), .second, .val (.long lz0), .second, .val (.int kz), .val (.long (0 : Int64)), .second, .val (.long ((mz.toUInt64 >>> ((-kz) &&& 0x3f).toInt64.toUInt64).toInt64)), .second, .val (.long (lz0 + ((mz.toUInt64 >>> ((-kz) &&& 0x3f).toInt64.toUInt64).toInt64))), .second, .val (.long ((lz0 + ((mz.toUInt64 >>> ((-kz) &&& 0x3f).toInt64.toUInt64).toInt64)) &&& (9223372036854775807 : Int64))), .second, .val (.long ((hz0 + (0 : Int64)) + (((lz0 + ((mz.toUInt64 >>> ((-kz) &&& 0x3f).toInt64.toUInt64).toInt64)).toUInt64 >>> ((63 : Int32) &&& 0x3f).toInt64.toUInt64).toInt64))), .second, .val (.ref b23)] [(.long lz0), (.long hz0), (.ref b23)])) rfl (by rw [hml]; rfl) (Steps.refl _) (argsL := [(.long hz0), (.long lz0)]) (rest := []) (lenOf pd_1 rfl) rfl (by show 2 * 0 + _ ≤ _; exact Nat.le_of_eq rfl) (hb hby at_178) (fun _ _ => ⟨rfl, e26, (by decide : 1 + 0 ≤ _), (by decide : 2 + 0 ≤ _)⟩)
    dsimp only [Pt.U, Pt.locs, Pt.cells, Pt.slots] at X27 l27 y27 z27 st27 hQ27
    subst y27 z27
    obtain ⟨rfl, N27q, K27q, r27_0, r27_1, r27_2⟩ := hQ27
    have N27 : Fr n0 L27 := by rw [l27]; exact Fr.app N26 N27q
    have f28 := A23.keep K27q
    have K27 : Keep h0 T27.heap [] := K23.trans K27q (allS (Or.inr sz_b23) all0)
    have O27 := O23.keep K27q (allS ge_b23 all0)
    refine stt st27 ?_
    show Go p e below T27 (mkF m 181 #[.val (.long ax), .second, .val (.int at_), .val (.int au), .val (.long ah), .second, .val (.long al), .second, .val (.long mz), .second, .val (.int tz), .val (.int uz), .val (.double xz), .second, .val (.long hz0), .second, .val (.long lz0), .second, .val (.int kz), .val (.long (0 : Int64)), .second, .val (.long ((mz.toUInt64 >>> ((-kz) &&& 0x3f).toInt64.toUInt64).toInt64)), .second, .val (.long (lz0 + ((mz.toUInt64 >>> ((-kz) &&& 0x3f).toInt64.toUInt64).toInt64))), .second, .val (.long ((lz0 + ((mz.toUInt64 >>> ((-kz) &&& 0x3f).toInt64.toUInt64).toInt64)) &&& (9223372036854775807 : Int64))), .second, .val (.long ((hz0 + (0 : Int64)) + (((lz0 + ((mz.toUInt64 >>> ((-kz) &&& 0x3f).toInt64.toUInt64).toInt64)).toUInt64 >>> ((63 : Int32) &&& 0x3f).toInt64.toUInt64).toInt64))), .second, .val (.ref b23)] []) _
    refine stp (fun _ => XS.aload X27.here hx rfl (hb hby at_181) rfl rfl) ?_
    show Go p e below T27 (mkF m 183 #[.val (.long ax), .second, .val (.int at_), .val (.int au), .val (.long ah), .second, .val (.long al), .second, .val (.long mz), .second, .val (.int tz), .val (.int uz), .val (.double xz), .second, .val (.long hz0), .second, .val (.long lz0), .second, .val (.int kz), .val (.long (0 : Int64)), .second, .val (.long ((mz.toUInt64 >>> ((-kz) &&& 0x3f).toInt64.toUInt64).toInt64)), .second, .val (.long (lz0 + ((mz.toUInt64 >>> ((-kz) &&& 0x3f).toInt64.toUInt64).toInt64))), .second, .val (.long ((lz0 + ((mz.toUInt64 >>> ((-kz) &&& 0x3f).toInt64.toUInt64).toInt64)) &&& (9223372036854775807 : Int64))), .second, .val (.long ((hz0 + (0 : Int64)) + (((lz0 + ((mz.toUInt64 >>> ((-kz) &&& 0x3f).toInt64.toUInt64).toInt64)).toUInt64 >>> ((63 : Int32) &&& 0x3f).toInt64.toUInt64).toInt64))), .second, .val (.ref b23)] [(.ref b23)]) _
    refine stp (fun _ => XS.dload X27.here hx rfl (hb hby at_183) rfl) ?_
    show Go p e below T27 (mkF m 185 #[.val (.long ax), .second, .val (.int at_), .val (.int au), .val (.long ah), .second, .val (.long al), .second, .val (.long mz), .second, .val (.int tz), .val (.int uz), .val (.double xz), .second, .val (.long hz0), .second, .val (.long lz0), .second, .val (.int kz), .val (.long (0 : Int64)), .second, .val (.long ((mz.toUInt64 >>> ((-kz) &&& 0x3f).toInt64.toUInt64).toInt64)), .second, .val (.long (lz0 + ((mz.toUInt64 >>> ((-kz) &&& 0x3f).toInt64.toUInt64).toInt64))), .second, .val (.long ((lz0 + ((mz.toUInt64 >>> ((-kz) &&& 0x3f).toInt64.toUInt64).toInt64)) &&& (9223372036854775807 : Int64))), .second, .val (.long ((hz0 + (0 : Int64)) + (((lz0 + ((mz.toUInt64 >>> ((-kz) &&& 0x3f).toInt64.toUInt64).toInt64)).toUInt64 >>> ((63 : Int32) &&& 0x3f).toInt64.toUInt64).toInt64))), .second, .val (.ref b23)] [(.double xz), (.ref b23)]) _
    obtain ⟨cq29, kq29, q29a, q29b, q29c⟩ := isOf hZ rfl r27_0
    obtain ⟨_, _, ⟨T29, L29, k29, n29⟩, -, X29, ⟨Lc29, hQ29, l29, y29, z29⟩, st29⟩ := X27.virtualBack hx (y := (⟨"com/example/heedful_rank/heedfulrank/solver/FixedPointSum", "add", "(D)V"⟩ : MethodName)) (z := (⟨"com/example/heedful_rank/heedfulrank/solver/FixedPointSum", "add", "(D)V"⟩ : MethodName)) hown (mvT hZ (hw _ (List.mem_of_getElem? (i := 23) rfl))) (mvT hZ (hw _ (List.mem_of_getElem? (i := 24) rfl))) (notFace_of_selects (args := #[]) (mvT hZ (hw _ (List.mem_of_getElem? (i := 26) rfl)))) (mvT hZ (hw _ (List.mem_of_getElem? (i := 26) rfl))) (mvT hZ (hw _ (List.mem_of_getElem? (i := 25) rfl))) (by decide) (backOf (W := 0) (rm_add l Z a0 hw [] b23 xz hz0 lz0 T27.heap n0 O27 r27_0 r27_1 r27_2 ge_b23 (own_ge0 hok) (own_lt2 hok) (own_parts hok).1 (own_parts hok).2.1 (own_parts hok).2.2.1 (own_parts hok).2.2.2.1 (own_high hok hA1 hA2)) hZ (hw _ (List.mem_of_getElem? (i := 27) rfl)) (hw _ (List.mem_of_getElem? (i := 7) rfl)) (by decide) (by decide)) q29a q29c (g := (mkF m 185 #[.val (.long ax), .second, .val (.int at_), .val (.int au), .val (.long ah), .second, .val (.long al), .second, .val (.long mz), .second, .val (.int tz), .val (.int uz), .val (.double xz), .second, .val (.long hz0), .second, .val (.long lz0), .second, .val (.int kz), .val (.long (0 : Int64)), .second, .val (.long ((mz.toUInt64 >>> ((-kz) &&& 0x3f).toInt64.toUInt64).toInt64)), .second, .val (.long (lz0 + ((mz.toUInt64 >>> ((-kz) &&& 0x3f).toInt64.toUInt64).toInt64))), .second, .val (.long ((lz0 + ((mz.toUInt64 >>> ((-kz) &&& 0x3f).toInt64.toUInt64).toInt64)) &&& (9223372036854775807 : Int64))), .second, .val (.long ((hz0 + (0 : Int64)) + (((lz0 + ((mz.toUInt64 >>> ((-kz) &&& 0x3f).toInt64.toUInt64).toInt64)).toUInt64 >>> ((63 : Int32) &&& 0x3f).toInt64.toUInt64).toInt64))), .second, .val (.ref b23)] [(.double xz), (.ref b23)])) rfl (by rw [hml]; rfl) (Steps.refl _) (argsL := [(.double xz)]) (rest := []) (lenOf pd_2 rfl) rfl (by show 2 * 0 + _ ≤ _; exact Nat.le_of_eq rfl) (hb hby at_185) (fun _ _ => ⟨rfl, rfl, (by decide : 1 + 0 ≤ _), (by decide : 2 + 0 ≤ _)⟩)
    dsimp only [Pt.U, Pt.locs, Pt.cells, Pt.slots] at X29 l29 y29 z29 st29 hQ29
    subst y29 z29
    obtain ⟨rfl, N29q, K29q, r29_0, r29_1, r29_2⟩ := hQ29
    have N29 : Fr n0 L29 := by rw [l29]; exact Fr.app N27 N29q
    have f30 := r27_0.keep K29q
    have K29 : Keep h0 T29.heap [] := K27.trans K29q (allS (Or.inr sz_b23) all0)
    have O29 := O27.keep K29q (allS ge_b23 all0)
    refine stt st29 ?_
    show Go p e below T29 (mkF m 188 #[.val (.long ax), .second, .val (.int at_), .val (.int au), .val (.long ah), .second, .val (.long al), .second, .val (.long mz), .second, .val (.int tz), .val (.int uz), .val (.double xz), .second, .val (.long hz0), .second, .val (.long lz0), .second, .val (.int kz), .val (.long (0 : Int64)), .second, .val (.long ((mz.toUInt64 >>> ((-kz) &&& 0x3f).toInt64.toUInt64).toInt64)), .second, .val (.long (lz0 + ((mz.toUInt64 >>> ((-kz) &&& 0x3f).toInt64.toUInt64).toInt64))), .second, .val (.long ((lz0 + ((mz.toUInt64 >>> ((-kz) &&& 0x3f).toInt64.toUInt64).toInt64)) &&& (9223372036854775807 : Int64))), .second, .val (.long ((hz0 + (0 : Int64)) + (((lz0 + ((mz.toUInt64 >>> ((-kz) &&& 0x3f).toInt64.toUInt64).toInt64)).toUInt64 >>> ((63 : Int32) &&& 0x3f).toInt64.toUInt64).toInt64))), .second, .val (.ref b23)] []) _
    refine stp (fun _ => XS.aload X29.here hx rfl (hb hby at_188) rfl rfl) ?_
    show Go p e below T29 (mkF m 190 #[.val (.long ax), .second, .val (.int at_), .val (.int au), .val (.long ah), .second, .val (.long al), .second, .val (.long mz), .second, .val (.int tz), .val (.int uz), .val (.double xz), .second, .val (.long hz0), .second, .val (.long lz0), .second, .val (.int kz), .val (.long (0 : Int64)), .second, .val (.long ((mz.toUInt64 >>> ((-kz) &&& 0x3f).toInt64.toUInt64).toInt64)), .second, .val (.long (lz0 + ((mz.toUInt64 >>> ((-kz) &&& 0x3f).toInt64.toUInt64).toInt64))), .second, .val (.long ((lz0 + ((mz.toUInt64 >>> ((-kz) &&& 0x3f).toInt64.toUInt64).toInt64)) &&& (9223372036854775807 : Int64))), .second, .val (.long ((hz0 + (0 : Int64)) + (((lz0 + ((mz.toUInt64 >>> ((-kz) &&& 0x3f).toInt64.toUInt64).toInt64)).toUInt64 >>> ((63 : Int32) &&& 0x3f).toInt64.toUInt64).toInt64))), .second, .val (.ref b23)] [(.ref b23)]) _
    obtain ⟨cq31, kq31, q31a, q31b, q31c⟩ := isOf hZ rfl r29_0
    obtain ⟨_, _, ⟨T31, L31, k31, n31⟩, -, X31, ⟨Lc31, hQ31, l31, y31, z31⟩, st31⟩ := X29.virtualBack hx (y := (⟨"com/example/heedful_rank/heedfulrank/solver/FixedPointSum", "high", "()J"⟩ : MethodName)) (z := (⟨"com/example/heedful_rank/heedfulrank/solver/FixedPointSum", "high", "()J"⟩ : MethodName)) hown (mvT hZ (hw _ (List.mem_of_getElem? (i := 33) rfl))) (mvT hZ (hw _ (List.mem_of_getElem? (i := 34) rfl))) (notFace_of_selects (args := #[]) (mvT hZ (hw _ (List.mem_of_getElem? (i := 36) rfl)))) (mvT hZ (hw _ (List.mem_of_getElem? (i := 36) rfl))) (mvT hZ (hw _ (List.mem_of_getElem? (i := 35) rfl))) (by decide) (backOf (W := 0) (rm_hi l Z a0 hw [] b23 (hz0 + ((own_H xz) + (((lz0 + (own_L xz)).toUInt64 >>> ((63 : Int32) &&& 0x3f).toInt64.toUInt64).toInt64))) T29.heap n0 O29 r29_1) hZ (hw _ (List.mem_of_getElem? (i := 37) rfl)) (hw _ (List.mem_of_getElem? (i := 7) rfl)) (by decide) (by decide)) q31a q31c (g := (mkF m 190 #[.val (.long ax), .second, .val (.int at_), .val (.int au), .val (.long ah), .second, .val (.long al), .second, .val (.long mz), .second, .val (.int tz), .val (.int uz), .val (.double xz), .second, .val (.long hz0), .second, .val (.long lz0), .second, .val (.int kz), .val (.long (0 : Int64)), .second, .val (.long ((mz.toUInt64 >>> ((-kz) &&& 0x3f).toInt64.toUInt64).toInt64)), .second, .val (.long (lz0 + ((mz.toUInt64 >>> ((-kz) &&& 0x3f).toInt64.toUInt64).toInt64))), .second, .val (.long ((lz0 + ((mz.toUInt64 >>> ((-kz) &&& 0x3f).toInt64.toUInt64).toInt64)) &&& (9223372036854775807 : Int64))), .second, .val (.long ((hz0 + (0 : Int64)) + (((lz0 + ((mz.toUInt64 >>> ((-kz) &&& 0x3f).toInt64.toUInt64).toInt64)).toUInt64 >>> ((63 : Int32) &&& 0x3f).toInt64.toUInt64).toInt64))), .second, .val (.ref b23)] [(.ref b23)])) rfl (by rw [hml]; rfl) (Steps.refl _) (argsL := []) (rest := []) (lenOf pd_3 rfl) rfl (by show 2 * 0 + _ ≤ _; exact Nat.le_of_eq rfl) (hb hby at_190) (fun _ _ => ⟨rfl, rfl, (by decide : 1 + 0 ≤ _), (by decide : 2 + 0 ≤ _)⟩)
    dsimp only [Pt.U, Pt.locs, Pt.cells, Pt.slots] at X31 l31 y31 z31 st31 hQ31
    subst y31 z31
    obtain ⟨rfl, N31q, e31⟩ := hQ31
    have N31 : Fr n0 L31 := by rw [l31]; exact Fr.app N29 N31q
    refine stt st31 ?_
    show Go p e below T31 (mkF m 193 #[.val (.long ax), .second, .val (.int at_), .val (.int au), .val (.long ah), .second, .val (.long al), .second, .val (.long mz), .second, .val (.int tz), .val (.int uz), .val (.double xz), .second, .val (.long hz0), .second, .val (.long lz0), .second, .val (.int kz), .val (.long (0 : Int64)), .second, .val (.long ((mz.toUInt64 >>> ((-kz) &&& 0x3f).toInt64.toUInt64).toInt64)), .second, .val (.long (lz0 + ((mz.toUInt64 >>> ((-kz) &&& 0x3f).toInt64.toUInt64).toInt64))), .second, .val (.long ((lz0 + ((mz.toUInt64 >>> ((-kz) &&& 0x3f).toInt64.toUInt64).toInt64)) &&& (9223372036854775807 : Int64))), .second, .val (.long ((hz0 + (0 : Int64)) + (((lz0 + ((mz.toUInt64 >>> ((-kz) &&& 0x3f).toInt64.toUInt64).toInt64)).toUInt64 >>> ((63 : Int32) &&& 0x3f).toInt64.toUInt64).toInt64))), .second, .val (.ref b23)] [(.long (hz0 + ((own_H xz) + (((lz0 + (own_L xz)).toUInt64 >>> ((63 : Int32) &&& 0x3f).toInt64.toUInt64).toInt64))))]) _
    refine stp (fun _ => XS.lload X31.here hx rfl (hb hby at_193) rfl) ?_
    show Go p e below T31 (mkF m 195 #[.val (.long ax), .second, .val (.int at_), .val (.int au), .val (.long ah), .second, .val (.long al), .second, .val (.long mz), .second, .val (.int tz), .val (.int uz), .val (.double xz), .second, .val (.long hz0), .second, .val (.long lz0), .second, .val (.int kz), .val (.long (0 : Int64)), .second, .val (.long ((mz.toUInt64 >>> ((-kz) &&& 0x3f).toInt64.toUInt64).toInt64)), .second, .val (.long (lz0 + ((mz.toUInt64 >>> ((-kz) &&& 0x3f).toInt64.toUInt64).toInt64))), .second, .val (.long ((lz0 + ((mz.toUInt64 >>> ((-kz) &&& 0x3f).toInt64.toUInt64).toInt64)) &&& (9223372036854775807 : Int64))), .second, .val (.long ((hz0 + (0 : Int64)) + (((lz0 + ((mz.toUInt64 >>> ((-kz) &&& 0x3f).toInt64.toUInt64).toInt64)).toUInt64 >>> ((63 : Int32) &&& 0x3f).toInt64.toUInt64).toInt64))), .second, .val (.ref b23)] [(.long ((hz0 + (0 : Int64)) + (((lz0 + ((mz.toUInt64 >>> ((-kz) &&& 0x3f).toInt64.toUInt64).toInt64)).toUInt64 >>> ((63 : Int32) &&& 0x3f).toInt64.toUInt64).toInt64))), (.long (hz0 + ((own_H xz) + (((lz0 + (own_L xz)).toUInt64 >>> ((63 : Int32) &&& 0x3f).toInt64.toUInt64).toInt64))))]) _
    refine stp (fun _ => XS.lcmp X31.here hx rfl (hb hby at_195) rfl) ?_
    show Go p e below T31 (mkF m 196 #[.val (.long ax), .second, .val (.int at_), .val (.int au), .val (.long ah), .second, .val (.long al), .second, .val (.long mz), .second, .val (.int tz), .val (.int uz), .val (.double xz), .second, .val (.long hz0), .second, .val (.long lz0), .second, .val (.int kz), .val (.long (0 : Int64)), .second, .val (.long ((mz.toUInt64 >>> ((-kz) &&& 0x3f).toInt64.toUInt64).toInt64)), .second, .val (.long (lz0 + ((mz.toUInt64 >>> ((-kz) &&& 0x3f).toInt64.toUInt64).toInt64))), .second, .val (.long ((lz0 + ((mz.toUInt64 >>> ((-kz) &&& 0x3f).toInt64.toUInt64).toInt64)) &&& (9223372036854775807 : Int64))), .second, .val (.long ((hz0 + (0 : Int64)) + (((lz0 + ((mz.toUInt64 >>> ((-kz) &&& 0x3f).toInt64.toUInt64).toInt64)).toUInt64 >>> ((63 : Int32) &&& 0x3f).toInt64.toUInt64).toInt64))), .second, .val (.ref b23)] [(.int (lcmpW (hz0 + ((own_H xz) + (((lz0 + (own_L xz)).toUInt64 >>> ((63 : Int32) &&& 0x3f).toInt64.toUInt64).toInt64))) ((hz0 + (0 : Int64)) + (((lz0 + ((mz.toUInt64 >>> ((-kz) &&& 0x3f).toInt64.toUInt64).toInt64)).toUInt64 >>> ((63 : Int32) &&& 0x3f).toInt64.toUInt64).toInt64))))]) _
    refine stp (fun _ => XS.ifNo X31.here hx rfl (hb hby at_196) rfl (XT.ll_ne_f (by rw [(own_A hok q74_1).1, (own_A hok q74_1).2]; exact (Int64.add_assoc _ _ _).symm))) ?_
    show Go p e below T31 (mkF m 199 #[.val (.long ax), .second, .val (.int at_), .val (.int au), .val (.long ah), .second, .val (.long al), .second, .val (.long mz), .second, .val (.int tz), .val (.int uz), .val (.double xz), .second, .val (.long hz0), .second, .val (.long lz0), .second, .val (.int kz), .val (.long (0 : Int64)), .second, .val (.long ((mz.toUInt64 >>> ((-kz) &&& 0x3f).toInt64.toUInt64).toInt64)), .second, .val (.long (lz0 + ((mz.toUInt64 >>> ((-kz) &&& 0x3f).toInt64.toUInt64).toInt64))), .second, .val (.long ((lz0 + ((mz.toUInt64 >>> ((-kz) &&& 0x3f).toInt64.toUInt64).toInt64)) &&& (9223372036854775807 : Int64))), .second, .val (.long ((hz0 + (0 : Int64)) + (((lz0 + ((mz.toUInt64 >>> ((-kz) &&& 0x3f).toInt64.toUInt64).toInt64)).toUInt64 >>> ((63 : Int32) &&& 0x3f).toInt64.toUInt64).toInt64))), .second, .val (.ref b23)] []) _
    refine stp (fun _ => XS.aload X31.here hx rfl (hb hby at_199) rfl rfl) ?_
    show Go p e below T31 (mkF m 201 #[.val (.long ax), .second, .val (.int at_), .val (.int au), .val (.long ah), .second, .val (.long al), .second, .val (.long mz), .second, .val (.int tz), .val (.int uz), .val (.double xz), .second, .val (.long hz0), .second, .val (.long lz0), .second, .val (.int kz), .val (.long (0 : Int64)), .second, .val (.long ((mz.toUInt64 >>> ((-kz) &&& 0x3f).toInt64.toUInt64).toInt64)), .second, .val (.long (lz0 + ((mz.toUInt64 >>> ((-kz) &&& 0x3f).toInt64.toUInt64).toInt64))), .second, .val (.long ((lz0 + ((mz.toUInt64 >>> ((-kz) &&& 0x3f).toInt64.toUInt64).toInt64)) &&& (9223372036854775807 : Int64))), .second, .val (.long ((hz0 + (0 : Int64)) + (((lz0 + ((mz.toUInt64 >>> ((-kz) &&& 0x3f).toInt64.toUInt64).toInt64)).toUInt64 >>> ((63 : Int32) &&& 0x3f).toInt64.toUInt64).toInt64))), .second, .val (.ref b23)] [(.ref b23)]) _
    obtain ⟨cq32, kq32, q32a, q32b, q32c⟩ := isOf hZ e31 r29_0
    obtain ⟨_, _, ⟨T32, L32, k32, n32⟩, -, X32, ⟨Lc32, hQ32, l32, y32, z32⟩, st32⟩ := X31.virtualBack hx (y := (⟨"com/example/heedful_rank/heedfulrank/solver/FixedPointSum", "low", "()J"⟩ : MethodName)) (z := (⟨"com/example/heedful_rank/heedfulrank/solver/FixedPointSum", "low", "()J"⟩ : MethodName)) hown (mvT hZ (hw _ (List.mem_of_getElem? (i := 38) rfl))) (mvT hZ (hw _ (List.mem_of_getElem? (i := 39) rfl))) (notFace_of_selects (args := #[]) (mvT hZ (hw _ (List.mem_of_getElem? (i := 41) rfl)))) (mvT hZ (hw _ (List.mem_of_getElem? (i := 41) rfl))) (mvT hZ (hw _ (List.mem_of_getElem? (i := 40) rfl))) (by decide) (backOf (W := 0) (rm_lo l Z a0 hw [] b23 ((lz0 + (own_L xz)) &&& (9223372036854775807 : Int64)) T29.heap n0 O29 r29_2) hZ (hw _ (List.mem_of_getElem? (i := 42) rfl)) (hw _ (List.mem_of_getElem? (i := 7) rfl)) (by decide) (by decide)) q32a q32c (g := (mkF m 201 #[.val (.long ax), .second, .val (.int at_), .val (.int au), .val (.long ah), .second, .val (.long al), .second, .val (.long mz), .second, .val (.int tz), .val (.int uz), .val (.double xz), .second, .val (.long hz0), .second, .val (.long lz0), .second, .val (.int kz), .val (.long (0 : Int64)), .second, .val (.long ((mz.toUInt64 >>> ((-kz) &&& 0x3f).toInt64.toUInt64).toInt64)), .second, .val (.long (lz0 + ((mz.toUInt64 >>> ((-kz) &&& 0x3f).toInt64.toUInt64).toInt64))), .second, .val (.long ((lz0 + ((mz.toUInt64 >>> ((-kz) &&& 0x3f).toInt64.toUInt64).toInt64)) &&& (9223372036854775807 : Int64))), .second, .val (.long ((hz0 + (0 : Int64)) + (((lz0 + ((mz.toUInt64 >>> ((-kz) &&& 0x3f).toInt64.toUInt64).toInt64)).toUInt64 >>> ((63 : Int32) &&& 0x3f).toInt64.toUInt64).toInt64))), .second, .val (.ref b23)] [(.ref b23)])) rfl (by rw [hml]; rfl) (Steps.refl _) (argsL := []) (rest := []) (lenOf pd_3 rfl) rfl (by show 2 * 0 + _ ≤ _; exact Nat.le_of_eq rfl) (hb hby at_201) (fun _ _ => ⟨rfl, e31, (by decide : 1 + 0 ≤ _), (by decide : 2 + 0 ≤ _)⟩)
    dsimp only [Pt.U, Pt.locs, Pt.cells, Pt.slots] at X32 l32 y32 z32 st32 hQ32
    subst y32 z32
    obtain ⟨rfl, N32q, e32⟩ := hQ32
    have N32 : Fr n0 L32 := by rw [l32]; exact Fr.app N31 N32q
    refine stt st32 ?_
    show Go p e below T32 (mkF m 204 #[.val (.long ax), .second, .val (.int at_), .val (.int au), .val (.long ah), .second, .val (.long al), .second, .val (.long mz), .second, .val (.int tz), .val (.int uz), .val (.double xz), .second, .val (.long hz0), .second, .val (.long lz0), .second, .val (.int kz), .val (.long (0 : Int64)), .second, .val (.long ((mz.toUInt64 >>> ((-kz) &&& 0x3f).toInt64.toUInt64).toInt64)), .second, .val (.long (lz0 + ((mz.toUInt64 >>> ((-kz) &&& 0x3f).toInt64.toUInt64).toInt64))), .second, .val (.long ((lz0 + ((mz.toUInt64 >>> ((-kz) &&& 0x3f).toInt64.toUInt64).toInt64)) &&& (9223372036854775807 : Int64))), .second, .val (.long ((hz0 + (0 : Int64)) + (((lz0 + ((mz.toUInt64 >>> ((-kz) &&& 0x3f).toInt64.toUInt64).toInt64)).toUInt64 >>> ((63 : Int32) &&& 0x3f).toInt64.toUInt64).toInt64))), .second, .val (.ref b23)] [(.long ((lz0 + (own_L xz)) &&& (9223372036854775807 : Int64)))]) _
    refine stp (fun _ => XS.lload X32.here hx rfl (hb hby at_204) rfl) ?_
    show Go p e below T32 (mkF m 206 #[.val (.long ax), .second, .val (.int at_), .val (.int au), .val (.long ah), .second, .val (.long al), .second, .val (.long mz), .second, .val (.int tz), .val (.int uz), .val (.double xz), .second, .val (.long hz0), .second, .val (.long lz0), .second, .val (.int kz), .val (.long (0 : Int64)), .second, .val (.long ((mz.toUInt64 >>> ((-kz) &&& 0x3f).toInt64.toUInt64).toInt64)), .second, .val (.long (lz0 + ((mz.toUInt64 >>> ((-kz) &&& 0x3f).toInt64.toUInt64).toInt64))), .second, .val (.long ((lz0 + ((mz.toUInt64 >>> ((-kz) &&& 0x3f).toInt64.toUInt64).toInt64)) &&& (9223372036854775807 : Int64))), .second, .val (.long ((hz0 + (0 : Int64)) + (((lz0 + ((mz.toUInt64 >>> ((-kz) &&& 0x3f).toInt64.toUInt64).toInt64)).toUInt64 >>> ((63 : Int32) &&& 0x3f).toInt64.toUInt64).toInt64))), .second, .val (.ref b23)] [(.long ((lz0 + ((mz.toUInt64 >>> ((-kz) &&& 0x3f).toInt64.toUInt64).toInt64)) &&& (9223372036854775807 : Int64))), (.long ((lz0 + (own_L xz)) &&& (9223372036854775807 : Int64)))]) _
    refine stp (fun _ => XS.lcmp X32.here hx rfl (hb hby at_206) rfl) ?_
    show Go p e below T32 (mkF m 207 #[.val (.long ax), .second, .val (.int at_), .val (.int au), .val (.long ah), .second, .val (.long al), .second, .val (.long mz), .second, .val (.int tz), .val (.int uz), .val (.double xz), .second, .val (.long hz0), .second, .val (.long lz0), .second, .val (.int kz), .val (.long (0 : Int64)), .second, .val (.long ((mz.toUInt64 >>> ((-kz) &&& 0x3f).toInt64.toUInt64).toInt64)), .second, .val (.long (lz0 + ((mz.toUInt64 >>> ((-kz) &&& 0x3f).toInt64.toUInt64).toInt64))), .second, .val (.long ((lz0 + ((mz.toUInt64 >>> ((-kz) &&& 0x3f).toInt64.toUInt64).toInt64)) &&& (9223372036854775807 : Int64))), .second, .val (.long ((hz0 + (0 : Int64)) + (((lz0 + ((mz.toUInt64 >>> ((-kz) &&& 0x3f).toInt64.toUInt64).toInt64)).toUInt64 >>> ((63 : Int32) &&& 0x3f).toInt64.toUInt64).toInt64))), .second, .val (.ref b23)] [(.int (lcmpW ((lz0 + (own_L xz)) &&& (9223372036854775807 : Int64)) ((lz0 + ((mz.toUInt64 >>> ((-kz) &&& 0x3f).toInt64.toUInt64).toInt64)) &&& (9223372036854775807 : Int64))))]) _
    refine stp (fun _ => XS.ifNo X32.here hx rfl (hb hby at_207) rfl (XT.ll_ne_f (by rw [(own_A hok q74_1).2]))) ?_
    show Go p e below T32 (mkF m 210 #[.val (.long ax), .second, .val (.int at_), .val (.int au), .val (.long ah), .second, .val (.long al), .second, .val (.long mz), .second, .val (.int tz), .val (.int uz), .val (.double xz), .second, .val (.long hz0), .second, .val (.long lz0), .second, .val (.int kz), .val (.long (0 : Int64)), .second, .val (.long ((mz.toUInt64 >>> ((-kz) &&& 0x3f).toInt64.toUInt64).toInt64)), .second, .val (.long (lz0 + ((mz.toUInt64 >>> ((-kz) &&& 0x3f).toInt64.toUInt64).toInt64))), .second, .val (.long ((lz0 + ((mz.toUInt64 >>> ((-kz) &&& 0x3f).toInt64.toUInt64).toInt64)) &&& (9223372036854775807 : Int64))), .second, .val (.long ((hz0 + (0 : Int64)) + (((lz0 + ((mz.toUInt64 >>> ((-kz) &&& 0x3f).toInt64.toUInt64).toInt64)).toUInt64 >>> ((63 : Int32) &&& 0x3f).toInt64.toUInt64).toInt64))), .second, .val (.ref b23)] []) _
    refine stp (fun _ => XS.iconst X32.here hx rfl (hb hby at_210)) ?_
    show Go p e below T32 (mkF m 211 #[.val (.long ax), .second, .val (.int at_), .val (.int au), .val (.long ah), .second, .val (.long al), .second, .val (.long mz), .second, .val (.int tz), .val (.int uz), .val (.double xz), .second, .val (.long hz0), .second, .val (.long lz0), .second, .val (.int kz), .val (.long (0 : Int64)), .second, .val (.long ((mz.toUInt64 >>> ((-kz) &&& 0x3f).toInt64.toUInt64).toInt64)), .second, .val (.long (lz0 + ((mz.toUInt64 >>> ((-kz) &&& 0x3f).toInt64.toUInt64).toInt64))), .second, .val (.long ((lz0 + ((mz.toUInt64 >>> ((-kz) &&& 0x3f).toInt64.toUInt64).toInt64)) &&& (9223372036854775807 : Int64))), .second, .val (.long ((hz0 + (0 : Int64)) + (((lz0 + ((mz.toUInt64 >>> ((-kz) &&& 0x3f).toInt64.toUInt64).toInt64)).toUInt64 >>> ((63 : Int32) &&& 0x3f).toInt64.toUInt64).toInt64))), .second, .val (.ref b23)] [(.int (1 : Int32))]) _
    refine stp (fun _ => XS.goto X32.here hx rfl (pc0 := 211) (pc' := 215) rfl (hb hby at_211) (by decide) (by decide)) ?_
    show Go p e below T32 (mkF m 215 #[.val (.long ax), .second, .val (.int at_), .val (.int au), .val (.long ah), .second, .val (.long al), .second, .val (.long mz), .second, .val (.int tz), .val (.int uz), .val (.double xz), .second, .val (.long hz0), .second, .val (.long lz0), .second, .val (.int kz), .val (.long (0 : Int64)), .second, .val (.long ((mz.toUInt64 >>> ((-kz) &&& 0x3f).toInt64.toUInt64).toInt64)), .second, .val (.long (lz0 + ((mz.toUInt64 >>> ((-kz) &&& 0x3f).toInt64.toUInt64).toInt64))), .second, .val (.long ((lz0 + ((mz.toUInt64 >>> ((-kz) &&& 0x3f).toInt64.toUInt64).toInt64)) &&& (9223372036854775807 : Int64))), .second, .val (.long ((hz0 + (0 : Int64)) + (((lz0 + ((mz.toUInt64 >>> ((-kz) &&& 0x3f).toInt64.toUInt64).toInt64)).toUInt64 >>> ((63 : Int32) &&& 0x3f).toInt64.toUInt64).toInt64))), .second, .val (.ref b23)] [(.int (1 : Int32))]) _
    refine outN X32 hx (t := .boolean) hret (by simp) (hb hby at_215) hlk (by decide) (by decide) ?_
    exact ⟨rfl, N32⟩
set_option maxRecDepth 65536 in
set_option maxHeartbeats 40000000 in
theorem comes_1 {Post : Tables → Env → Array Value → State → Outcome → State → Prop} (hpost : ∀ tb e args s v u, (limb_1_1.after args s (.returned v) u = true ∧ limb_1_2.after args s (.returned v) u = true ∧ True) → FrameEnd s (.returned v) u (Jvm.fieldLocs frame_1_writes args s ++ Jvm.arrayLocs frame_1_arrays args s ++ Jvm.staticLocs frame_1_statics s) 16 128 → Post tb e args s (.returned v) u) :
    ArmFor flags0 classFile x code maxLocals ret World_1 tables_1 room_1 Calls_1 rest_1 Pre_1 Post := by
  intro l hfl _ _ p e ha hc hk s m args below hf hA hF happ hP
  obtain ⟨hcalls, hrest, hpre⟩ := hP
  obtain ⟨-, -, -, hnamed, -, -, -, hat⟩ := (Spec.applies_iff hf).mp happ
  obtain ⟨hg, hn⟩ := and_e (Cond.before_iff.mp (show (Jvm.Cond.and given_1 narrow_1).before args s = true from hpre))
  obtain ⟨g1, g2⟩ := and_e hg
  obtain ⟨g3, g4⟩ := and_e g2
  obtain ⟨g5, g6⟩ := and_e g4
  obtain ⟨g7, g8⟩ := and_e g6
  obtain ⟨g9, g10⟩ := and_e g8
  obtain ⟨w0, w1, w2, w3, w4, rfl⟩ : ∃ w0 w1 w2 w3 w4 : Value, args = #[w0, w1, w2, w3, w4] := by
    have hs : args.size = 5 := by simpa [Cond.value, given_1] using g1
    obtain ⟨L⟩ := args
    match L, hs with
    | [w0, w1, w2, w3, w4], _ => exact ⟨w0, w1, w2, w3, w4, rfl⟩
  have hw := fun d (hd : d ∈ tables_1) => atoms_spec (ws := Jvm.Cond.code x code maxLocals ret :: tables_1) hat d (List.mem_cons_of_mem _ hd)
  have hfit : Fit s := fun {y c} hc i hi => by
    obtain ⟨ha, rfl⟩ := Array.getElem?_eq_some_iff.mp hc
    have q := List.all_eq_true.mp ((Array.all_eq_true_iff_forall_mem.mp hF) _ (Array.getElem_mem ha)) i (List.mem_range.mpr hi)
    simpa [Array.getElem?_eq_getElem hi] using q
  obtain ⟨i0, ei0⟩ := isL_v g3
  obtain rfl : w0 = (.long i0) := Option.some.inj ei0
  obtain ⟨i1, ei1⟩ := is_v g5
  obtain rfl : w1 = (.int i1) := Option.some.inj ei1
  obtain ⟨i2, ei2⟩ := is_v g7
  obtain rfl : w2 = (.int i2) := Option.some.inj ei2
  obtain ⟨i3, ei3⟩ := isL_v g9
  obtain rfl : w3 = (.long i3) := Option.some.inj ei3
  obtain ⟨i4, ei4⟩ := isL_v g10
  obtain rfl : w4 = (.long i4) := Option.some.inj ei4
  obtain ⟨n, o, h1, h2, h3, _, L, rfl, ⟨rfl, N⟩, hq⟩ := rm0 l s _ hw tables_1 i0 i1 i2 i3 i4  s.heap s.heap.size (Old.start s)  p e ha hc hk s m _ below hf ((Spec.applies_iff_loose hf).mp happ).1 ⟨rfl, State.Warmed39.refl s, rfl⟩ trivial
  refine ⟨n, _, h1, h2, h3, hpost _ _ _ _ _ _ ⟨Cond.after_iff.mpr rfl, Cond.after_iff.mpr (eq_i res_at (Term.int_eval (1)) rfl), trivial⟩ ⟨hq.1, hq.2.1, (hq.2.2.sift fun y hy => Or.inr (N y hy)).mono (by decide) (by decide)⟩⟩
theorem main_1_1 : Claimed_1_1 := comes_1 fun _ _ _ _ _ _ h hF => ⟨h.1, hF⟩
theorem main_1_2 : Claimed_1_2 := comes_1 fun _ _ _ _ _ _ h hF => ⟨h.2.1, hF⟩
end Jvm.Pilot.@@N@@
namespace Jvm.Pilot.@@N@@
open Jvm Jvm.ClassFile Sem Op Lib Jvm.Free Jvm.Stand Jvm.Pilot.@@N@@.Jvm.D
/-! MADE BY PROGRAM (witnessworld.py) out of the Statement's table words and the real class files: 9 classes; the members and pool entries that the words name. The judged class is class 1, her method 1. -/
namespace start1
open Jvm.ClassFile
def u (s : String) : CpInfo := .utf8 (stringToUtf16 s)
/-- a pool by its gaps: so many unusable entries, then the entry; so many at the end -/
def gap : Nat → List CpInfo → List CpInfo
  | 0, r => r
  | n + 1, r => .unusable :: gap n r
def poolList (es : List (Nat × CpInfo)) (last : Nat) : List CpInfo := es.foldr (fun e r => gap e.1 (e.2 :: r)) (gap last [])
def pool (es : List (Nat × CpInfo)) (last : Nat) : Array CpInfo := ⟨poolList es last⟩
def fileOf (pool : Array CpInfo) (this : Nat) (attrs : Array Attribute := #[]) (ms : Array MethodInfo := #[]) (fl : Nat := 33) (sup : Nat := 0) (ifs : Array Nat := #[]) (fds : Array FieldInfo := #[]) : ClassFile where
  minorVersion := 0
  majorVersion := 65
  constantPool := pool
  accessFlags := fl
  thisClass := this
  superClass := sup
  interfaces := ifs
  fields := fds
  methods := ms
  attributes := attrs
def plain (name : String) (sup : Option ClassId) : Class where
  name := name
  kind := .ordinary
  loader := none
  accessFlags := 33
  super := sup
  interfaces := #[]
  cf := none
  fields := #[]
  methods := #[]
  instanceTypes := #[]
  staticTypes := #[]
  resolved := #[]
  callSites := []
  init := .initialized
  statics := none
  mirror := none

def pool0 : Array CpInfo := pool [(5, u "<init>"), (0, u "()V"), (1, .class_ 10), (1, u "java/lang/Object")] 113

def k0c0 : Code := { maxStack := 0, maxLocals := 1, code := object_method_1_code, exceptionTable := #[], attributes := #[] }
def k0m0 : Method := { name := "<init>", desc := "()V", sig := { parameters := [], returnType := none }, accessFlags := 1, code := some k0c0 }
/-- java/lang/Object -/
def k0 : Class := { plain "java/lang/Object" none with
  accessFlags := 33
  interfaces := #[]
  cf := some (fileOf pool0 8 #[] #[{ accessFlags := 1, nameIndex := 5, descriptorIndex := 6, attributes := #[] }] 33 0 #[] #[])
  fields := #[]
  methods := #[k0m0]
  instanceTypes := #[]
  staticTypes := #[]
  resolved := Array.replicate 124 none
  statics := none }

def pool1 : Array CpInfo := pool [(2, .class_ 4), (0, .nameAndType 5 6), (0, u "java/lang/Object"), (0, u "<init>"), (0, u "()V"), (0, .long 9007199254740991), (1, .integer 2147483647), (0, .double 4841369599423283200), (1, .long 4611686018427387903), (3, .long 9223372036854775807), (1, .class_ 19), (0, u "com/example/heedful_rank/heedfulrank/solver/FixedPointSum"), (0, .methodref 18 3), (0, .methodref 18 22), (0, .nameAndType 23 24), (0, u "resume"), (0, u "(JJ)V"), (0, .methodref 18 26), (0, .nameAndType 27 28), (0, u "add"), (0, u "(D)V"), (0, .methodref 18 30), (0, .nameAndType 31 32), (0, u "high"), (0, u "()J"), (0, .methodref 18 34), (0, .nameAndType 35 32), (0, u "low"), (0, .class_ 37), (0, u "com/example/heedful_rank/heedfulrank/solver/FixedPointSumAddPinLaw"), (2, u "law"), (0, u "(JIIJJ)Z")] 3

def k1m0 : Method := { name := "<init>", desc := "()V", sig := { parameters := [], returnType := none }, accessFlags := 1, code := none }
def k1c1 : Code := { maxStack := 5, maxLocals := 30, code := code, exceptionTable := #[], attributes := #[] }
def k1m1 : Method := { name := "law", desc := "(JIIJJ)Z", sig := { parameters := [.long, .int, .int, .long, .long], returnType := some .boolean }, accessFlags := 9, code := some k1c1 }
/-- com/example/heedful_rank/heedfulrank/solver/FixedPointSumAddPinLaw -/
def k1 : Class := { plain "com/example/heedful_rank/heedfulrank/solver/FixedPointSumAddPinLaw" (some 0) with
  accessFlags := 49
  interfaces := #[]
  cf := some (fileOf pool1 36 #[] #[{ accessFlags := 1, nameIndex := 5, descriptorIndex := 6, attributes := #[] }, { accessFlags := 9, nameIndex := 40, descriptorIndex := 41, attributes := #[] }] 49 2 #[] #[])
  fields := #[]
  methods := #[k1m0, k1m1]
  instanceTypes := #[]
  staticTypes := #[]
  resolved := Array.replicate 45 none
  statics := none }

def pool2 : Array CpInfo := pool [(1, .class_ 2), (0, u "com/example/heedful_rank/heedfulrank/solver/FixedPointSum"), (0, .methodref 4 5), (0, .class_ 6), (0, .nameAndType 7 8), (0, u "java/lang/Object"), (0, u "<init>"), (0, u "()V"), (0, .fieldref 1 10), (0, .nameAndType 11 12), (0, u "high"), (0, u "J"), (0, .fieldref 1 14), (0, .nameAndType 15 12), (0, u "low"), (4, .double 4611686018427387904), (10, .double 5147614374084476928), (1, .double 4323455642275676160), (1, .double 4890909195324358656), (3, .long 9223372036854775807), (22, u "ROUGH_UNITS_PER_ONE"), (0, u "D"), (1, u "ROUGH_UNIT"), (0, u "UNIT_BITS"), (0, u "I"), (1, u "UNIT"), (0, u "UNITS_PER_ONE"), (0, u "LOW_BITS"), (1, u "LOW_SPAN"), (0, u "PER_LOW_SPAN"), (0, u "FRACTION_BITS"), (1, u "DROPPED_BITS"), (1, u "DROPPED_MASK"), (0, u "HALF_OF_DROPPED"), (3, u "resume"), (0, u "(JJ)V"), (3, u "()J"), (0, u "add"), (0, u "(D)V")] 20

def k2c0 : Code := { maxStack := 1, maxLocals := 1, code := prog_20_method_1_code, exceptionTable := #[], attributes := #[] }
def k2m0 : Method := { name := "<init>", desc := "()V", sig := { parameters := [], returnType := none }, accessFlags := 0, code := some k2c0 }
def k2c1 : Code := { maxStack := 3, maxLocals := 5, code := prog_20_method_3_code, exceptionTable := #[], attributes := #[] }
def k2m1 : Method := { name := "resume", desc := "(JJ)V", sig := { parameters := [.long, .long], returnType := none }, accessFlags := 0, code := some k2c1 }
def k2c2 : Code := { maxStack := 2, maxLocals := 1, code := prog_20_method_6_code, exceptionTable := #[], attributes := #[] }
def k2m2 : Method := { name := "high", desc := "()J", sig := { parameters := [], returnType := some .long }, accessFlags := 0, code := some k2c2 }
def k2c3 : Code := { maxStack := 2, maxLocals := 1, code := prog_20_method_7_code, exceptionTable := #[], attributes := #[] }
def k2m3 : Method := { name := "low", desc := "()J", sig := { parameters := [], returnType := some .long }, accessFlags := 0, code := some k2c3 }
def k2c4 : Code := { maxStack := 8, maxLocals := 9, code := prog_20_method_8_code, exceptionTable := #[], attributes := #[] }
def k2m4 : Method := { name := "add", desc := "(D)V", sig := { parameters := [.double], returnType := none }, accessFlags := 0, code := some k2c4 }
/-- com/example/heedful_rank/heedfulrank/solver/FixedPointSum -/
def k2 : Class := { plain "com/example/heedful_rank/heedfulrank/solver/FixedPointSum" (some 0) with
  accessFlags := 48
  interfaces := #[]
  cf := some (fileOf pool2 1 #[] #[{ accessFlags := 0, nameIndex := 7, descriptorIndex := 8, attributes := #[] }, { accessFlags := 0, nameIndex := 84, descriptorIndex := 85, attributes := #[] }, { accessFlags := 0, nameIndex := 11, descriptorIndex := 89, attributes := #[] }, { accessFlags := 0, nameIndex := 15, descriptorIndex := 89, attributes := #[] }, { accessFlags := 0, nameIndex := 90, descriptorIndex := 91, attributes := #[] }] 48 4 #[] #[{ accessFlags := 26, nameIndex := 62, descriptorIndex := 63, attributes := #[] }, { accessFlags := 26, nameIndex := 65, descriptorIndex := 63, attributes := #[] }, { accessFlags := 26, nameIndex := 66, descriptorIndex := 67, attributes := #[] }, { accessFlags := 26, nameIndex := 69, descriptorIndex := 63, attributes := #[] }, { accessFlags := 26, nameIndex := 70, descriptorIndex := 63, attributes := #[] }, { accessFlags := 26, nameIndex := 71, descriptorIndex := 67, attributes := #[] }, { accessFlags := 26, nameIndex := 73, descriptorIndex := 63, attributes := #[] }, { accessFlags := 26, nameIndex := 74, descriptorIndex := 63, attributes := #[] }, { accessFlags := 26, nameIndex := 75, descriptorIndex := 67, attributes := #[] }, { accessFlags := 26, nameIndex := 77, descriptorIndex := 67, attributes := #[] }, { accessFlags := 26, nameIndex := 79, descriptorIndex := 12, attributes := #[] }, { accessFlags := 26, nameIndex := 80, descriptorIndex := 12, attributes := #[] }, { accessFlags := 2, nameIndex := 11, descriptorIndex := 12, attributes := #[] }, { accessFlags := 2, nameIndex := 15, descriptorIndex := 12, attributes := #[] }])
  fields := #[{ name := "ROUGH_UNITS_PER_ONE", type := .double, accessFlags := 26, slot := 0, constantValue := 0 }, { name := "ROUGH_UNIT", type := .double, accessFlags := 26, slot := 1, constantValue := 0 }, { name := "UNIT_BITS", type := .int, accessFlags := 26, slot := 2, constantValue := 0 }, { name := "UNIT", type := .double, accessFlags := 26, slot := 3, constantValue := 0 }, { name := "UNITS_PER_ONE", type := .double, accessFlags := 26, slot := 4, constantValue := 0 }, { name := "LOW_BITS", type := .int, accessFlags := 26, slot := 5, constantValue := 0 }, { name := "LOW_SPAN", type := .double, accessFlags := 26, slot := 6, constantValue := 0 }, { name := "PER_LOW_SPAN", type := .double, accessFlags := 26, slot := 7, constantValue := 0 }, { name := "FRACTION_BITS", type := .int, accessFlags := 26, slot := 8, constantValue := 0 }, { name := "DROPPED_BITS", type := .int, accessFlags := 26, slot := 9, constantValue := 0 }, { name := "DROPPED_MASK", type := .long, accessFlags := 26, slot := 10, constantValue := 0 }, { name := "HALF_OF_DROPPED", type := .long, accessFlags := 26, slot := 11, constantValue := 0 }, { name := "high", type := .long, accessFlags := 2, slot := 0, constantValue := 0 }, { name := "low", type := .long, accessFlags := 2, slot := 1, constantValue := 0 }]
  methods := #[k2m0, k2m1, k2m2, k2m3, k2m4]
  instanceTypes := #[.long, .long]
  staticTypes := #[.double, .double, .int, .double, .double, .int, .double, .double, .int, .int, .long, .long]
  resolved := Array.replicate 112 none
  statics := none }

def pool3 : Array CpInfo := pool [(1, u "java/lang/Cloneable"), (0, .class_ 1), (0, u "java/lang/Object"), (0, .class_ 3)] 3

/-- java/lang/Cloneable -/
def k3 : Class := { plain "java/lang/Cloneable" (some 0) with
  accessFlags := 1537
  interfaces := #[]
  cf := some (fileOf pool3 2 #[] #[] 1537 4 #[] #[])
  fields := #[]
  methods := #[]
  instanceTypes := #[]
  staticTypes := #[]
  resolved := Array.replicate 8 none
  statics := none }

def pool4 : Array CpInfo := pool [(1, u "java/io/Serializable"), (0, .class_ 1), (0, u "java/lang/Object"), (0, .class_ 3)] 3

/-- java/io/Serializable -/
def k4 : Class := { plain "java/io/Serializable" (some 0) with
  accessFlags := 1537
  interfaces := #[]
  cf := some (fileOf pool4 2 #[] #[] 1537 4 #[] #[])
  fields := #[]
  methods := #[]
  instanceTypes := #[]
  staticTypes := #[]
  resolved := Array.replicate 8 none
  statics := none }

/-- the primitive byte -/
def k5 : Class := { plain "byte" none with kind := .primitive 'B', accessFlags := 0x411 }
/-- [B -/
def k6 : Class := { plain "[B" (some 0) with kind := .array 5 .byte, interfaces := #[3, 4], accessFlags := 1041 }

/-- the primitive int -/
def k7 : Class := { plain "int" none with kind := .primitive 'I', accessFlags := 0x411 }
/-- [I -/
def k8 : Class := { plain "[I" (some 0) with kind := .array 7 .int, interfaces := #[3, 4], accessFlags := 1041 }

def heap : Heap := #[]
def classes : Array Class := #[k0, k1, k2, k3, k4, k5, k6, k7, k8]
def interned : List (Array UInt16 × Addr) := []
def slotsUsed : Nat := 0
def theMethod : MethodId := ⟨1, 1⟩
def args0 : Array Value := #[.long 5, .int 3, .int 4, .long 7, .long 9]
def aboutOver (below : List Frame) : State where
  vm := { classes := classes, interned := interned.toArray }
  heap := heap
  slotsUsed := slotsUsed
  threads := #[{ frames := .invoking theMethod args0 :: below }]
def below0 : List Frame := [.native { method := ⟨0, 0⟩, args := #[] }]
def about1 : State := aboutOver below0
def p0 : Program := .bare "" "" ""
def e0 : Env := launch0.env 0 0 0
theorem w_frames : about1.frames = Frame.invoking theMethod args0 :: below0 := rfl
set_option maxRecDepth 65536 in
theorem w_args : argsFit about1.vm theMethod args0 = true := by decide +kernel
set_option maxRecDepth 65536 in
theorem w_heap : heapFits about1 = true := by decide +kernel
set_option maxRecDepth 65536 in
theorem w_runnable : about1.curStatus? = some .runnable := by decide +kernel
set_option maxRecDepth 65536 in
theorem w_alone : about1.alone = true := by decide +kernel
set_option maxRecDepth 65536 in
theorem w_named : about1.methodNamed? x = some theMethod := by decide +kernel
set_option maxRecDepth 65536 in
theorem w_hears : about1.hears theMethod below0 = true := by decide +kernel
set_option maxRecDepth 65536 in
theorem w_ripe : about1.ripe theMethod args0 below0 = true := by decide +kernel
theorem w_running : about1.status = .running := rfl
set_option maxRecDepth 65536 in
theorem w_room : about1.hasRoom e0.platform room_1 = true :=
  launch0.hasRoom_least _ room_1 (by decide +kernel) (by decide +kernel) (by decide +kernel) (by decide +kernel) (by decide +kernel) (by decide +kernel)
theorem allAtoms_all (ts : List Jvm.Cond) (a : Array Jvm.Value) (st : Jvm.State) : (allAtoms ts).before a st = ts.all (fun c => c.before a st) := by
  induction ts with
  | nil => rfl
  | cons c t ih =>
    show (Jvm.Cond.and c (allAtoms t)).before a st = _
    rw [Jvm.Cond.before_and, ih, List.all_cons]
def words1 : List Jvm.Cond := Jvm.Cond.code x code maxLocals ret :: tables_1
/-- a 'code' word, met by the world's own term for the bytes: nothing is compared byte by byte -/
theorem code_word {y : MethodName} {bytes : ByteArray} {mx : Nat} {rt : Option FieldType} {a : Array Value} {s : State} {m : MethodId} {meth : Method} {c : Code} (h1 : s.methodNamed? y = some m) (h2 : s.vm.method? m = some meth) (h3 : meth.code = some c) (h4 : c.code = bytes)
    (h5 : (c.maxLocals == mx && c.exceptionTable.isEmpty && decide (c.maxStack ≤ mostOperands) && decide (meth.sig.returnType = rt) && !meth.locks && decide (parseMethodDescriptor y.desc = some meth.sig)) = true) : (Jvm.Cond.code y bytes mx rt).before a s = true := by
  simp only [Bool.and_eq_true, beq_iff_eq, Bool.not_eq_true', decide_eq_true_eq] at h5
  obtain ⟨⟨⟨⟨⟨g1, g2⟩, g3⟩, g4⟩, g5⟩, g6⟩ := h5
  simp [Cond.before, Cond.holds, Cond.value, h1, h2, h3, h4, g1, g2, g3, g4, g5, g6]
def isCode : Jvm.Cond → Bool
  | .code _ _ _ _ => true
  | _ => false
theorem all_split {L : List Jvm.Cond} {P : Jvm.Cond → Bool} (h1 : L.all (fun c => isCode c || P c) = true) (h2 : ∀ c ∈ L.filter isCode, P c = true) : L.all P = true := by
  refine List.all_eq_true.mpr fun c hc => ?_
  have h := List.all_eq_true.mp h1 c hc
  rcases Bool.eq_false_or_eq_true (isCode c) with hi | hi
  · exact h2 c (List.mem_filter.mpr ⟨hc, hi⟩)
  · simpa [hi] using h
set_option maxRecDepth 65536 in
theorem w_c0 : (Jvm.Cond.code x code maxLocals ret).before args0 about1 = true := code_word (m := ⟨1, 1⟩) (meth := k1m1) (c := k1c1) (by decide +kernel) rfl rfl rfl (by decide +kernel)
set_option maxRecDepth 65536 in
theorem w_c1 : (Jvm.Cond.code ({ cls := "com/example/heedful_rank/heedfulrank/solver/FixedPointSum", name := "<init>", desc := "()V" } : Jvm.MethodName) prog_20_method_1_code (1 : Nat) (Option.none : Option Jvm.ClassFile.FieldType)).before args0 about1 = true := code_word (m := ⟨2, 0⟩) (meth := k2m0) (c := k2c0) (by decide +kernel) rfl rfl rfl (by decide +kernel)
set_option maxRecDepth 65536 in
theorem w_c2 : (Jvm.Cond.code ({ cls := "java/lang/Object", name := "<init>", desc := "()V" } : Jvm.MethodName) object_method_1_code (1 : Nat) (Option.none : Option Jvm.ClassFile.FieldType)).before args0 about1 = true := code_word (m := ⟨0, 0⟩) (meth := k0m0) (c := k0c0) (by decide +kernel) rfl rfl rfl (by decide +kernel)
set_option maxRecDepth 65536 in
theorem w_c3 : (Jvm.Cond.code ({ cls := "com/example/heedful_rank/heedfulrank/solver/FixedPointSum", name := "resume", desc := "(JJ)V" } : Jvm.MethodName) prog_20_method_3_code (5 : Nat) (Option.none : Option Jvm.ClassFile.FieldType)).before args0 about1 = true := code_word (m := ⟨2, 1⟩) (meth := k2m1) (c := k2c1) (by decide +kernel) rfl rfl rfl (by decide +kernel)
set_option maxRecDepth 65536 in
theorem w_c4 : (Jvm.Cond.code ({ cls := "com/example/heedful_rank/heedfulrank/solver/FixedPointSum", name := "add", desc := "(D)V" } : Jvm.MethodName) prog_20_method_8_code (9 : Nat) (Option.none : Option Jvm.ClassFile.FieldType)).before args0 about1 = true := code_word (m := ⟨2, 4⟩) (meth := k2m4) (c := k2c4) (by decide +kernel) rfl rfl rfl (by decide +kernel)
set_option maxRecDepth 65536 in
theorem w_c5 : (Jvm.Cond.code ({ cls := "com/example/heedful_rank/heedfulrank/solver/FixedPointSum", name := "high", desc := "()J" } : Jvm.MethodName) prog_20_method_6_code (1 : Nat) (Option.some Jvm.ClassFile.FieldType.long)).before args0 about1 = true := code_word (m := ⟨2, 2⟩) (meth := k2m2) (c := k2c2) (by decide +kernel) rfl rfl rfl (by decide +kernel)
set_option maxRecDepth 65536 in
theorem w_c6 : (Jvm.Cond.code ({ cls := "com/example/heedful_rank/heedfulrank/solver/FixedPointSum", name := "low", desc := "()J" } : Jvm.MethodName) prog_20_method_7_code (1 : Nat) (Option.some Jvm.ClassFile.FieldType.long)).before args0 about1 = true := code_word (m := ⟨2, 3⟩) (meth := k2m3) (c := k2c3) (by decide +kernel) rfl rfl rfl (by decide +kernel)
def codes1 : List Jvm.Cond := [Jvm.Cond.code x code maxLocals ret, Jvm.Cond.code ({ cls := "com/example/heedful_rank/heedfulrank/solver/FixedPointSum", name := "<init>", desc := "()V" } : Jvm.MethodName) prog_20_method_1_code (1 : Nat) (Option.none : Option Jvm.ClassFile.FieldType), Jvm.Cond.code ({ cls := "java/lang/Object", name := "<init>", desc := "()V" } : Jvm.MethodName) object_method_1_code (1 : Nat) (Option.none : Option Jvm.ClassFile.FieldType), Jvm.Cond.code ({ cls := "com/example/heedful_rank/heedfulrank/solver/FixedPointSum", name := "resume", desc := "(JJ)V" } : Jvm.MethodName) prog_20_method_3_code (5 : Nat) (Option.none : Option Jvm.ClassFile.FieldType), Jvm.Cond.code ({ cls := "com/example/heedful_rank/heedfulrank/solver/FixedPointSum", name := "add", desc := "(D)V" } : Jvm.MethodName) prog_20_method_8_code (9 : Nat) (Option.none : Option Jvm.ClassFile.FieldType), Jvm.Cond.code ({ cls := "com/example/heedful_rank/heedfulrank/solver/FixedPointSum", name := "high", desc := "()J" } : Jvm.MethodName) prog_20_method_6_code (1 : Nat) (Option.some Jvm.ClassFile.FieldType.long), Jvm.Cond.code ({ cls := "com/example/heedful_rank/heedfulrank/solver/FixedPointSum", name := "low", desc := "()J" } : Jvm.MethodName) prog_20_method_7_code (1 : Nat) (Option.some Jvm.ClassFile.FieldType.long)]
set_option maxRecDepth 65536 in
theorem codes_eq : words1.filter isCode = codes1 := rfl
theorem w_codes : ∀ c ∈ words1.filter isCode, c.before args0 about1 = true := by
  rw [codes_eq]
  intro c hc
  simp only [codes1, List.mem_cons, List.not_mem_nil, or_false] at hc
  rcases hc with rfl | rfl | rfl | rfl | rfl | rfl | rfl
  · exact w_c0
  · exact w_c1
  · exact w_c2
  · exact w_c3
  · exact w_c4
  · exact w_c5
  · exact w_c6
set_option maxRecDepth 65536 in
theorem w_t1 : (words1.take 24).all (fun c => isCode c || c.before args0 about1) = true := by decide +kernel
set_option maxRecDepth 65536 in
theorem w_t2 : (words1.drop 24).all (fun c => isCode c || c.before args0 about1) = true := by decide +kernel
theorem w_tables : (allAtoms (Jvm.Cond.code x code maxLocals ret :: tables_1)).before args0 about1 = true := by
  rw [allAtoms_all]
  show words1.all (fun c => c.before args0 about1) = true
  refine all_split ?_ w_codes
  rw [← List.take_append_drop 24 words1, List.all_append, w_t1, w_t2]
  rfl
set_option maxRecDepth 65536 in
theorem w_case : (Jvm.Cond.and given_1 narrow_1).before args0 about1 = true := by decide +kernel
theorem w_applies : (headSpec (Jvm.Cond.code x code maxLocals ret :: tables_1) room_1).applies x e0.platform about1 = true :=
  (Spec.applies_iff w_frames).mpr ⟨w_running, w_runnable, w_alone, w_named, w_hears, w_ripe, w_room, w_tables⟩
theorem atStart : AtStart classFile x code maxLocals ret World_1 tables_1 room_1 Calls_1 rest_1 Pre_1 launch0 p0 e0 about1 theMethod args0 below0 :=
  ⟨lists_1, trivial, launch0.admits_env _ _ _, launch0.least_env, fairChoices_fair.cas, fairChoices_fair.clock, w_frames, w_args, w_heap, w_applies, trivial, trivial, w_case⟩
end start1
theorem witness_1 : WitnessClaimed_1 := ⟨start1.p0, start1.e0, start1.about1, start1.theMethod, start1.args0, start1.below0, start1.atStart⟩
end Jvm.Pilot.@@N@@
