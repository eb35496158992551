import JvmDerived
import JvmDerived.Pilot.@@N@@Statement
import JvmDerived.Pilot.@@N@@Code
set_option linter.unusedVariables false
set_option linter.unusedSimpArgs false
namespace Jvm.RoadKit
open Sem ClassFile Op Lib Jvm.Stand Jvm.Free Jvm.LawKit
section Own
variable {p : Program} {l : Launch} {e : Env} {R : Room} {s : State} {m : MethodId} {args : Array Value} {below : List Frame} {meth : Method} {c : Code} {T : State} {locs : List Loc} {cells slots : Nat} {Z : State} {h h' : Heap} {a b : Addr}
/-- from the state U the method runs to its end, and what it leaves is as G says -/
def own_Go (p : Program) (e : Env) (below : List Frame) (G : Outcome → State → Prop) (U : State) : Prop := ∃ s₂ o, Steps p.tables e below U s₂ ∧ s₂.status = .running ∧ Ended s₂ below o ∧ G o s₂
def own_G (s : State) (Q : Option Value → Heap → List Loc → Prop) (C N : Nat) : Outcome → State → Prop := fun o U' => ∃ v L, o = .returned v ∧ Q v U'.heap L ∧ FrameEnd s o U' L C N
theorem own_st {G : Outcome → State → Prop} {U V : State} (hs : ∀ t, Steps p.tables e below V t → Steps p.tables e below U t) (k : own_Go p e below G V) : own_Go p e below G U := by
  obtain ⟨s₂, o, h1, h2⟩ := k
  exact ⟨s₂, o, hs _ h1, h2⟩
theorem own_retI (X : Stand p l e R s m args below meth c T locs cells slots) (hx : p.tables.exec = Jvm.exec) (hlocks : meth.locks = false) {pc : Nat} {Ls : Array Slot} {z : Int32} {rest : List Value} (hret : meth.sig.returnType = some .int) (hd : decode c.code pc = .ok (.ireturn, 1)) {Q : Option Value → Heap → List Loc → Prop} {C N : Nat}
    (hQ : Q (some (.int z)) T.heap locs) (hC : cells ≤ C) (hN : slots ≤ N) : own_Go p e below (own_G s Q C N) (T.setTop (mkF m pc Ls (.int z :: rest))) := by
  obtain ⟨fs, hr, hrun, hended, hW, hsame⟩ := X.leave (v := some (.int z)) (fun h => by rw [hret] at h; cases h)
  refine ⟨_, _, ?_, hrun, hended, _, _, rfl, hQ, ⟨_, rfl⟩, hW, hsame.mono hC hN⟩
  have hm' : T.vm.method? m = some meth := X.method'
  have hn : narrow .int (.int z) = .int z := rfl
  show Steps p.tables e below (T.setTop { method := m, pc := pc, locals := Ls, stack := _ :: rest, locked := none }) _
  jvm_step X.here [X.here.top, hx, hd, hm', hret, hn]
  first | (intro acts; rw [hr _ acts rfl rfl rfl]) | rw [hr _ _ rfl rfl rfl]
  exact Steps.refl _
theorem own_retN (X : Stand p l e R s m args below meth c T locs cells slots) (hx : p.tables.exec = Jvm.exec) (hlocks : meth.locks = false) {pc : Nat} {Ls : Array Slot} {z z' : Int32} {t : FieldType} {rest : List Value} (hret : meth.sig.returnType = some t) (ht : t = .boolean ∨ t = .byte ∨ t = .char ∨ t = .short) (hz : nar t z = z') (hd : decode c.code pc = .ok (.ireturn, 1)) {Q : Option Value → Heap → List Loc → Prop} {C N : Nat}
    (hQ : Q (some (.int z')) T.heap locs) (hC : cells ≤ C) (hN : slots ≤ N) : own_Go p e below (own_G s Q C N) (T.setTop (mkF m pc Ls (.int z :: rest))) := by
  subst hz
  obtain ⟨fs, hr, hrun, hended, hW, hsame⟩ := X.leave (v := some (.int (nar t z))) (fun h => by rw [hret] at h; cases h)
  exact ⟨_, _, retN X hx hret ht hd hr, hrun, hended, _, _, rfl, hQ, ⟨_, rfl⟩, hW, hsame.mono hC hN⟩
theorem own_retJ (X : Stand p l e R s m args below meth c T locs cells slots) (hx : p.tables.exec = Jvm.exec) (hlocks : meth.locks = false) {pc : Nat} {Ls : Array Slot} {z : Int64} (hret : meth.sig.returnType = some .long) (hd : decode c.code pc = .ok (.lreturn, 1)) {Q : Option Value → Heap → List Loc → Prop} {C N : Nat}
    (hQ : Q (some (.long z)) T.heap locs) (hC : cells ≤ C) (hN : slots ≤ N) : own_Go p e below (own_G s Q C N) (T.setTop (mkF m pc Ls [.long z])) := by
  obtain ⟨fs, hr, hrun, hended, hW, hsame⟩ := X.leave (v := some (.long z)) (fun h => by rw [hret] at h; cases h)
  exact ⟨_, _, X.lreturnOut hx hret hd hr, hrun, hended, _, _, rfl, hQ, ⟨_, rfl⟩, hW, hsame.mono hC hN⟩
theorem own_ret0 (X : Stand p l e R s m args below meth c T locs cells slots) (hx : p.tables.exec = Jvm.exec) (hlocks : meth.locks = false) {pc : Nat} {Ls : Array Slot} (hret : meth.sig.returnType = none) (hd : decode c.code pc = .ok (.return_, 1)) {Q : Option Value → Heap → List Loc → Prop} {C N : Nat}
    (hQ : Q none T.heap locs) (hC : cells ≤ C) (hN : slots ≤ N) : own_Go p e below (own_G s Q C N) (T.setTop (mkF m pc Ls [])) := by
  obtain ⟨fs, hr, hrun, hended, hW, hsame⟩ := X.leave (v := none) (fun _ => rfl)
  exact ⟨_, _, X.returnOut hx hret hd hr, hrun, hended, _, _, rfl, hQ, ⟨_, rfl⟩, hW, hsame.mono hC hN⟩
theorem own_cast {locs' : List Loc} {cells' slots' : Nat} (X : Stand p l e R s m args below meth c T locs cells slots) (e1 : locs = locs') (e2 : cells = cells') (e3 : slots = slots') : Stand p l e R s m args below meth c T locs' cells' slots' := by
  subst e1 e2 e3; exact X
theorem own_z0 {i j : Nat} (q : i = 0) : i ≤ j := q ▸ Nat.zero_le j
/-! arrays of ints (or bytes), of longs: their length and their elements by a plain function -/
def own_Ai (Z : State) (h : Heap) (a : Addr) (ty : FieldType) (n : Nat) (f : Nat → Int32) : Prop := ∃ c : Cell, Arr Z h a c ty ∧ c.slots.size = n ∧ ∀ i, i < n → c.slots[i]? = some (.int (f i))
def own_Aj (Z : State) (h : Heap) (a : Addr) (ty : FieldType) (n : Nat) (f : Nat → Int64) : Prop := ∃ c : Cell, Arr Z h a c ty ∧ c.slots.size = n ∧ ∀ i, i < n → c.slots[i]? = some (.long (f i))
def own_up (f : Nat → Int32) (k : Nat) (x : Int32) : Nat → Int32 := fun i => if i = k then x else f i
def own_upJ (f : Nat → Int64) (k : Nat) (x : Int64) : Nat → Int64 := fun i => if i = k then x else f i
theorem own_up_at (f : Nat → Int32) (k : Nat) (x : Int32) (i : Nat) : own_up f k x i = if i = k then x else f i := rfl
theorem own_upJ_at (f : Nat → Int64) (k : Nat) (x : Int64) (i : Nat) : own_upJ f k x i = if i = k then x else f i := rfl
variable {ty : FieldType} {n : Nat} {f : Nat → Int32} {fj : Nat → Int64} {ws : List Addr} {sl : Nat} {v : Value}
theorem own_Ai.lt (F : own_Ai Z h a ty n f) : a < h.size := by obtain ⟨c, A, -⟩ := F; exact A.lt
theorem own_Aj.lt (F : own_Aj Z h a ty n fj) : a < h.size := by obtain ⟨c, A, -⟩ := F; exact A.lt
theorem own_Ai.ext (F : own_Ai Z h a ty n f) (E : Ext h h') : own_Ai Z h' a ty n f := by obtain ⟨c, A, r⟩ := F; exact ⟨c, A.ext E, r⟩
theorem own_Aj.ext (F : own_Aj Z h a ty n fj) (E : Ext h h') : own_Aj Z h' a ty n fj := by obtain ⟨c, A, r⟩ := F; exact ⟨c, A.ext E, r⟩
theorem own_Ai.other (F : own_Ai Z h b ty n f) (W : Wr h h' a sl v) (q : b ≠ a) : own_Ai Z h' b ty n f := by obtain ⟨c, A, r⟩ := F; exact ⟨c, A.other W q, r⟩
theorem own_Aj.other (F : own_Aj Z h b ty n fj) (W : Wr h h' a sl v) (q : b ≠ a) : own_Aj Z h' b ty n fj := by obtain ⟨c, A, r⟩ := F; exact ⟨c, A.other W q, r⟩
theorem own_Ai.keep (F : own_Ai Z h a ty n f) (K : Keep h h' ws) (q : a ∉ ws) : own_Ai Z h' a ty n f := by obtain ⟨c, A, r⟩ := F; exact ⟨c, ⟨K.2.1 a c A.1 q, A.2⟩, r⟩
theorem own_Aj.keep (F : own_Aj Z h a ty n fj) (K : Keep h h' ws) (q : a ∉ ws) : own_Aj Z h' a ty n fj := by obtain ⟨c, A, r⟩ := F; exact ⟨c, ⟨K.2.1 a c A.1 q, A.2⟩, r⟩
theorem own_Ai.neq {a0 : Array Value} {k : Nat} {C : String} (F : own_Ai Z h b ty n f) (E : Exa Z h a C) (wi : (Cond.instantiable C k).before a0 Z = true) : a ≠ b := by obtain ⟨c, A, -⟩ := F; exact ne_arr E wi A
theorem own_Aj.neq {a0 : Array Value} {k : Nat} {C : String} (F : own_Aj Z h b ty n fj) (E : Exa Z h a C) (wi : (Cond.instantiable C k).before a0 Z = true) : a ≠ b := by obtain ⟨c, A, -⟩ := F; exact ne_arr E wi A
theorem own_nat {j : Int32} {k : Nat} (hj : j.toInt = k) : j.toNatClampNeg = k := by simp only [Int32.toNatClampNeg, hj]; rfl
theorem own_in {j : Int32} {k n : Nat} (hj : j.toInt = k) (hk : k < n) : ¬ (j < 0 ∨ n ≤ j.toNatClampNeg) := by
  rw [own_nat hj, Int32.lt_iff_toInt_lt, hj, show (0 : Int32).toInt = 0 from rfl]; omega
theorem own_len {z : Int32} (hz : z.toInt = n) : n.toInt32 = z := by
  have := Int32.toInt_lt z
  exact Int32.toInt_inj.mp (by rw [Int32.toInt_ofNat_small (by omega), hz])
theorem own_iaload (X : Stand p l e R s m args below meth c T locs cells slots) (hx : p.tables.exec = Jvm.exec) (hZ : Z.Warmed39 s.vm) (eT : T.heap = h) (A : own_Ai Z h a .int n f) {j : Int32} {k : Nat} (hj : j.toInt = k) (hk : k < n) {g : JFrame} (hg : g.method = m) {rest : List Value} (hs : g.stack = .int j :: .ref a :: rest) (hd : decode c.code g.pc = .ok (.iaload, 1)) {target : State}
    (hr : Steps p.tables e below (T.setTop { g with pc := g.pc + 1, stack := .int (f k) :: rest }) target) : Steps p.tables e below (T.setTop g) target := by
  obtain ⟨cl, A, S, H⟩ := A
  exact X.iaload hx (j := j) (v := .int (f k)) (by rw [eT]; exact A.1) (State.isArrayOf_alike hZ.alike A.2.1) A.2.2 (by rw [S]; exact own_in hj hk) (by rw [own_nat hj]; exact H k hk) hg hs hd _ hr
theorem own_baload (X : Stand p l e R s m args below meth c T locs cells slots) (hx : p.tables.exec = Jvm.exec) (hZ : Z.Warmed39 s.vm) (eT : T.heap = h) (A : own_Ai Z h a .byte n f) {j : Int32} {k : Nat} (hj : j.toInt = k) (hk : k < n) {g : JFrame} (hg : g.method = m) {rest : List Value} (hs : g.stack = .int j :: .ref a :: rest) (hd : decode c.code g.pc = .ok (.baload, 1)) {target : State}
    (hr : Steps p.tables e below (T.setTop { g with pc := g.pc + 1, stack := .int (f k) :: rest }) target) : Steps p.tables e below (T.setTop g) target := by
  obtain ⟨cl, A, S, H⟩ := A
  exact X.baloadBytes hx (j := j) (v := .int (f k)) (by rw [eT]; exact A.1) (State.isArrayOf_alike hZ.alike A.2.1) A.2.2 (by rw [S]; exact own_in hj hk) (by rw [own_nat hj]; exact H k hk) hg hs hd _ hr
theorem own_laload (X : Stand p l e R s m args below meth c T locs cells slots) (hx : p.tables.exec = Jvm.exec) (hZ : Z.Warmed39 s.vm) (eT : T.heap = h) (A : own_Aj Z h a .long n fj) {j : Int32} {k : Nat} (hj : j.toInt = k) (hk : k < n) {g : JFrame} (hg : g.method = m) {rest : List Value} (hs : g.stack = .int j :: .ref a :: rest) (hd : decode c.code g.pc = .ok (.laload, 1)) {target : State}
    (hr : Steps p.tables e below (T.setTop { g with pc := g.pc + 1, stack := .long (fj k) :: rest }) target) : Steps p.tables e below (T.setTop g) target := by
  obtain ⟨cl, A, S, H⟩ := A
  exact X.laload hx (j := j) (v := .long (fj k)) (by rw [eT]; exact A.1) (State.isArrayOf_alike hZ.alike A.2.1) A.2.2 (by rw [S]; exact own_in hj hk) (by rw [own_nat hj]; exact H k hk) hg hs hd _ hr
theorem own_alen (X : Stand p l e R s m args below meth c T locs cells slots) (hx : p.tables.exec = Jvm.exec) (hZ : Z.Warmed39 s.vm) (eT : T.heap = h) (A : own_Ai Z h a ty n f) {z : Int32} (hz : z.toInt = n) {g : JFrame} (hg : g.method = m) {rest : List Value} (hs : g.stack = .ref a :: rest) (hd : decode c.code g.pc = .ok (.arraylength, 1)) {target : State}
    (hr : Steps p.tables e below (T.setTop { g with pc := g.pc + 1, stack := .int z :: rest }) target) : Steps p.tables e below (T.setTop g) target := by
  obtain ⟨cl, A, S, H⟩ := A
  refine X.arraylength hx (by rw [eT]; exact A.1) (State.isArrayOf_alike hZ.alike A.2.1) hg hs hd _ ?_
  rw [S, own_len hz]; exact hr
theorem own_Ai.set (F : own_Ai Z h a ty n f) {j : Nat} {x : Int32} (W : Wr h h' a j (.int x)) : own_Ai Z h' a ty n (own_up f j x) := by
  obtain ⟨cl, A, S, H⟩ := F
  refine ⟨_, A.same W, by rw [sz_set]; exact S, fun i hi => ?_⟩
  rw [own_up_at]
  by_cases q : i = j
  · subst q
    rw [if_pos rfl]
    simp [Cell.setSlot, S, hi]
  · rw [if_neg q, show (cl.setSlot j (.int x)).slots[i]? = cl.slots[i]? from Array.getElem?_setIfInBounds_ne (Ne.symm q)]
    exact H i hi
theorem own_Aj.set (F : own_Aj Z h a ty n fj) {j : Nat} {x : Int64} (W : Wr h h' a j (.long x)) : own_Aj Z h' a ty n (own_upJ fj j x) := by
  obtain ⟨cl, A, S, H⟩ := F
  refine ⟨_, A.same W, by rw [sz_set]; exact S, fun i hi => ?_⟩
  rw [own_upJ_at]
  by_cases q : i = j
  · subst q
    rw [if_pos rfl]
    simp [Cell.setSlot, S, hi]
  · rw [if_neg q, show (cl.setSlot j (.long x)).slots[i]? = cl.slots[i]? from Array.getElem?_setIfInBounds_ne (Ne.symm q)]
    exact H i hi
theorem own_iastore (X : Stand p l e R s m args below meth c T locs cells slots) (hx : p.tables.exec = Jvm.exec) (hZ : Z.Warmed39 s.vm) (eT : T.heap = h) (A : own_Ai Z h a .int n f) {j x : Int32} {k : Nat} (hj : j.toInt = k) (hk : k < n) {g : JFrame} (hg : g.method = m) {rest : List Value} (hs : g.stack = .int x :: .int j :: .ref a :: rest) (hd : decode c.code g.pc = .ok (.iastore, 1)) :
    ∃ T' h', Stand p l e R s m args below meth c T' (locs ++ [⟨a, k⟩]) cells slots ∧ T'.heap = h' ∧ Wr h h' a k (.int x) ∧ own_Ai Z h' a .int n (own_up f k x) ∧ ∀ target, Steps p.tables e below (T'.setTop { g with pc := g.pc + 1, stack := rest }) target → Steps p.tables e below (T.setTop g) target := by
  obtain ⟨cl, B, S, H⟩ := id A
  obtain ⟨T', h', X', e', W, st⟩ := stI X hx hZ eT B (j := j) (x := x) (by rw [S]; exact own_in hj hk) hg hs hd
  rw [own_nat hj] at X' W
  exact ⟨T', h', X', e', W, A.set W, st⟩
theorem own_bastore (X : Stand p l e R s m args below meth c T locs cells slots) (hx : p.tables.exec = Jvm.exec) (hZ : Z.Warmed39 s.vm) (eT : T.heap = h) (A : own_Ai Z h a .byte n f) {j x : Int32} {k : Nat} (hj : j.toInt = k) (hk : k < n) {g : JFrame} (hg : g.method = m) {rest : List Value} (hs : g.stack = .int x :: .int j :: .ref a :: rest) (hd : decode c.code g.pc = .ok (.bastore, 1)) :
    ∃ T' h', Stand p l e R s m args below meth c T' (locs ++ [⟨a, k⟩]) cells slots ∧ T'.heap = h' ∧ Wr h h' a k (.int x.toInt8.toInt32) ∧ own_Ai Z h' a .byte n (own_up f k x.toInt8.toInt32) ∧ ∀ target, Steps p.tables e below (T'.setTop { g with pc := g.pc + 1, stack := rest }) target → Steps p.tables e below (T.setTop g) target := by
  obtain ⟨cl, B, S, H⟩ := id A
  obtain ⟨T', h', X', e', W, st⟩ := stB X hx hZ eT B (j := j) (x := x) (by rw [S]; exact own_in hj hk) hg hs hd
  rw [own_nat hj] at X' W
  exact ⟨T', h', X', e', W, A.set W, st⟩
theorem own_lastore (X : Stand p l e R s m args below meth c T locs cells slots) (hx : p.tables.exec = Jvm.exec) (hZ : Z.Warmed39 s.vm) (eT : T.heap = h) (A : own_Aj Z h a .long n fj) {j : Int32} {x : Int64} {k : Nat} (hj : j.toInt = k) (hk : k < n) {g : JFrame} (hg : g.method = m) {rest : List Value} (hs : g.stack = .long x :: .int j :: .ref a :: rest) (hd : decode c.code g.pc = .ok (.lastore, 1)) :
    ∃ T' h', Stand p l e R s m args below meth c T' (locs ++ [⟨a, k⟩]) cells slots ∧ T'.heap = h' ∧ Wr h h' a k (.long x) ∧ own_Aj Z h' a .long n (own_upJ fj k x) ∧ ∀ target, Steps p.tables e below (T'.setTop { g with pc := g.pc + 1, stack := rest }) target → Steps p.tables e below (T.setTop g) target := by
  obtain ⟨cl, B, S, H⟩ := id A
  obtain ⟨T', h', X', e', W, st⟩ := stJ X hx hZ eT B (j := j) (x := x) (by rw [S]; exact own_in hj hk) hg hs hd
  rw [own_nat hj] at X' W
  exact ⟨T', h', X', e', W, A.set W, st⟩
theorem own_newarr (X : Stand p l e R s m args below meth c T locs cells slots) (hx : p.tables.exec = Jvm.exec) (hZ : Z.Warmed39 s.vm) {a0 : Array Value} {aty : ArrayType} (w : (Cond.arrayClass (newarray.typeOf aty)).before a0 Z = true) (eT : T.heap = h) {g : JFrame} (hg : g.method = m) (hd : decode c.code g.pc = .ok (.newarray aty, 2)) {z : Int32} {rest : List Value} (hs : g.stack = .int z :: rest) {k : Nat}
    (hz : z.toInt = k) {cap : Nat} (hcap : k ≤ cap) (hb : cap * 8 ≤ 536870912) (hc : cells + 1 ≤ R.cells) (hl : slots + cap ≤ R.slots) :
    ∃ T' h' cl, Stand p l e R s m args below meth c T' locs (cells + 1) (slots + cap) ∧ T'.heap = h' ∧ Ext h h' ∧ (Arr Z h' h.size cl (newarray.typeOf aty) ∧ cl.slots = Array.replicate k (defaultValue (newarray.typeOf aty))) ∧
      ∀ target, Steps p.tables e below (T'.setTop { g with pc := g.pc + 2, stack := .ref h.size :: rest }) target → Steps p.tables e below (T.setTop g) target := by
  have hn : ¬ z < 0 := by rw [Int32.lt_iff_toInt_lt, hz, show (0 : Int32).toInt = 0 from rfl]; omega
  obtain ⟨T', h', cA, X', e', E, A, st⟩ := newP X hx hZ w eT hg hd hs hn (by rw [own_nat hz]; exact hcap) hb hc hl
  exact ⟨T', h', _, X', e', E, ⟨A, by simp [newA, own_nat hz]⟩, st⟩
theorem own_Ai.new {cl : Cell} {k : Nat} (A : Arr Z h a cl ty ∧ cl.slots = Array.replicate k (.int 0)) : own_Ai Z h a ty k (fun _ => 0) :=
  ⟨cl, A.1, by rw [A.2]; simp, fun i hi => by rw [A.2]; simp [hi]⟩
theorem own_Aj.new {cl : Cell} {k : Nat} (A : Arr Z h a cl ty ∧ cl.slots = Array.replicate k (.long 0)) : own_Aj Z h a ty k (fun _ => 0) :=
  ⟨cl, A.1, by rw [A.2]; simp, fun i hi => by rw [A.2]; simp [hi]⟩
theorem own_l_lt (x y : Int64) {b : Bool} (h : if_icmp.holds .lt (lcmpW x y) 0 = b) : ifCond.holds .lt (lcmpW x y) = b := (if0 _ _).trans h
end Own
end Jvm.RoadKit
namespace Jvm.RoadKit
open Sem ClassFile Op Lib Jvm.Stand Jvm.Free Jvm.LawKit
theorem own_selp {Z s : State} {a0 args : Array Value} {y : MethodName} {n : Nat} (hZ : Z.Warmed39 s.vm) (wi : (Cond.instantiable y.cls n).before a0 Z = true) (hp : (Cond.privateMethod y).before a0 Z = true) (hi : (Cond.instanceMethod y).before a0 Z = true) (hy : y.cls ≠ "java/lang/invoke/MethodHandle" ∧ y.cls ≠ "java/lang/invoke/VarHandle") : (Cond.selects y.cls y y).before args s = true := by
  obtain ⟨cl, k, h1, h2, -, h4, -⟩ := Cond.instantiable_spec (show (Cond.instantiable y.cls n).holds args s none s [] = true from mv hZ wi)
  exact Jvm.Stand.selects_self_of_private h1 h2 (Bool.or_eq_false_iff.mp h4).1 (Cond.privateMethod_at (mvP hZ hp (args := args))) (mv hZ hi) hy
end Jvm.RoadKit
namespace Jvm.Pilot.@@N@@
open Jvm Jvm.ClassFile Sem Op Lib Jvm.Free Jvm.Stand Jvm.LawKit Jvm.RoadKit Bundle Jvm.Pilot.@@N@@.Jvm.D
/-! the table in plain Lean: sixteen places, keys K, marks V (0: empty) -/
def own_hx (k : Int32) : Int32 := ((k * (-1640531527 : Int32)) ^^^ (((k * (-1640531527 : Int32)).toUInt32 >>> ((16 : Int32) &&& 31).toUInt32).toInt32)) &&& ((16 : Int32) - (1 : Int32))
def own_H (k : Int32) : Nat := (own_hx k).toInt.toNat
def own_nx (i : Int32) : Int32 := (i + (1 : Int32)) &&& ((16 : Int32) - (1 : Int32))
theorem own_m15 (z : Int32) : (z &&& ((16 : Int32) - (1 : Int32))).toInt = z.toInt % 16 := by
  rw [show (16 : Int32) - (1 : Int32) = 15 from by decide]; exact c_mask z 15 4 (by decide) (by decide)
theorem own_hx_at (k : Int32) : (own_hx k).toInt = (own_H k : Int) ∧ own_H k < 16 := by
  have q : (own_hx k).toInt = _ := own_m15 _
  unfold own_H
  omega
theorem own_hx1 (k : Int32) : (own_hx k).toInt = (own_H k : Int) := (own_hx_at k).1
theorem own_H16 (k : Int32) : own_H k < 16 := (own_hx_at k).2
theorem own_nx_at {i : Int32} {k : Nat} (h : i.toInt = (k : Int)) (hk : k < 16) : (own_nx i).toInt = (((k + 1) % 16 : Nat) : Int) := by
  have q : (own_nx i).toInt = _ := own_m15 _
  have a := c_iadd i 1
  have r := rng32 (i + 1)
  have e1 : (1 : Int32).toInt = 1 := by decide
  rw [e1] at a
  omega
def own_ds (a b : Nat) : Nat := (b + 16 - a) % 16
def own_Inv (K V : Nat → Int32) : Prop := (∀ u, u < 16 → V u ≠ 0 → ∀ i, i < own_ds (own_H (K u)) u → V ((own_H (K u) + i) % 16) ≠ 0) ∧ (∀ u w, u < 16 → w < 16 → V u ≠ 0 → V w ≠ 0 → K u = K w → u = w)
def own_cnt (V : Nat → Int32) : Nat → Nat
  | 0 => 0
  | n + 1 => own_cnt V n + (if V n = 0 then 0 else 1)
theorem own_cnt_s (V : Nat → Int32) (n : Nat) : own_cnt V (n + 1) = own_cnt V n + (if V n = 0 then 0 else 1) := rfl
theorem own_cnt_up0 (V : Nat → Int32) (q : Nat) (y : Int32) : ∀ n, n ≤ q → own_cnt (own_up V q y) n = own_cnt V n := by
  intro n
  induction n with
  | zero => intro _; rfl
  | succ n ih => intro h; rw [own_cnt_s, own_cnt_s, ih (by omega), own_up_at, if_neg (show ¬ n = q by omega)]
theorem own_cnt_up (V : Nat → Int32) (q : Nat) (y : Int32) : ∀ n, own_cnt (own_up V q y) n ≤ own_cnt V n + 1 := by
  intro n
  induction n with
  | zero => exact Nat.zero_le _
  | succ n ih =>
    rw [own_cnt_s, own_cnt_s]
    by_cases c : n = q
    · rw [own_cnt_up0 V q y n (by omega)]
      split <;> split <;> omega
    · rw [own_up_at, if_neg c]
      generalize (if V n = 0 then 0 else 1) = w
      omega
theorem own_free (V : Nat → Int32) : ∀ n, own_cnt V n < n → ∃ u, u < n ∧ V u = 0 := by
  intro n
  induction n with
  | zero => intro h; omega
  | succ n ih =>
    intro h
    by_cases c : V n = 0
    · exact ⟨n, by omega, c⟩
    · rw [own_cnt_s, if_neg c] at h
      obtain ⟨u, h1, h2⟩ := ih (by omega)
      exact ⟨u, by omega, h2⟩
theorem own_least (S : Nat → Prop) : ∀ n, S n → ∃ t, t ≤ n ∧ S t ∧ ∀ i, i < t → ¬ S i := by
  intro n
  induction n using Nat.strongRecOn with
  | ind n ih =>
    intro h
    by_cases c : ∃ i, i < n ∧ S i
    · obtain ⟨i, h1, h2⟩ := c
      obtain ⟨t, a, b, d⟩ := ih i h1 h2
      exact ⟨t, by omega, b, d⟩
    · exact ⟨n, Nat.le_refl _, h, fun i h1 h2 => c ⟨i, h1, h2⟩⟩
def own_Pr (K V : Nat → Int32) (key : Int32) (t : Nat) : Prop := (∀ i, i < t → V ((own_H key + i) % 16) ≠ 0 ∧ K ((own_H key + i) % 16) ≠ key) ∧ (V ((own_H key + t) % 16) = 0 ∨ K ((own_H key + t) % 16) = key)
theorem own_at (a b : Nat) (ha : a < 16) (hb : b < 16) : (a + own_ds a b) % 16 = b ∧ own_ds a b < 16 := by unfold own_ds; omega
theorem own_find (K V : Nat → Int32) (key : Int32) (z : Nat) (hz : z < 16) (hV : V z = 0) : ∃ t, t < 16 ∧ own_Pr K V key t := by
  have h := own_H16 key
  have q := own_at (own_H key) z h hz
  obtain ⟨t, a, b, d⟩ := own_least (fun i => V ((own_H key + i) % 16) = 0 ∨ K ((own_H key + i) % 16) = key) (own_ds (own_H key) z) (Or.inl (by rw [q.1]; exact hV))
  exact ⟨t, by omega, fun i hi => ⟨fun e => d i hi (Or.inl e), fun e => d i hi (Or.inr e)⟩, b⟩
def own_look (K V : Nat → Int32) (k r : Int32) : Prop := (∃ u, u < 16 ∧ V u ≠ 0 ∧ K u = k ∧ r = V u - 1) ∨ ((∀ u, u < 16 → V u ≠ 0 → K u ≠ k) ∧ r = -1)
theorem own_look_fun {K V : Nat → Int32} (hI : own_Inv K V) {k r r' : Int32} (h : own_look K V k r) (h' : own_look K V k r') : r = r' := by
  rcases h with ⟨u, a1, a2, a3, a4⟩ | ⟨a1, a2⟩ <;> rcases h' with ⟨w, b1, b2, b3, b4⟩ | ⟨b1, b2⟩
  · have e := hI.2 u w a1 b1 a2 b2 (a3.trans b3.symm); rw [a4, b4, e]
  · exact absurd a3 (b1 u a1 a2)
  · exact absurd b3 (a1 w b1 b2)
  · rw [a2, b2]
/-- where the search stops at an empty place the key is nowhere -/
theorem own_absent {K V : Nat → Int32} (hI : own_Inv K V) {key : Int32} {t : Nat} (ht : t < 16) (hP : own_Pr K V key t) (h0 : V ((own_H key + t) % 16) = 0) : ∀ u, u < 16 → V u ≠ 0 → K u ≠ key := by
  intro u hu hv hk
  have h := own_H16 key
  have q := own_at (own_H key) u h hu
  have p1 := hI.1 u hu hv
  rw [hk] at p1
  by_cases c : own_ds (own_H key) u < t
  · have := (hP.1 _ c).2
    rw [q.1] at this
    exact this hk
  · by_cases c2 : t = own_ds (own_H key) u
    · rw [c2, q.1] at h0; exact hv h0
    · exact p1 t (by omega) h0
theorem own_look_pr {K V : Nat → Int32} (hI : own_Inv K V) {key : Int32} {t : Nat} (ht : t < 16) (hP : own_Pr K V key t) : own_look K V key (if V ((own_H key + t) % 16) = 0 then (-1 : Int32) else V ((own_H key + t) % 16) - 1) := by
  by_cases c : V ((own_H key + t) % 16) = 0
  · rw [if_pos c]; exact Or.inr ⟨own_absent hI ht hP c, rfl⟩
  · rw [if_neg c]; exact Or.inl ⟨_, Nat.mod_lt _ (by decide), c, hP.2.resolve_left c, rfl⟩
theorem own_put_ok {K V : Nat → Int32} (hI : own_Inv K V) {key : Int32} {t : Nat} (ht : t < 16) (hP : own_Pr K V key t) (y : Int32) (hy : y ≠ 0) :
    own_Inv (own_up K ((own_H key + t) % 16) key) (own_up V ((own_H key + t) % 16) y) ∧ own_look (own_up K ((own_H key + t) % 16) key) (own_up V ((own_H key + t) % 16) y) key (y - 1) ∧ ∀ k r, k ≠ key → own_look K V k r → own_look (own_up K ((own_H key + t) % 16) key) (own_up V ((own_H key + t) % 16) y) k r := by
  have h := own_H16 key
  have hp : (own_H key + t) % 16 < 16 := Nat.mod_lt _ (by decide)
  have hd : own_ds (own_H key) ((own_H key + t) % 16) = t := by unfold own_ds; omega
  have hfree : ∀ i, i < t → V ((own_H key + i) % 16) ≠ 0 := fun i hi => (hP.1 i hi).1
  have huniq : ∀ w, w < 16 → V w ≠ 0 → K w = key → w = (own_H key + t) % 16 := by
    intro w hw hv hk
    by_cases c : V ((own_H key + t) % 16) = 0
    · exact absurd hk (own_absent hI ht hP c w hw hv)
    · exact hI.2 _ _ hw hp hv c (hk.trans (hP.2.resolve_left c).symm)
  have hP2 : V ((own_H key + t) % 16) = 0 ∨ K ((own_H key + t) % 16) = key := hP.2
  generalize (own_H key + t) % 16 = q at *
  have grow : ∀ w, V w ≠ 0 → own_up V q y w ≠ 0 := by
    intro w hw; rw [own_up_at]; split
    · exact hy
    · exact hw
  refine ⟨⟨fun u hu hv i hi => ?_, fun u w hu hw hv hv' he => ?_⟩, Or.inl ⟨q, hp, ?_, ?_, ?_⟩, fun k r hk hl => ?_⟩
  · by_cases c : u = q
    · subst c
      rw [own_up_at K, if_pos rfl] at hi ⊢
      rw [hd] at hi
      exact grow _ (hfree i hi)
    · rw [own_up_at K, if_neg c] at hi ⊢
      rw [own_up_at, if_neg c] at hv
      exact grow _ (hI.1 u hu hv i hi)
  · rw [own_up_at, own_up_at] at he
    rw [own_up_at] at hv hv'
    by_cases c : u = q <;> by_cases c' : w = q
    · omega
    · rw [if_pos c, if_neg c'] at he
      rw [if_neg c'] at hv'
      exact absurd (huniq w hw hv' he.symm) c'
    · rw [if_neg c, if_pos c'] at he
      rw [if_neg c] at hv
      exact absurd (huniq u hu hv he) c
    · rw [if_neg c, if_neg c'] at he
      rw [if_neg c] at hv
      rw [if_neg c'] at hv'
      exact hI.2 u w hu hw hv hv' he
  · rw [own_up_at, if_pos rfl]; exact hy
  · rw [own_up_at, if_pos rfl]
  · rw [own_up_at, if_pos rfl]
  · rcases hl with ⟨u, a1, a2, a3, a4⟩ | ⟨a1, a2⟩
    · have c : u ≠ q := fun c => by
        rw [c] at a2 a3
        exact hk (a3.symm.trans (hP2.resolve_left a2))
      exact Or.inl ⟨u, a1, by rw [own_up_at, if_neg c]; exact a2, by rw [own_up_at, if_neg c]; exact a3, by rw [own_up_at, if_neg c]; exact a4⟩
    · refine Or.inr ⟨fun u hu hv => ?_, a2⟩
      rw [own_up_at] at hv ⊢
      by_cases c : u = q
      · rw [if_pos c]; exact fun e => hk e.symm
      · rw [if_neg c] at hv ⊢; exact a1 u hu hv
/-! the removal: the places behind the hole are moved into it -/
abbrev own_stay (ho hm pr : Nat) : Prop := (ho ≤ pr ∧ ho < hm ∧ hm ≤ pr) ∨ (pr < ho ∧ (ho < hm ∨ hm ≤ pr))
def own_lp : Nat → (Nat → Int32) → (Nat → Int32) → Nat → Nat → (Nat → Int32) × (Nat → Int32)
  | 0, K, V, ho, _ => (K, own_up V ho 0)
  | n + 1, K, V, ho, pr => if own_stay ho (own_H (K pr)) pr then own_lp n K V ho ((pr + 1) % 16) else own_lp n (own_up K ho (K pr)) (own_up V ho (V pr)) pr ((pr + 1) % 16)
def own_rn : Nat → (Nat → Int32) → (Nat → Int32) → Nat → Nat → Prop
  | 0, _, V, _, pr => V pr = 0
  | n + 1, K, V, ho, pr => V pr ≠ 0 ∧ if own_stay ho (own_H (K pr)) pr then own_rn n K V ho ((pr + 1) % 16) else own_rn n (own_up K ho (K pr)) (own_up V ho (V pr)) pr ((pr + 1) % 16)
theorem own_lp_0 (K V : Nat → Int32) (ho pr : Nat) : own_lp 0 K V ho pr = (K, own_up V ho 0) := rfl
theorem own_lp_y {n : Nat} {K V : Nat → Int32} {ho pr : Nat} (h : own_stay ho (own_H (K pr)) pr) : own_lp (n + 1) K V ho pr = own_lp n K V ho ((pr + 1) % 16) := if_pos h
theorem own_lp_n {n : Nat} {K V : Nat → Int32} {ho pr : Nat} (h : ¬ own_stay ho (own_H (K pr)) pr) : own_lp (n + 1) K V ho pr = own_lp n (own_up K ho (K pr)) (own_up V ho (V pr)) pr ((pr + 1) % 16) := if_neg h
theorem own_rn_y {n : Nat} {K V : Nat → Int32} {ho pr : Nat} (h : own_stay ho (own_H (K pr)) pr) (r : own_rn (n + 1) K V ho pr) : own_rn n K V ho ((pr + 1) % 16) := (if_pos h).mp r.2
theorem own_rn_n {n : Nat} {K V : Nat → Int32} {ho pr : Nat} (h : ¬ own_stay ho (own_H (K pr)) pr) (r : own_rn (n + 1) K V ho pr) : own_rn n (own_up K ho (K pr)) (own_up V ho (V pr)) pr ((pr + 1) % 16) := (if_neg h).mp r.2
/-- the loop ends: an empty place lies ahead -/
theorem own_ends (z : Nat) (hz : z < 16) : ∀ (d : Nat) (K V : Nat → Int32) (ho pr : Nat), pr < 16 → V z = 0 → ho ≠ z → own_ds pr z = d → ∃ n, own_rn n K V ho pr := by
  intro d
  induction d with
  | zero =>
    intro K V ho pr hp hv hh hd
    have e : pr = z := by unfold own_ds at hd; omega
    exact ⟨0, by rw [e]; exact hv⟩
  | succ d ih =>
    intro K V ho pr hp hv hh hd
    by_cases c : V pr = 0
    · exact ⟨0, c⟩
    · have hd' : own_ds ((pr + 1) % 16) z = d := by unfold own_ds at hd ⊢; omega
      by_cases c2 : own_stay ho (own_H (K pr)) pr
      · obtain ⟨n, hn⟩ := ih K V ho ((pr + 1) % 16) (Nat.mod_lt _ (by decide)) hv hh hd'
        exact ⟨n + 1, c, (if_pos c2).mpr hn⟩
      · have hpz : pr ≠ z := fun e => c (by rw [e]; exact hv)
        obtain ⟨n, hn⟩ := ih (own_up K ho (K pr)) (own_up V ho (V pr)) pr ((pr + 1) % 16) (Nat.mod_lt _ (by decide)) (by rw [own_up_at, if_neg (Ne.symm hh)]; exact hv) hpz hd'
        exact ⟨n + 1, c, (if_neg c2).mpr hn⟩
/-- what holds in the loop: all but the hole is a sound table, and what stands between the hole and the probe may stay -/
def own_Mid (K V : Nat → Int32) (ho pr : Nat) : Prop := ho < 16 ∧ pr < 16 ∧ V ho ≠ 0 ∧ (ho ≠ pr) ∧ (∀ u, u < 16 → u ≠ ho → V u ≠ 0 → ∀ i, i < own_ds (own_H (K u)) u → V ((own_H (K u) + i) % 16) ≠ 0) ∧ (∀ u w, u < 16 → w < 16 → u ≠ ho → w ≠ ho → V u ≠ 0 → V w ≠ 0 → K u = K w → u = w) ∧ (∀ u, u < 16 → 0 < own_ds ho u → own_ds ho u < own_ds ho pr → V u ≠ 0 ∧ own_ds (own_H (K u)) u ≤ own_ds (own_H (K u)) ho)
def own_lk (K V : Nat → Int32) (ho : Nat) (k r : Int32) : Prop := (∃ u, u < 16 ∧ u ≠ ho ∧ V u ≠ 0 ∧ K u = k ∧ r = V u - 1) ∨ ((∀ u, u < 16 → u ≠ ho → V u ≠ 0 → K u ≠ k) ∧ r = -1)
theorem own_stay_d (ho hm pr : Nat) (h1 : ho < 16) (h2 : hm < 16) (h3 : pr < 16) (hne : ho ≠ pr) : (own_stay ho hm pr → own_ds hm pr ≤ own_ds hm ho) ∧ (¬ own_stay ho hm pr → own_ds hm ho < own_ds hm pr) := by
  unfold own_stay own_ds
  constructor <;> intro h <;> omega
theorem own_mid (n : Nat) : ∀ (K V : Nat → Int32) (ho pr z : Nat), own_Mid K V ho pr → own_rn n K V ho pr → z < 16 → V z = 0 → own_Inv (own_lp n K V ho pr).1 (own_lp n K V ho pr).2 ∧ (∃ w, w < 16 ∧ (own_lp n K V ho pr).2 w = 0) ∧ ∀ k r, own_lk K V ho k r → own_look (own_lp n K V ho pr).1 (own_lp n K V ho pr).2 k r := by
  induction n with
  | zero =>
    intro K V ho pr z hM hR hz hvz
    obtain ⟨m1, m2, m3, m4, m5, m6, m7⟩ := hM
    have hR' : V pr = 0 := hR
    rw [own_lp_0]
    show own_Inv K (own_up V ho 0) ∧ (∃ w, w < 16 ∧ own_up V ho 0 w = 0) ∧ ∀ k r, own_lk K V ho k r → own_look K (own_up V ho 0) k r
    refine ⟨⟨fun u hu hv i hi => ?_, fun u w hu hw hv hv' he => ?_⟩, ⟨ho, m1, by rw [own_up_at, if_pos rfl]⟩, fun k r hl => ?_⟩
    · rw [own_up_at] at hv
      by_cases c : u = ho
      · rw [if_pos c] at hv; exact absurd rfl hv
      · rw [if_neg c] at hv
        have a := m5 u hu c hv i hi
        have hH := own_H16 (K u)
        rw [own_up_at, if_neg]
        · exact a
        · intro e
          by_cases c2 : own_ds ho u < own_ds ho pr
          · have b := (m7 u hu (by unfold own_ds; omega) c2).2
            unfold own_ds at b hi; omega
          · have hup : u ≠ pr := fun q => hv (by rw [q]; exact hR')
            have b := m5 u hu c hv (own_ds (own_H (K u)) pr) (by unfold own_ds at hi c2 ⊢; omega)
            rw [(own_at _ _ hH m2).1] at b
            exact b hR'
    · rw [own_up_at] at hv hv'
      by_cases c : u = ho
      · rw [if_pos c] at hv; exact absurd rfl hv
      · by_cases c' : w = ho
        · rw [if_pos c'] at hv'; exact absurd rfl hv'
        · rw [if_neg c] at hv
          rw [if_neg c'] at hv'
          exact m6 u w hu hw c c' hv hv' he
    · rcases hl with ⟨u, a1, a2, a3, a4, a5⟩ | ⟨a1, a2⟩
      · exact Or.inl ⟨u, a1, by rw [own_up_at, if_neg a2]; exact a3, a4, by rw [own_up_at, if_neg a2]; exact a5⟩
      · refine Or.inr ⟨fun u hu hv => ?_, a2⟩
        rw [own_up_at] at hv
        by_cases c : u = ho
        · rw [if_pos c] at hv; exact absurd rfl hv
        · rw [if_neg c] at hv; exact a1 u hu c hv
  | succ n ih =>
    intro K V ho pr z hM hR hz hvz
    have hM' := hM
    obtain ⟨m1, m2, m3, m4, m5, m6, m7⟩ := hM'
    have hvp : V pr ≠ 0 := hR.1
    have hH := own_H16 (K pr)
    have sd := own_stay_d ho (own_H (K pr)) pr m1 hH m2 m4
    have hp1 : (pr + 1) % 16 < 16 := Nat.mod_lt _ (by decide)
    have hzh : z ≠ ho := fun e => m3 (by rw [← e]; exact hvz)
    have hzp : z ≠ pr := fun e => hvp (by rw [← e]; exact hvz)
    by_cases c : own_stay ho (own_H (K pr)) pr
    · rw [own_lp_y c]
      have hne : ho ≠ (pr + 1) % 16 := by
        intro e
        by_cases hzz : own_ds ho z < own_ds ho pr
        · exact (m7 z hz (by unfold own_ds; omega) hzz).1 hvz
        · unfold own_ds at hzz; omega
      refine ih K V ho ((pr + 1) % 16) z ⟨m1, hp1, m3, hne, m5, m6, fun u hu h1 h2 => ?_⟩ (own_rn_y c hR) hz hvz
      by_cases e : u = pr
      · rw [e]; exact ⟨hvp, sd.1 c⟩
      · exact m7 u hu h1 (by unfold own_ds at h1 h2 ⊢; omega)
    · rw [own_lp_n c]
      have sdn := sd.2 c
      have hh : own_up V ho (V pr) ho ≠ 0 := by rw [own_up_at, if_pos rfl]; exact hvp
      have grow : ∀ w, V w ≠ 0 → own_up V ho (V pr) w ≠ 0 := by
        intro w hw; rw [own_up_at]; split
        · exact hvp
        · exact hw
      have hv' : ∀ w, w ≠ ho → own_up V ho (V pr) w = V w := fun w hw => by rw [own_up_at, if_neg hw]
      have hk' : ∀ w, w ≠ ho → own_up K ho (K pr) w = K w := fun w hw => by rw [own_up_at, if_neg hw]
      have hkh : own_up K ho (K pr) ho = K pr := by rw [own_up_at, if_pos rfl]
      have hvh : own_up V ho (V pr) ho = V pr := by rw [own_up_at, if_pos rfl]
      have hM2 : own_Mid (own_up K ho (K pr)) (own_up V ho (V pr)) pr ((pr + 1) % 16) := by
        refine ⟨m2, hp1, by rw [hv' pr (Ne.symm m4)]; exact hvp, by omega, fun u hu hup hvu i hi => ?_, fun u w hu hw hup hwp hvu hvw he => ?_, fun u hu h1 h2 => ?_⟩
        · by_cases e : u = ho
          · rw [e, hkh] at hi ⊢
            exact grow _ (m5 pr m2 (Ne.symm m4) hvp i (by omega))
          · rw [hk' u e] at hi ⊢
            rw [hv' u e] at hvu
            exact grow _ (m5 u hu e hvu i hi)
        · by_cases e : u = ho <;> by_cases e' : w = ho
          · omega
          · rw [e, hkh, hk' w e'] at he
            rw [hv' w e'] at hvw
            exact absurd (m6 pr w m2 hw (Ne.symm m4) e' hvp hvw he).symm hwp
          · rw [e', hkh, hk' u e] at he
            rw [hv' u e] at hvu
            exact absurd (m6 u pr hu m2 e (Ne.symm m4) hvu hvp he) hup
          · rw [hk' u e, hk' w e'] at he
            rw [hv' u e] at hvu
            rw [hv' w e'] at hvw
            exact m6 u w hu hw e e' hvu hvw he
        · unfold own_ds at h1 h2; omega
      obtain ⟨r1, r2, r3⟩ := ih (own_up K ho (K pr)) (own_up V ho (V pr)) pr ((pr + 1) % 16) z hM2 (own_rn_n c hR) hz (by rw [hv' z hzh]; exact hvz)
      refine ⟨r1, r2, fun k r hl => r3 k r ?_⟩
      rcases hl with ⟨u, a1, a2, a3, a4, a5⟩ | ⟨a1, a2⟩
      · by_cases e : u = pr
        · rw [e] at a3 a4 a5
          exact Or.inl ⟨ho, m1, m4, hh, by rw [hkh]; exact a4, by rw [hvh]; exact a5⟩
        · exact Or.inl ⟨u, a1, e, by rw [hv' u a2]; exact a3, by rw [hk' u a2]; exact a4, by rw [hv' u a2]; exact a5⟩
      · refine Or.inr ⟨fun u hu hup hvu => ?_, a2⟩
        by_cases e : u = ho
        · rw [e, hkh]; exact a1 pr m2 (Ne.symm m4) hvp
        · rw [hk' u e]
          rw [hv' u e] at hvu
          exact a1 u hu e hvu
/-- the whole of a removal -/
theorem own_rem_ok {K V : Nat → Int32} (hI : own_Inv K V) {ho z : Nat} (h1 : ho < 16) (hv : V ho ≠ 0) (hz : z < 16) (hvz : V z = 0) : ∃ n, own_rn n K V ho ((ho + 1) % 16) ∧ own_Inv (own_lp n K V ho ((ho + 1) % 16)).1 (own_lp n K V ho ((ho + 1) % 16)).2 ∧ (∃ w, w < 16 ∧ (own_lp n K V ho ((ho + 1) % 16)).2 w = 0) ∧
    own_look (own_lp n K V ho ((ho + 1) % 16)).1 (own_lp n K V ho ((ho + 1) % 16)).2 (K ho) (-1) ∧ ∀ k r, k ≠ K ho → own_look K V k r → own_look (own_lp n K V ho ((ho + 1) % 16)).1 (own_lp n K V ho ((ho + 1) % 16)).2 k r := by
  have hzh : ho ≠ z := fun e => hv (by rw [e]; exact hvz)
  obtain ⟨n, hn⟩ := own_ends z hz _ K V ho ((ho + 1) % 16) (Nat.mod_lt _ (by decide)) hvz hzh rfl
  have hM : own_Mid K V ho ((ho + 1) % 16) := ⟨h1, Nat.mod_lt _ (by decide), hv, by omega, fun u hu _ hvu => hI.1 u hu hvu, fun u w hu hw _ _ hvu hvw he => hI.2 u w hu hw hvu hvw he, fun u hu a b => by unfold own_ds at a b; omega⟩
  obtain ⟨r1, r2, r3⟩ := own_mid n K V ho _ z hM hn hz hvz
  refine ⟨n, hn, r1, r2, r3 _ _ (Or.inr ⟨fun u hu hne hvu he => hne (hI.2 u ho hu h1 hvu hv he), rfl⟩), fun k r hk hl => r3 k r ?_⟩
  rcases hl with ⟨u, a1, a2, a3, a4⟩ | ⟨a1, a2⟩
  · exact Or.inl ⟨u, a1, fun e => hk (by rw [← a3, e]), a2, a3, a4⟩
  · exact Or.inr ⟨fun u hu _ hvu => a1 u hu hvu, a2⟩
def own_val (w b c d g : Int32) : Int32 := if w = g then 4 else if w = d then 3 else if w = c then 2 else if w = b then 1 else 0
def own_xp (w r b c d g : Int32) : Int32 := if w = r then -1 else if w = g then 4 else if w = d then 3 else if w = c then 2 else if w = b then 1 else 0
theorem own_ilt {a b : Int32} : a < b ↔ a.toInt < b.toInt := Int32.lt_iff_toInt_lt
theorem own_szok {z : Int32} (h : 0 ≤ z.toInt ∧ z.toInt ≤ 6) : ¬ ((16 : Int32) < ((z + (1 : Int32)) * (2 : Int32))) := by
  have e1 : (1 : Int32).toInt = 1 := by decide
  have e2 : (2 : Int32).toInt = 2 := by decide
  have e16 : (16 : Int32).toInt = 16 := by decide
  have a := c_iadd z 1
  have r := rng32 (z + 1)
  have b := c_imul (z + 1) 2
  have r2 := rng32 ((z + 1) * 2)
  rw [e1] at a
  rw [e2] at b
  rw [own_ilt, e16]
  omega
theorem own_szup {z : Int32} {n : Int} (h : 0 ≤ z.toInt ∧ z.toInt ≤ n) (hn : n ≤ 6) (P : Prop) [Decidable P] : 0 ≤ (if P then z + (1 : Int32) else z).toInt ∧ (if P then z + (1 : Int32) else z).toInt ≤ n + 1 := by
  have e1 : (1 : Int32).toInt = 1 := by decide
  have a := c_iadd z 1
  have r := rng32 (z + 1)
  rw [e1] at a
  split <;> omega
theorem own_h0 (k : Int32) : (own_hx k).toInt = (((own_H k + 0) % 16 : Nat) : Int) := by have := own_hx_at k; omega
theorem own_nxm {v : Int32} {a i : Nat} (h : v.toInt = (((a + i) % 16 : Nat) : Int)) : (own_nx v).toInt = (((a + (i + 1)) % 16 : Nat) : Int) := by
  have := own_nx_at h (Nat.mod_lt _ (by decide)); omega
theorem own_inv0 : own_Inv (fun _ => (0 : Int32)) (fun _ => (0 : Int32)) := ⟨fun _ _ h => absurd rfl h, fun _ _ _ _ h => absurd rfl h⟩
theorem own_cnt0 : own_cnt (fun _ => (0 : Int32)) 16 ≤ 0 := by decide
theorem own_y6 {hv hm pv : Int32} {ho h pr : Nat} (e1 : hv.toInt = (ho : Int)) (e2 : hm.toInt = (h : Int)) (e3 : pv.toInt = (pr : Int)) : ((if pv < hv then (if hv < hm then (1 : Int32) else (if pv < hm then (0 : Int32) else (1 : Int32))) else (if hv < hm then (if pv < hm then (0 : Int32) else (1 : Int32)) else (0 : Int32))) = 0) ↔ ¬ own_stay ho h pr := by
  simp only [own_ilt, e1, e2, e3]
  repeat' split
  all_goals first | exact ⟨fun _ => by omega, fun _ => rfl⟩ | exact ⟨fun q => absurd q (by decide), fun q => absurd q (by omega)⟩
theorem d1_0 : decode prog_63_method_1_code 0 = .ok (.aload_n 0, 1) := by decide +kernel
theorem d1_1 : decode prog_63_method_1_code 1 = .ok (.invokespecial 1, 3) := by decide +kernel
theorem d1_4 : decode prog_63_method_1_code 4 = .ok (.aload_n 0, 1) := by decide +kernel
theorem d1_5 : decode prog_63_method_1_code 5 = .ok (.bipush 16, 2) := by decide +kernel
theorem d1_7 : decode prog_63_method_1_code 7 = .ok (.newarray .int, 2) := by decide +kernel
theorem d1_9 : decode prog_63_method_1_code 9 = .ok (.putfield 7, 3) := by decide +kernel
theorem d1_12 : decode prog_63_method_1_code 12 = .ok (.aload_n 0, 1) := by decide +kernel
theorem d1_13 : decode prog_63_method_1_code 13 = .ok (.bipush 16, 2) := by decide +kernel
theorem d1_15 : decode prog_63_method_1_code 15 = .ok (.newarray .int, 2) := by decide +kernel
theorem d1_17 : decode prog_63_method_1_code 17 = .ok (.putfield 13, 3) := by decide +kernel
theorem d1_20 : decode prog_63_method_1_code 20 = .ok (.return_, 1) := by decide +kernel
theorem pn_1 : plainName "com/example/sigpoint/sigpoint/IntIndex" = true := by first | (simp [plainName, overriddenIn]; done) | decide +kernel
theorem ef_1 (m : MethodId) (x0 : Addr) : entryFrame m #[(.ref x0)] 1 = mkF m 0 #[.val (.ref x0)] [] := by first | (simp [entryFrame, mkF, argsToLocals, Value.category]; done) | rfl
def Q1 (Z : State) (ob : Addr) (h0 : Heap) (n0 : Nat) (v : Option Value) (h : Heap) (L : List Loc) : Prop := v = none ∧ Fr n0 L ∧ Keep h0 h [ob] ∧ ∃ (ka : Addr) (va : Addr), (h0.size ≤ ka) ∧ (h0.size ≤ va) ∧ (n0 ≤ ka) ∧ (n0 ≤ va) ∧ (ka ≠ va) ∧ (Exa Z h ob "com/example/sigpoint/sigpoint/IntIndex") ∧ (Fld Z h ob "com/example/sigpoint/sigpoint/IntIndex" "keys" "[I" (.ref ka)) ∧ (Fld Z h ob "com/example/sigpoint/sigpoint/IntIndex" "values" "[I" (.ref va)) ∧ (Fld Z h ob "com/example/sigpoint/sigpoint/IntIndex" "size" "I" (.int (0 : Int32))) ∧ (own_Ai Z h ka .int 16 (fun _ => (0 : Int32))) ∧ (own_Ai Z h va .int 16 (fun _ => (0 : Int32)))
set_option maxRecDepth 65536 in
set_option maxHeartbeats 40000000 in
theorem rm1 (l : Launch) (Z : State) (a0 : Array Value) (hw : ∀ d ∈ tables_1, d.before a0 Z = true) (ws : List Jvm.Cond) (ob : Addr) (h0 : Heap) (n0 : Nat) (Z0 : n0 ≤ h0.size) (E1 : Exa Z h0 ob "com/example/sigpoint/sigpoint/IntIndex") (F1 : Fld Z h0 ob "com/example/sigpoint/sigpoint/IntIndex" "keys" "[I" .null) (F2 : Fld Z h0 ob "com/example/sigpoint/sigpoint/IntIndex" "values" "[I" .null) (F3 : Fld Z h0 ob "com/example/sigpoint/sigpoint/IntIndex" "size" "I" (.int (0 : Int32))) (G1 : n0 ≤ ob) :
    MetFree l (⟨"com/example/sigpoint/sigpoint/IntIndex", "<init>", "()V"⟩ : MethodName) (head1 (Jvm.Cond.code (⟨"com/example/sigpoint/sigpoint/IntIndex", "<init>", "()V"⟩ : MethodName) prog_63_method_1_code 1 none :: ws) ({ frames := 1, cells := 2, slots := 32, locals := 12 } : Room)) (fun a U => a = #[(.ref ob)] ∧ Z.Warmed39 U.vm ∧ U.heap = h0) (fun _ _ _ _ _ => True) (fun _ U o U' => ∃ v L, o = .returned v ∧ Q1 Z ob h0 n0 v U'.heap L ∧ FrameEnd U o U' L ({ frames := 1, cells := 2, slots := 32, locals := 12 } : Room).cells ({ frames := 1, cells := 2, slots := 32, locals := 12 } : Room).slots) := by
  refine MetFree.of_bodySF (plainFor_of_name pn_1) hisR ?_
  intro p e s m args below meth c s₁ Bd hml0 hP hK
  obtain ⟨rfl, hZ, hh⟩ := hP
  have hx := Bd.exec
  have hby := Bd.bytes
  have hlk : meth.locks = false := BodyLoose.notSynchronized Bd
  have hml : c.maxLocals = 1 := hml0
  have hown : s.vm.findClass "com/example/sigpoint/sigpoint/IntIndex" = some m.cls := findClass_of_methodNamed Bd.named
  have hnm := (name_of_methodNamed Bd.named Bd.method).1
  have X0 : Stand p l e ({ frames := 1, cells := 2, slots := 32, locals := 12 } : Room) s m #[(.ref ob)] below meth c s₁ [] 0 0 := Stand.of_body Bd
  have e0 : s₁.heap = h0 := by rw [← hh, Bd.state]; rfl
  have N0 := Fr.nil n0
  have K0 : Keep h0 h0 [ob] := Keep.refl _ _
  show own_Go p e below (own_G s (Q1 Z ob h0 n0) ({ frames := 1, cells := 2, slots := 32, locals := 12 } : Room).cells ({ frames := 1, cells := 2, slots := 32, locals := 12 } : Room).slots) (s₁.setTop (entryFrame m #[(.ref ob)] 1))
  refine own_st (fun tgt k => castTop (ef_1 m ob) k) ?_
  show own_Go p e below _ (s₁.setTop (mkF m 0 #[.val (.ref ob)] []))
  refine own_st (V := s₁.setTop (mkF m 1 #[.val (.ref ob)] [(.ref ob)])) (fun tgt k => ?_) ?_
  · show Steps p.tables e below (s₁.setTop (mkF m 0 #[.val (.ref ob)] [])) tgt
    refine XS.aloadN X0.here hx rfl (hb hby d1_0) rfl rfl ?_
    exact k
  obtain ⟨T1, X1, e1, st1⟩ := initO X0 hx hZ hown (hw _ (List.mem_of_getElem? (i := 6) rfl)) (hw _ (List.mem_of_getElem? (i := 7) rfl)) (hw _ (List.mem_of_getElem? (i := 8) rfl)) e0 (g := (mkF m 1 #[.val (.ref ob)] [(.ref ob)])) rfl (by rw [hml]; rfl) rfl (hb hby d1_1) (by decide) (W := 0) (by show 2 * 0 + _ ≤ _; exact Nat.le_of_eq rfl) (by decide)
  refine own_st st1 ?_
  show own_Go p e below _ (T1.setTop (mkF m 4 #[.val (.ref ob)] []))
  refine own_st (V := T1.setTop (mkF m 7 #[.val (.ref ob)] [(.int (16 : Int32)), (.ref ob)])) (fun tgt k => ?_) ?_
  · show Steps p.tables e below (T1.setTop (mkF m 4 #[.val (.ref ob)] [])) tgt
    refine XS.aloadN X1.here hx rfl (hb hby d1_4) rfl rfl ?_
    show Steps p.tables e below (T1.setTop (mkF m 5 #[.val (.ref ob)] [(.ref ob)])) tgt
    refine XS.bipush X1.here hx rfl (hb hby d1_5) ?_
    exact k
  obtain ⟨T2, h2, c2, X2, e2, E2, A2, st2⟩ := own_newarr X1 hx hZ (hw _ (List.mem_of_getElem? (i := 9) rfl)) e1 (g := (mkF m 7 #[.val (.ref ob)] [(.int (16 : Int32)), (.ref ob)])) rfl (hb hby d1_7) rfl (k := 16) rfl (cap := 16) (by decide) (by decide) (by decide) (by decide)
  obtain ⟨ka, g2⟩ : ∃ z, z = h0.size := ⟨_, rfl⟩
  rw [← g2] at A2 st2
  have ne_ob_ka : ob ≠ ka := Nat.ne_of_lt (Nat.lt_of_lt_of_le E1.lt (Nat.le_of_eq g2.symm))
  have E_ob_2 := E1.ext E2
  have F_ob_keys_2 := F1.ext E2
  have F_ob_values_2 := F2.ext E2
  have F_ob_size_2 := F3.ext E2
  have g_ka : n0 ≤ ka := Nat.le_trans Z0 (Nat.le_of_eq g2.symm)
  have gs_ka : h0.size ≤ ka := Nat.le_trans K0.1 (Nat.le_of_eq g2.symm)
  have A_ka_2 : own_Ai Z h2 ka .int 16 (fun _ => 0) := own_Ai.new A2
  have Zs2 : n0 ≤ h2.size := Nat.le_trans Z0 E2.1
  have Kp2 := K0.ext E2
  refine own_st st2 ?_
  show own_Go p e below _ (T2.setTop (mkF m 9 #[.val (.ref ob)] [(.ref ka), (.ref ob)]))
  obtain ⟨T3, h3, X3, e3, W3, st3⟩ := putF X2 hx hZ hown (host := "") (Or.inl (hw _ (List.mem_of_getElem? (i := 10) rfl))) Via.refl e2 F_ob_keys_2 E_ob_2 (Or.inl (hw _ (List.mem_of_getElem? (i := 11) rfl))) (hw _ (List.mem_of_getElem? (i := 1) rfl)) (ty := (.array .int)) (by decide) rfl rfl (g := (mkF m 9 #[.val (.ref ob)] [(.ref ka), (.ref ob)])) rfl rfl (hb hby d1_9)
  have E_ob_3 := E_ob_2.wr W3
  have F_ob_values_3 := Fld.other W3 F_ob_values_2 (Or.inr (slot_ne (Or.inl (hw _ (List.mem_of_getElem? (i := 13) rfl))) (Or.inl (hw _ (List.mem_of_getElem? (i := 11) rfl))) (by decide) (t := (.array .int)) (t' := (.array .int)) (by decide) (by decide)))
  have F_ob_size_3 := Fld.other W3 F_ob_size_2 (Or.inr (slot_ne (Or.inl (hw _ (List.mem_of_getElem? (i := 20) rfl))) (Or.inl (hw _ (List.mem_of_getElem? (i := 11) rfl))) (by decide) (t := .int) (t' := (.array .int)) (by decide) (by decide)))
  have A_ka_3 := A_ka_2.other W3 (Ne.symm ne_ob_ka)
  have F_ob_keys_3 := Fld.same W3 F_ob_keys_2
  have N3 := Fr.snoc X3 N0 G1
  have Zs3 : n0 ≤ h3.size := Nat.le_trans Zs2 (Keep.of_wr W3).1
  have Kp3 := Kp2.wr W3 (Or.inl (List.mem_of_getElem? (i := 0) rfl))
  refine own_st st3 ?_
  show own_Go p e below _ (T3.setTop (mkF m 12 #[.val (.ref ob)] []))
  refine own_st (V := T3.setTop (mkF m 15 #[.val (.ref ob)] [(.int (16 : Int32)), (.ref ob)])) (fun tgt k => ?_) ?_
  · show Steps p.tables e below (T3.setTop (mkF m 12 #[.val (.ref ob)] [])) tgt
    refine XS.aloadN X3.here hx rfl (hb hby d1_12) rfl rfl ?_
    show Steps p.tables e below (T3.setTop (mkF m 13 #[.val (.ref ob)] [(.ref ob)])) tgt
    refine XS.bipush X3.here hx rfl (hb hby d1_13) ?_
    exact k
  obtain ⟨T4, h4, c4, X4, e4, E4, A4, st4⟩ := own_newarr X3 hx hZ (hw _ (List.mem_of_getElem? (i := 9) rfl)) e3 (g := (mkF m 15 #[.val (.ref ob)] [(.int (16 : Int32)), (.ref ob)])) rfl (hb hby d1_15) rfl (k := 16) rfl (cap := 16) (by decide) (by decide) (by decide) (by decide)
  obtain ⟨va, g4⟩ : ∃ z, z = h3.size := ⟨_, rfl⟩
  rw [← g4] at A4 st4
  have ne_ka_va : ka ≠ va := Nat.ne_of_lt (Nat.lt_of_lt_of_le A_ka_3.lt (Nat.le_of_eq g4.symm))
  have ne_ob_va : ob ≠ va := Nat.ne_of_lt (Nat.lt_of_lt_of_le E_ob_3.lt (Nat.le_of_eq g4.symm))
  have E_ob_4 := E_ob_3.ext E4
  have F_ob_keys_4 := F_ob_keys_3.ext E4
  have F_ob_values_4 := F_ob_values_3.ext E4
  have F_ob_size_4 := F_ob_size_3.ext E4
  have A_ka_4 := A_ka_3.ext E4
  have g_va : n0 ≤ va := Nat.le_trans Zs3 (Nat.le_of_eq g4.symm)
  have gs_va : h0.size ≤ va := Nat.le_trans Kp3.1 (Nat.le_of_eq g4.symm)
  have A_va_4 : own_Ai Z h4 va .int 16 (fun _ => 0) := own_Ai.new A4
  have Zs4 : n0 ≤ h4.size := Nat.le_trans Zs3 E4.1
  have Kp4 := Kp3.ext E4
  refine own_st st4 ?_
  show own_Go p e below _ (T4.setTop (mkF m 17 #[.val (.ref ob)] [(.ref va), (.ref ob)]))
  obtain ⟨T5, h5, X5, e5, W5, st5⟩ := putF X4 hx hZ hown (host := "") (Or.inl (hw _ (List.mem_of_getElem? (i := 12) rfl))) Via.refl e4 F_ob_values_4 E_ob_4 (Or.inl (hw _ (List.mem_of_getElem? (i := 13) rfl))) (hw _ (List.mem_of_getElem? (i := 1) rfl)) (ty := (.array .int)) (by decide) rfl rfl (g := (mkF m 17 #[.val (.ref ob)] [(.ref va), (.ref ob)])) rfl rfl (hb hby d1_17)
  have E_ob_5 := E_ob_4.wr W5
  have F_ob_keys_5 := Fld.other W5 F_ob_keys_4 (Or.inr (slot_ne (Or.inl (hw _ (List.mem_of_getElem? (i := 11) rfl))) (Or.inl (hw _ (List.mem_of_getElem? (i := 13) rfl))) (by decide) (t := (.array .int)) (t' := (.array .int)) (by decide) (by decide)))
  have F_ob_size_5 := Fld.other W5 F_ob_size_4 (Or.inr (slot_ne (Or.inl (hw _ (List.mem_of_getElem? (i := 20) rfl))) (Or.inl (hw _ (List.mem_of_getElem? (i := 13) rfl))) (by decide) (t := .int) (t' := (.array .int)) (by decide) (by decide)))
  have A_ka_5 := A_ka_4.other W5 (Ne.symm ne_ob_ka)
  have A_va_5 := A_va_4.other W5 (Ne.symm ne_ob_va)
  have F_ob_values_5 := Fld.same W5 F_ob_values_4
  have N5 := Fr.snoc X5 N3 G1
  have Zs5 : n0 ≤ h5.size := Nat.le_trans Zs4 (Keep.of_wr W5).1
  have Kp5 := Kp4.wr W5 (Or.inl (List.mem_of_getElem? (i := 0) rfl))
  refine own_st st5 ?_
  show own_Go p e below _ (T5.setTop (mkF m 20 #[.val (.ref ob)] []))
  refine own_ret0 X5 hx hlk Bd.returns (hb hby d1_20) ?_ (by decide) (by decide)
  show Q1 Z ob h0 n0 none T5.heap _
  rw [e5]
  exact ⟨rfl, N5, Kp5, ka, va, gs_ka, gs_va, g_ka, g_va, ne_ka_va, E_ob_5, F_ob_keys_5, F_ob_values_5, F_ob_size_5, A_ka_5, A_va_5⟩
theorem d4_0 : decode prog_63_method_6_code 0 = .ok (.iload_n 1, 1) := by decide +kernel
theorem d4_1 : decode prog_63_method_6_code 1 = .ok (.ldc 42, 2) := by decide +kernel
theorem d4_3 : decode prog_63_method_6_code 3 = .ok (.imul, 1) := by decide +kernel
theorem d4_4 : decode prog_63_method_6_code 4 = .ok (.istore_n 2, 1) := by decide +kernel
theorem d4_5 : decode prog_63_method_6_code 5 = .ok (.iload_n 2, 1) := by decide +kernel
theorem d4_6 : decode prog_63_method_6_code 6 = .ok (.iload_n 2, 1) := by decide +kernel
theorem d4_7 : decode prog_63_method_6_code 7 = .ok (.bipush 16, 2) := by decide +kernel
theorem d4_9 : decode prog_63_method_6_code 9 = .ok (.iushr, 1) := by decide +kernel
theorem d4_10 : decode prog_63_method_6_code 10 = .ok (.ixor, 1) := by decide +kernel
theorem d4_11 : decode prog_63_method_6_code 11 = .ok (.aload_n 0, 1) := by decide +kernel
theorem d4_12 : decode prog_63_method_6_code 12 = .ok (.getfield 7, 3) := by decide +kernel
theorem d4_15 : decode prog_63_method_6_code 15 = .ok (.arraylength, 1) := by decide +kernel
theorem d4_16 : decode prog_63_method_6_code 16 = .ok (.iconst 1, 1) := by decide +kernel
theorem d4_17 : decode prog_63_method_6_code 17 = .ok (.isub, 1) := by decide +kernel
theorem d4_18 : decode prog_63_method_6_code 18 = .ok (.iand, 1) := by decide +kernel
theorem d4_19 : decode prog_63_method_6_code 19 = .ok (.ireturn, 1) := by decide +kernel
theorem pn_4 : plainName "com/example/sigpoint/sigpoint/IntIndex" = true := by first | (simp [plainName, overriddenIn]; done) | decide +kernel
theorem ef_4 (m : MethodId) (x0 : Addr) (x1 : Int32) : entryFrame m #[(.ref x0), (.int x1)] 3 = mkF m 0 #[.val (.ref x0), .val (.int x1), .unset] [] := by first | (simp [entryFrame, mkF, argsToLocals, Value.category]; done) | rfl
def Q4 (Z : State) (ob : Addr) (xk : Int32) (ka : Addr) (kf : Nat → Int32) (h0 : Heap) (n0 : Nat) (v : Option Value) (h : Heap) (L : List Loc) : Prop := v = some (.int (own_hx xk)) ∧ Fr n0 L ∧ h = h0
set_option maxRecDepth 65536 in
set_option maxHeartbeats 40000000 in
theorem rm4 (l : Launch) (Z : State) (a0 : Array Value) (hw : ∀ d ∈ tables_1, d.before a0 Z = true) (ws : List Jvm.Cond) (ob : Addr) (xk : Int32) (ka : Addr) (kf : Nat → Int32) (h0 : Heap) (n0 : Nat) (Z0 : n0 ≤ h0.size) (F1 : Fld Z h0 ob "com/example/sigpoint/sigpoint/IntIndex" "keys" "[I" (.ref ka)) (A1 : own_Ai Z h0 ka .int 16 kf) :
    MetFree l (⟨"com/example/sigpoint/sigpoint/IntIndex", "home", "(I)I"⟩ : MethodName) (head1 (Jvm.Cond.code (⟨"com/example/sigpoint/sigpoint/IntIndex", "home", "(I)I"⟩ : MethodName) prog_63_method_6_code 3 (some .int) :: ws) ({ frames := 0, cells := 0, slots := 0, locals := 0 } : Room)) (fun a U => a = #[(.ref ob), (.int xk)] ∧ Z.Warmed39 U.vm ∧ U.heap = h0) (fun _ _ _ _ _ => True) (fun _ U o U' => ∃ v L, o = .returned v ∧ Q4 Z ob xk ka kf h0 n0 v U'.heap L ∧ FrameEnd U o U' L ({ frames := 0, cells := 0, slots := 0, locals := 0 } : Room).cells ({ frames := 0, cells := 0, slots := 0, locals := 0 } : Room).slots) := by
  refine MetFree.of_bodySF (plainFor_of_name pn_4) hisR ?_
  intro p e s m args below meth c s₁ Bd hml0 hP hK
  obtain ⟨rfl, hZ, hh⟩ := hP
  have hx := Bd.exec
  have hby := Bd.bytes
  have hlk : meth.locks = false := BodyLoose.notSynchronized Bd
  have hml : c.maxLocals = 3 := hml0
  have hown : s.vm.findClass "com/example/sigpoint/sigpoint/IntIndex" = some m.cls := findClass_of_methodNamed Bd.named
  have hnm := (name_of_methodNamed Bd.named Bd.method).1
  have X0 : Stand p l e ({ frames := 0, cells := 0, slots := 0, locals := 0 } : Room) s m #[(.ref ob), (.int xk)] below meth c s₁ [] 0 0 := Stand.of_body Bd
  have e0 : s₁.heap = h0 := by rw [← hh, Bd.state]; rfl
  have N0 := Fr.nil n0
  show own_Go p e below (own_G s (Q4 Z ob xk ka kf h0 n0) ({ frames := 0, cells := 0, slots := 0, locals := 0 } : Room).cells ({ frames := 0, cells := 0, slots := 0, locals := 0 } : Room).slots) (s₁.setTop (entryFrame m #[(.ref ob), (.int xk)] 3))
  refine own_st (fun tgt k => castTop (ef_4 m ob xk) k) ?_
  show own_Go p e below _ (s₁.setTop (mkF m 0 #[.val (.ref ob), .val (.int xk), .unset] []))
  refine own_st (V := s₁.setTop (mkF m 12 #[.val (.ref ob), .val (.int xk), .val (.int (xk * (-1640531527 : Int32)))] [(.ref ob), (.int ((xk * (-1640531527 : Int32)) ^^^ (((xk * (-1640531527 : Int32)).toUInt32 >>> ((16 : Int32) &&& 31).toUInt32).toInt32)))])) (fun tgt k => ?_) ?_
  · show Steps p.tables e below (s₁.setTop (mkF m 0 #[.val (.ref ob), .val (.int xk), .unset] [])) tgt
    refine XS.iloadN X0.here hx rfl (hb hby d4_0) rfl ?_
    show Steps p.tables e below (s₁.setTop (mkF m 1 #[.val (.ref ob), .val (.int xk), .unset] [(.int xk)])) tgt
    refine X0.ldcInt hx hown (mvT hZ (hw _ (List.mem_of_getElem? (i := 25) rfl))) (g := (mkF m 1 #[.val (.ref ob), .val (.int xk), .unset] [(.int xk)])) rfl (hb hby d4_1) _ ?_
    show Steps p.tables e below (s₁.setTop (mkF m 3 #[.val (.ref ob), .val (.int xk), .unset] [(.int (-1640531527 : Int32)), (.int xk)])) tgt
    refine XS.imul X0.here hx rfl (hb hby d4_3) rfl ?_
    show Steps p.tables e below (s₁.setTop (mkF m 4 #[.val (.ref ob), .val (.int xk), .unset] [(.int (xk * (-1640531527 : Int32)))])) tgt
    refine XS.istoreN X0.here hx rfl (hb hby d4_4) rfl (l' := #[.val (.ref ob), .val (.int xk), .val (.int (xk * (-1640531527 : Int32)))]) rfl ?_
    show Steps p.tables e below (s₁.setTop (mkF m 5 #[.val (.ref ob), .val (.int xk), .val (.int (xk * (-1640531527 : Int32)))] [])) tgt
    refine XS.iloadN X0.here hx rfl (hb hby d4_5) rfl ?_
    show Steps p.tables e below (s₁.setTop (mkF m 6 #[.val (.ref ob), .val (.int xk), .val (.int (xk * (-1640531527 : Int32)))] [(.int (xk * (-1640531527 : Int32)))])) tgt
    refine XS.iloadN X0.here hx rfl (hb hby d4_6) rfl ?_
    show Steps p.tables e below (s₁.setTop (mkF m 7 #[.val (.ref ob), .val (.int xk), .val (.int (xk * (-1640531527 : Int32)))] [(.int (xk * (-1640531527 : Int32))), (.int (xk * (-1640531527 : Int32)))])) tgt
    refine XS.bipush X0.here hx rfl (hb hby d4_7) ?_
    show Steps p.tables e below (s₁.setTop (mkF m 9 #[.val (.ref ob), .val (.int xk), .val (.int (xk * (-1640531527 : Int32)))] [(.int (16 : Int32)), (.int (xk * (-1640531527 : Int32))), (.int (xk * (-1640531527 : Int32)))])) tgt
    refine XS.iushr X0.here hx rfl (hb hby d4_9) rfl ?_
    show Steps p.tables e below (s₁.setTop (mkF m 10 #[.val (.ref ob), .val (.int xk), .val (.int (xk * (-1640531527 : Int32)))] [(.int (((xk * (-1640531527 : Int32)).toUInt32 >>> ((16 : Int32) &&& 31).toUInt32).toInt32)), (.int (xk * (-1640531527 : Int32)))])) tgt
    refine XS.ixor X0.here hx rfl (hb hby d4_10) rfl ?_
    show Steps p.tables e below (s₁.setTop (mkF m 11 #[.val (.ref ob), .val (.int xk), .val (.int (xk * (-1640531527 : Int32)))] [(.int ((xk * (-1640531527 : Int32)) ^^^ (((xk * (-1640531527 : Int32)).toUInt32 >>> ((16 : Int32) &&& 31).toUInt32).toInt32)))])) tgt
    refine XS.aloadN X0.here hx rfl (hb hby d4_11) rfl rfl ?_
    exact k
  obtain ⟨T1, X1, e1, st1⟩ := getF X0 hx hZ hown (host := "") (Or.inl (hw _ (List.mem_of_getElem? (i := 10) rfl))) Via.refl e0 F1 (g := (mkF m 12 #[.val (.ref ob), .val (.int xk), .val (.int (xk * (-1640531527 : Int32)))] [(.ref ob), (.int ((xk * (-1640531527 : Int32)) ^^^ (((xk * (-1640531527 : Int32)).toUInt32 >>> ((16 : Int32) &&& 31).toUInt32).toInt32)))])) rfl rfl (hb hby d4_12)
  refine own_st st1 ?_
  show own_Go p e below _ (T1.setTop (mkF m 15 #[.val (.ref ob), .val (.int xk), .val (.int (xk * (-1640531527 : Int32)))] [(.ref ka), (.int ((xk * (-1640531527 : Int32)) ^^^ (((xk * (-1640531527 : Int32)).toUInt32 >>> ((16 : Int32) &&& 31).toUInt32).toInt32)))]))
  refine own_st (V := T1.setTop (mkF m 19 #[.val (.ref ob), .val (.int xk), .val (.int (xk * (-1640531527 : Int32)))] [(.int (((xk * (-1640531527 : Int32)) ^^^ (((xk * (-1640531527 : Int32)).toUInt32 >>> ((16 : Int32) &&& 31).toUInt32).toInt32)) &&& ((16 : Int32) - (1 : Int32))))])) (fun tgt k => ?_) ?_
  · show Steps p.tables e below (T1.setTop (mkF m 15 #[.val (.ref ob), .val (.int xk), .val (.int (xk * (-1640531527 : Int32)))] [(.ref ka), (.int ((xk * (-1640531527 : Int32)) ^^^ (((xk * (-1640531527 : Int32)).toUInt32 >>> ((16 : Int32) &&& 31).toUInt32).toInt32)))])) tgt
    refine own_alen X1 hx hZ e1 A1 (z := (16 : Int32)) rfl (g := (mkF m 15 #[.val (.ref ob), .val (.int xk), .val (.int (xk * (-1640531527 : Int32)))] [(.ref ka), (.int ((xk * (-1640531527 : Int32)) ^^^ (((xk * (-1640531527 : Int32)).toUInt32 >>> ((16 : Int32) &&& 31).toUInt32).toInt32)))])) rfl rfl (hb hby d4_15) ?_
    show Steps p.tables e below (T1.setTop (mkF m 16 #[.val (.ref ob), .val (.int xk), .val (.int (xk * (-1640531527 : Int32)))] [(.int (16 : Int32)), (.int ((xk * (-1640531527 : Int32)) ^^^ (((xk * (-1640531527 : Int32)).toUInt32 >>> ((16 : Int32) &&& 31).toUInt32).toInt32)))])) tgt
    refine XS.iconst X1.here hx rfl (hb hby d4_16) ?_
    show Steps p.tables e below (T1.setTop (mkF m 17 #[.val (.ref ob), .val (.int xk), .val (.int (xk * (-1640531527 : Int32)))] [(.int (1 : Int32)), (.int (16 : Int32)), (.int ((xk * (-1640531527 : Int32)) ^^^ (((xk * (-1640531527 : Int32)).toUInt32 >>> ((16 : Int32) &&& 31).toUInt32).toInt32)))])) tgt
    refine XS.isub X1.here hx rfl (hb hby d4_17) rfl ?_
    show Steps p.tables e below (T1.setTop (mkF m 18 #[.val (.ref ob), .val (.int xk), .val (.int (xk * (-1640531527 : Int32)))] [(.int ((16 : Int32) - (1 : Int32))), (.int ((xk * (-1640531527 : Int32)) ^^^ (((xk * (-1640531527 : Int32)).toUInt32 >>> ((16 : Int32) &&& 31).toUInt32).toInt32)))])) tgt
    refine XS.iand X1.here hx rfl (hb hby d4_18) rfl ?_
    exact k
  refine own_retI X1 hx hlk Bd.returns (hb hby d4_19) ?_ (by decide) (by decide)
  show Q4 Z ob xk ka kf h0 n0 (some (.int (((xk * (-1640531527 : Int32)) ^^^ (((xk * (-1640531527 : Int32)).toUInt32 >>> ((16 : Int32) &&& 31).toUInt32).toInt32)) &&& ((16 : Int32) - (1 : Int32))))) T1.heap _
  rw [e1]
  refine ⟨?_, N0, rfl⟩
  exact congrArg (fun q => some (Value.int q)) (by rfl)
theorem d6_0 : decode prog_63_method_7_code 0 = .ok (.iload_n 1, 1) := by decide +kernel
theorem d6_1 : decode prog_63_method_7_code 1 = .ok (.iconst 1, 1) := by decide +kernel
theorem d6_2 : decode prog_63_method_7_code 2 = .ok (.iadd, 1) := by decide +kernel
theorem d6_3 : decode prog_63_method_7_code 3 = .ok (.aload_n 0, 1) := by decide +kernel
theorem d6_4 : decode prog_63_method_7_code 4 = .ok (.getfield 7, 3) := by decide +kernel
theorem d6_7 : decode prog_63_method_7_code 7 = .ok (.arraylength, 1) := by decide +kernel
theorem d6_8 : decode prog_63_method_7_code 8 = .ok (.iconst 1, 1) := by decide +kernel
theorem d6_9 : decode prog_63_method_7_code 9 = .ok (.isub, 1) := by decide +kernel
theorem d6_10 : decode prog_63_method_7_code 10 = .ok (.iand, 1) := by decide +kernel
theorem d6_11 : decode prog_63_method_7_code 11 = .ok (.ireturn, 1) := by decide +kernel
theorem pn_6 : plainName "com/example/sigpoint/sigpoint/IntIndex" = true := by first | (simp [plainName, overriddenIn]; done) | decide +kernel
theorem ef_6 (m : MethodId) (x0 : Addr) (x1 : Int32) : entryFrame m #[(.ref x0), (.int x1)] 2 = mkF m 0 #[.val (.ref x0), .val (.int x1)] [] := by first | (simp [entryFrame, mkF, argsToLocals, Value.category]; done) | rfl
def Q6 (Z : State) (ob : Addr) (xi : Int32) (ka : Addr) (kf : Nat → Int32) (h0 : Heap) (n0 : Nat) (v : Option Value) (h : Heap) (L : List Loc) : Prop := v = some (.int (own_nx xi)) ∧ Fr n0 L ∧ h = h0
set_option maxRecDepth 65536 in
set_option maxHeartbeats 40000000 in
theorem rm6 (l : Launch) (Z : State) (a0 : Array Value) (hw : ∀ d ∈ tables_1, d.before a0 Z = true) (ws : List Jvm.Cond) (ob : Addr) (xi : Int32) (ka : Addr) (kf : Nat → Int32) (h0 : Heap) (n0 : Nat) (Z0 : n0 ≤ h0.size) (F1 : Fld Z h0 ob "com/example/sigpoint/sigpoint/IntIndex" "keys" "[I" (.ref ka)) (A1 : own_Ai Z h0 ka .int 16 kf) :
    MetFree l (⟨"com/example/sigpoint/sigpoint/IntIndex", "next", "(I)I"⟩ : MethodName) (head1 (Jvm.Cond.code (⟨"com/example/sigpoint/sigpoint/IntIndex", "next", "(I)I"⟩ : MethodName) prog_63_method_7_code 2 (some .int) :: ws) ({ frames := 0, cells := 0, slots := 0, locals := 0 } : Room)) (fun a U => a = #[(.ref ob), (.int xi)] ∧ Z.Warmed39 U.vm ∧ U.heap = h0) (fun _ _ _ _ _ => True) (fun _ U o U' => ∃ v L, o = .returned v ∧ Q6 Z ob xi ka kf h0 n0 v U'.heap L ∧ FrameEnd U o U' L ({ frames := 0, cells := 0, slots := 0, locals := 0 } : Room).cells ({ frames := 0, cells := 0, slots := 0, locals := 0 } : Room).slots) := by
  refine MetFree.of_bodySF (plainFor_of_name pn_6) hisR ?_
  intro p e s m args below meth c s₁ Bd hml0 hP hK
  obtain ⟨rfl, hZ, hh⟩ := hP
  have hx := Bd.exec
  have hby := Bd.bytes
  have hlk : meth.locks = false := BodyLoose.notSynchronized Bd
  have hml : c.maxLocals = 2 := hml0
  have hown : s.vm.findClass "com/example/sigpoint/sigpoint/IntIndex" = some m.cls := findClass_of_methodNamed Bd.named
  have hnm := (name_of_methodNamed Bd.named Bd.method).1
  have X0 : Stand p l e ({ frames := 0, cells := 0, slots := 0, locals := 0 } : Room) s m #[(.ref ob), (.int xi)] below meth c s₁ [] 0 0 := Stand.of_body Bd
  have e0 : s₁.heap = h0 := by rw [← hh, Bd.state]; rfl
  have N0 := Fr.nil n0
  show own_Go p e below (own_G s (Q6 Z ob xi ka kf h0 n0) ({ frames := 0, cells := 0, slots := 0, locals := 0 } : Room).cells ({ frames := 0, cells := 0, slots := 0, locals := 0 } : Room).slots) (s₁.setTop (entryFrame m #[(.ref ob), (.int xi)] 2))
  refine own_st (fun tgt k => castTop (ef_6 m ob xi) k) ?_
  show own_Go p e below _ (s₁.setTop (mkF m 0 #[.val (.ref ob), .val (.int xi)] []))
  refine own_st (V := s₁.setTop (mkF m 4 #[.val (.ref ob), .val (.int xi)] [(.ref ob), (.int (xi + (1 : Int32)))])) (fun tgt k => ?_) ?_
  · show Steps p.tables e below (s₁.setTop (mkF m 0 #[.val (.ref ob), .val (.int xi)] [])) tgt
    refine XS.iloadN X0.here hx rfl (hb hby d6_0) rfl ?_
    show Steps p.tables e below (s₁.setTop (mkF m 1 #[.val (.ref ob), .val (.int xi)] [(.int xi)])) tgt
    refine XS.iconst X0.here hx rfl (hb hby d6_1) ?_
    show Steps p.tables e below (s₁.setTop (mkF m 2 #[.val (.ref ob), .val (.int xi)] [(.int (1 : Int32)), (.int xi)])) tgt
    refine XS.iadd X0.here hx rfl (hb hby d6_2) rfl ?_
    show Steps p.tables e below (s₁.setTop (mkF m 3 #[.val (.ref ob), .val (.int xi)] [(.int (xi + (1 : Int32)))])) tgt
    refine XS.aloadN X0.here hx rfl (hb hby d6_3) rfl rfl ?_
    exact k
  obtain ⟨T1, X1, e1, st1⟩ := getF X0 hx hZ hown (host := "") (Or.inl (hw _ (List.mem_of_getElem? (i := 10) rfl))) Via.refl e0 F1 (g := (mkF m 4 #[.val (.ref ob), .val (.int xi)] [(.ref ob), (.int (xi + (1 : Int32)))])) rfl rfl (hb hby d6_4)
  refine own_st st1 ?_
  show own_Go p e below _ (T1.setTop (mkF m 7 #[.val (.ref ob), .val (.int xi)] [(.ref ka), (.int (xi + (1 : Int32)))]))
  refine own_st (V := T1.setTop (mkF m 11 #[.val (.ref ob), .val (.int xi)] [(.int ((xi + (1 : Int32)) &&& ((16 : Int32) - (1 : Int32))))])) (fun tgt k => ?_) ?_
  · show Steps p.tables e below (T1.setTop (mkF m 7 #[.val (.ref ob), .val (.int xi)] [(.ref ka), (.int (xi + (1 : Int32)))])) tgt
    refine own_alen X1 hx hZ e1 A1 (z := (16 : Int32)) rfl (g := (mkF m 7 #[.val (.ref ob), .val (.int xi)] [(.ref ka), (.int (xi + (1 : Int32)))])) rfl rfl (hb hby d6_7) ?_
    show Steps p.tables e below (T1.setTop (mkF m 8 #[.val (.ref ob), .val (.int xi)] [(.int (16 : Int32)), (.int (xi + (1 : Int32)))])) tgt
    refine XS.iconst X1.here hx rfl (hb hby d6_8) ?_
    show Steps p.tables e below (T1.setTop (mkF m 9 #[.val (.ref ob), .val (.int xi)] [(.int (1 : Int32)), (.int (16 : Int32)), (.int (xi + (1 : Int32)))])) tgt
    refine XS.isub X1.here hx rfl (hb hby d6_9) rfl ?_
    show Steps p.tables e below (T1.setTop (mkF m 10 #[.val (.ref ob), .val (.int xi)] [(.int ((16 : Int32) - (1 : Int32))), (.int (xi + (1 : Int32)))])) tgt
    refine XS.iand X1.here hx rfl (hb hby d6_10) rfl ?_
    exact k
  refine own_retI X1 hx hlk Bd.returns (hb hby d6_11) ?_ (by decide) (by decide)
  show Q6 Z ob xi ka kf h0 n0 (some (.int ((xi + (1 : Int32)) &&& ((16 : Int32) - (1 : Int32))))) T1.heap _
  rw [e1]
  refine ⟨?_, N0, rfl⟩
  exact congrArg (fun q => some (Value.int q)) (by rfl)
theorem d7_0 : decode prog_63_method_2_code 0 = .ok (.aload_n 0, 1) := by decide +kernel
theorem d7_1 : decode prog_63_method_2_code 1 = .ok (.iload_n 1, 1) := by decide +kernel
theorem d7_2 : decode prog_63_method_2_code 2 = .ok (.invokevirtual 16, 3) := by decide +kernel
theorem d7_5 : decode prog_63_method_2_code 5 = .ok (.istore_n 2, 1) := by decide +kernel
theorem d7_6 : decode prog_63_method_2_code 6 = .ok (.aload_n 0, 1) := by decide +kernel
theorem d7_7 : decode prog_63_method_2_code 7 = .ok (.getfield 13, 3) := by decide +kernel
theorem d7_10 : decode prog_63_method_2_code 10 = .ok (.iload_n 2, 1) := by decide +kernel
theorem d7_11 : decode prog_63_method_2_code 11 = .ok (.iaload, 1) := by decide +kernel
theorem d7_12 : decode prog_63_method_2_code 12 = .ok (.ifCond .eq 31, 3) := by decide +kernel
theorem d7_15 : decode prog_63_method_2_code 15 = .ok (.aload_n 0, 1) := by decide +kernel
theorem d7_16 : decode prog_63_method_2_code 16 = .ok (.getfield 7, 3) := by decide +kernel
theorem d7_19 : decode prog_63_method_2_code 19 = .ok (.iload_n 2, 1) := by decide +kernel
theorem d7_20 : decode prog_63_method_2_code 20 = .ok (.iaload, 1) := by decide +kernel
theorem d7_21 : decode prog_63_method_2_code 21 = .ok (.iload_n 1, 1) := by decide +kernel
theorem d7_22 : decode prog_63_method_2_code 22 = .ok (.if_icmp .ne 12, 3) := by decide +kernel
theorem d7_25 : decode prog_63_method_2_code 25 = .ok (.aload_n 0, 1) := by decide +kernel
theorem d7_26 : decode prog_63_method_2_code 26 = .ok (.getfield 13, 3) := by decide +kernel
theorem d7_29 : decode prog_63_method_2_code 29 = .ok (.iload_n 2, 1) := by decide +kernel
theorem d7_30 : decode prog_63_method_2_code 30 = .ok (.iaload, 1) := by decide +kernel
theorem d7_31 : decode prog_63_method_2_code 31 = .ok (.iconst 1, 1) := by decide +kernel
theorem d7_32 : decode prog_63_method_2_code 32 = .ok (.isub, 1) := by decide +kernel
theorem d7_33 : decode prog_63_method_2_code 33 = .ok (.ireturn, 1) := by decide +kernel
theorem d7_34 : decode prog_63_method_2_code 34 = .ok (.aload_n 0, 1) := by decide +kernel
theorem d7_35 : decode prog_63_method_2_code 35 = .ok (.iload_n 2, 1) := by decide +kernel
theorem d7_36 : decode prog_63_method_2_code 36 = .ok (.invokevirtual 20, 3) := by decide +kernel
theorem d7_39 : decode prog_63_method_2_code 39 = .ok (.istore_n 2, 1) := by decide +kernel
theorem d7_40 : decode prog_63_method_2_code 40 = .ok (.goto (-34), 3) := by decide +kernel
theorem d7_43 : decode prog_63_method_2_code 43 = .ok (.iconst (-1), 1) := by decide +kernel
theorem d7_44 : decode prog_63_method_2_code 44 = .ok (.ireturn, 1) := by decide +kernel
theorem pn_7 : plainName "com/example/sigpoint/sigpoint/IntIndex" = true := by first | (simp [plainName, overriddenIn]; done) | decide +kernel
theorem pd_7_0 : parseMethodDescriptor "(I)I" = some ⟨[.int], some .int⟩ := by decide +kernel
theorem ef_7 (m : MethodId) (x0 : Addr) (x1 : Int32) : entryFrame m #[(.ref x0), (.int x1)] 3 = mkF m 0 #[.val (.ref x0), .val (.int x1), .unset] [] := by first | (simp [entryFrame, mkF, argsToLocals, Value.category]; done) | rfl
def Q7 (Z : State) (ob : Addr) (xk : Int32) (ka : Addr) (va : Addr) (kf : Nat → Int32) (vf : Nat → Int32) (tt : Nat) (h0 : Heap) (n0 : Nat) (v : Option Value) (h : Heap) (L : List Loc) : Prop := v = some (.int (if vf ((own_H xk + tt) % 16) = 0 then (-1 : Int32) else (vf ((own_H xk + tt) % 16)) - (1 : Int32))) ∧ Fr n0 L ∧ h = h0
set_option maxRecDepth 65536 in
set_option maxHeartbeats 40000000 in
theorem rm7 (l : Launch) (Z : State) (a0 : Array Value) (hw : ∀ d ∈ tables_1, d.before a0 Z = true) (ws : List Jvm.Cond) (ob : Addr) (xk : Int32) (ka : Addr) (va : Addr) (kf : Nat → Int32) (vf : Nat → Int32) (tt : Nat) (h0 : Heap) (n0 : Nat) (Z0 : n0 ≤ h0.size) (E1 : Exa Z h0 ob "com/example/sigpoint/sigpoint/IntIndex") (F1 : Fld Z h0 ob "com/example/sigpoint/sigpoint/IntIndex" "keys" "[I" (.ref ka)) (F2 : Fld Z h0 ob "com/example/sigpoint/sigpoint/IntIndex" "values" "[I" (.ref va)) (A1 : own_Ai Z h0 ka .int 16 kf) (A2 : own_Ai Z h0 va .int 16 vf) (T1 : tt < 16) (PR : own_Pr kf vf xk tt) :
    MetFree l (⟨"com/example/sigpoint/sigpoint/IntIndex", "get", "(I)I"⟩ : MethodName) (head1 (Jvm.Cond.code (⟨"com/example/sigpoint/sigpoint/IntIndex", "get", "(I)I"⟩ : MethodName) prog_63_method_2_code 3 (some .int) :: ws) ({ frames := 1, cells := 0, slots := 0, locals := 20 } : Room)) (fun a U => a = #[(.ref ob), (.int xk)] ∧ Z.Warmed39 U.vm ∧ U.heap = h0) (fun _ _ _ _ _ => True) (fun _ U o U' => ∃ v L, o = .returned v ∧ Q7 Z ob xk ka va kf vf tt h0 n0 v U'.heap L ∧ FrameEnd U o U' L ({ frames := 1, cells := 0, slots := 0, locals := 20 } : Room).cells ({ frames := 1, cells := 0, slots := 0, locals := 20 } : Room).slots) := by
  refine MetFree.of_bodySF (plainFor_of_name pn_7) hisR ?_
  intro p e s m args below meth c s₁ Bd hml0 hP hK
  obtain ⟨rfl, hZ, hh⟩ := hP
  have hx := Bd.exec
  have hby := Bd.bytes
  have hlk : meth.locks = false := BodyLoose.notSynchronized Bd
  have hml : c.maxLocals = 3 := hml0
  have hown : s.vm.findClass "com/example/sigpoint/sigpoint/IntIndex" = some m.cls := findClass_of_methodNamed Bd.named
  have hnm := (name_of_methodNamed Bd.named Bd.method).1
  have X0 : Stand p l e ({ frames := 1, cells := 0, slots := 0, locals := 20 } : Room) s m #[(.ref ob), (.int xk)] below meth c s₁ [] 0 0 := Stand.of_body Bd
  have e0 : s₁.heap = h0 := by rw [← hh, Bd.state]; rfl
  have N0 := Fr.nil n0
  show own_Go p e below (own_G s (Q7 Z ob xk ka va kf vf tt h0 n0) ({ frames := 1, cells := 0, slots := 0, locals := 20 } : Room).cells ({ frames := 1, cells := 0, slots := 0, locals := 20 } : Room).slots) (s₁.setTop (entryFrame m #[(.ref ob), (.int xk)] 3))
  refine own_st (fun tgt k => castTop (ef_7 m ob xk) k) ?_
  show own_Go p e below _ (s₁.setTop (mkF m 0 #[.val (.ref ob), .val (.int xk), .unset] []))
  refine own_st (V := s₁.setTop (mkF m 2 #[.val (.ref ob), .val (.int xk), .unset] [(.int xk), (.ref ob)])) (fun tgt k => ?_) ?_
  · show Steps p.tables e below (s₁.setTop (mkF m 0 #[.val (.ref ob), .val (.int xk), .unset] [])) tgt
    refine XS.aloadN X0.here hx rfl (hb hby d7_0) rfl rfl ?_
    show Steps p.tables e below (s₁.setTop (mkF m 1 #[.val (.ref ob), .val (.int xk), .unset] [(.ref ob)])) tgt
    refine XS.iloadN X0.here hx rfl (hb hby d7_1) rfl ?_
    exact k
  obtain ⟨cq1, q1, q1'⟩ := E1.cell
  obtain ⟨v1, _, ⟨T1, L1, k1, n1⟩, -, Xc1, ⟨Lc1, hQ1, l1, y1, z1⟩, st1⟩ := X0.privateBack hx (y := (⟨"com/example/sigpoint/sigpoint/IntIndex", "home", "(I)I"⟩ : MethodName)) hown (mvT hZ (hw _ (List.mem_of_getElem? (i := 21) rfl))) (mvT hZ (hw _ (List.mem_of_getElem? (i := 22) rfl))) (own_selp (y := (⟨"com/example/sigpoint/sigpoint/IntIndex", "home", "(I)I"⟩ : MethodName)) hZ (hw _ (List.mem_of_getElem? (i := 1) rfl)) (hw _ (List.mem_of_getElem? (i := 23) rfl)) (hw _ (List.mem_of_getElem? (i := 22) rfl)) (by decide)) (Cond.privateMethod_at (mvP hZ (hw _ (List.mem_of_getElem? (i := 23) rfl)) (args := #[]))) (mvT hZ (hw _ (List.mem_of_getElem? (i := 24) rfl))) (by decide) (backOf (W := 0) (rm4 l Z a0 hw [] ob xk ka kf h0 n0 Z0 F1 A1) hZ (hw _ (List.mem_of_getElem? (i := 24) rfl)) (hw _ (List.mem_of_getElem? (i := 2) rfl)) (by decide) (by decide)) (g := (mkF m 2 #[.val (.ref ob), .val (.int xk), .unset] [(.int xk), (.ref ob)])) rfl (by rw [hml]; rfl) (Steps.refl _) (a := ob) (by rw [e0]; exact q1) q1' (argsL := [(.int xk)]) (rest := []) (lenOf pd_7_0 rfl) rfl (by show 2 * 0 + _ ≤ _; exact Nat.le_of_eq rfl) (hb hby d7_2) (fun _ _ => ⟨rfl, e0, (by decide : 0 + 0 ≤ _), (by decide : 0 + 0 ≤ _)⟩)
  dsimp only [Pt.U, Pt.locs, Pt.cells, Pt.slots] at Xc1 l1 y1 z1 st1 hQ1
  have X1 := own_cast Xc1 l1 y1 z1
  obtain ⟨ev1, N1q, K1⟩ := hQ1
  rw [ev1] at st1
  have N1 := Fr.app N0 N1q
  refine own_st (fun tgt k => st1.trans k) ?_
  show own_Go p e below _ (T1.setTop (mkF m 5 #[.val (.ref ob), .val (.int xk), .unset] [(.int (own_hx xk))]))
  refine own_st (V := T1.setTop (mkF m 6 #[.val (.ref ob), .val (.int xk), .val (.int (own_hx xk))] [])) (fun tgt k => ?_) ?_
  · show Steps p.tables e below (T1.setTop (mkF m 5 #[.val (.ref ob), .val (.int xk), .unset] [(.int (own_hx xk))])) tgt
    refine XS.istoreN X1.here hx rfl (hb hby d7_5) rfl (l' := #[.val (.ref ob), .val (.int xk), .val (.int (own_hx xk))]) rfl ?_
    exact k
  have loop : ∀ (n i : Nat) (T : State) (locs : List Loc) (cs ss : Nat) (sv : Int32), i + n = tt → cs = 0 → ss = 0 → Stand p l e ({ frames := 1, cells := 0, slots := 0, locals := 20 } : Room) s m #[(.ref ob), (.int xk)] below meth c T locs cs ss → T.heap = h0 → Fr n0 locs → sv.toInt = (((own_H xk + i) % 16 : Nat) : Int) → own_Go p e below (own_G s (Q7 Z ob xk ka va kf vf tt h0 n0) ({ frames := 1, cells := 0, slots := 0, locals := 20 } : Room).cells ({ frames := 1, cells := 0, slots := 0, locals := 20 } : Room).slots) (T.setTop (mkF m 6 #[.val (.ref ob), .val (.int xk), .val (.int sv)] [])) := by
    intro n
    induction n with
    | zero =>
      intro i T1 locs1 cs ss sv hi hcs hss X1 e1 N1 hsv
      have hi' : tt = i := by omega
      subst hi'
      refine own_st (V := T1.setTop (mkF m 7 #[.val (.ref ob), .val (.int xk), .val (.int sv)] [(.ref ob)])) (fun tgt k => ?_) ?_
      · show Steps p.tables e below (T1.setTop (mkF m 6 #[.val (.ref ob), .val (.int xk), .val (.int sv)] [])) tgt
        refine XS.aloadN X1.here hx rfl (hb hby d7_6) rfl rfl ?_
        exact k
      obtain ⟨T2, X2, e2, st2⟩ := getF X1 hx hZ hown (host := "") (Or.inl (hw _ (List.mem_of_getElem? (i := 12) rfl))) Via.refl e1 F2 (g := (mkF m 7 #[.val (.ref ob), .val (.int xk), .val (.int sv)] [(.ref ob)])) rfl rfl (hb hby d7_7)
      refine own_st st2 ?_
      show own_Go p e below _ (T2.setTop (mkF m 10 #[.val (.ref ob), .val (.int xk), .val (.int sv)] [(.ref va)]))
      refine own_st (V := T2.setTop (mkF m 12 #[.val (.ref ob), .val (.int xk), .val (.int sv)] [(.int (vf ((own_H xk + tt) % 16)))])) (fun tgt k => ?_) ?_
      · show Steps p.tables e below (T2.setTop (mkF m 10 #[.val (.ref ob), .val (.int xk), .val (.int sv)] [(.ref va)])) tgt
        refine XS.iloadN X2.here hx rfl (hb hby d7_10) rfl ?_
        show Steps p.tables e below (T2.setTop (mkF m 11 #[.val (.ref ob), .val (.int xk), .val (.int sv)] [(.int sv), (.ref va)])) tgt
        refine own_iaload X2 hx hZ e2 A2 (j := sv) (k := ((own_H xk + tt) % 16)) hsv (Nat.mod_lt _ (by decide)) (g := (mkF m 11 #[.val (.ref ob), .val (.int xk), .val (.int sv)] [(.int sv), (.ref va)])) rfl rfl (hb hby d7_11) ?_
        exact k
      by_cases hc12 : (vf ((own_H xk + tt) % 16)) = (0 : Int32)
      · skip
        refine own_st (V := T2.setTop (mkF m 44 #[.val (.ref ob), .val (.int xk), .val (.int sv)] [(.int (-1 : Int32))])) (fun tgt k => ?_) ?_
        · show Steps p.tables e below (T2.setTop (mkF m 12 #[.val (.ref ob), .val (.int xk), .val (.int sv)] [(.int (vf ((own_H xk + tt) % 16)))])) tgt
          refine XS.ifYes X2.here hx rfl (pc0 := 12) (pc' := 43) rfl (hb hby d7_12) rfl ((if0 _ _).trans (teq hc12).1) (by decide) (by decide) ?_
          show Steps p.tables e below (T2.setTop (mkF m 43 #[.val (.ref ob), .val (.int xk), .val (.int sv)] [])) tgt
          refine XS.iconst X2.here hx rfl (hb hby d7_43) ?_
          exact k
        refine own_retI X2 hx hlk Bd.returns (hb hby d7_44) ?_ (own_z0 (by omega : cs = 0)) (own_z0 (by omega : ss = 0))
        show Q7 Z ob xk ka va kf vf tt h0 n0 (some (.int (-1 : Int32))) T2.heap _
        rw [e2]
        refine ⟨?_, N1, rfl⟩
        exact congrArg (fun q => some (Value.int q)) (by rw [if_pos hc12])
      · skip
        refine own_st (V := T2.setTop (mkF m 16 #[.val (.ref ob), .val (.int xk), .val (.int sv)] [(.ref ob)])) (fun tgt k => ?_) ?_
        · show Steps p.tables e below (T2.setTop (mkF m 12 #[.val (.ref ob), .val (.int xk), .val (.int sv)] [(.int (vf ((own_H xk + tt) % 16)))])) tgt
          refine XS.ifNo X2.here hx rfl (hb hby d7_12) rfl ((if0 _ _).trans (feq hc12).1) ?_
          show Steps p.tables e below (T2.setTop (mkF m 15 #[.val (.ref ob), .val (.int xk), .val (.int sv)] [])) tgt
          refine XS.aloadN X2.here hx rfl (hb hby d7_15) rfl rfl ?_
          exact k
        obtain ⟨T4, X4, e4, st4⟩ := getF X2 hx hZ hown (host := "") (Or.inl (hw _ (List.mem_of_getElem? (i := 10) rfl))) Via.refl e2 F1 (g := (mkF m 16 #[.val (.ref ob), .val (.int xk), .val (.int sv)] [(.ref ob)])) rfl rfl (hb hby d7_16)
        refine own_st st4 ?_
        show own_Go p e below _ (T4.setTop (mkF m 19 #[.val (.ref ob), .val (.int xk), .val (.int sv)] [(.ref ka)]))
        refine own_st (V := T4.setTop (mkF m 26 #[.val (.ref ob), .val (.int xk), .val (.int sv)] [(.ref ob)])) (fun tgt k => ?_) ?_
        · show Steps p.tables e below (T4.setTop (mkF m 19 #[.val (.ref ob), .val (.int xk), .val (.int sv)] [(.ref ka)])) tgt
          refine XS.iloadN X4.here hx rfl (hb hby d7_19) rfl ?_
          show Steps p.tables e below (T4.setTop (mkF m 20 #[.val (.ref ob), .val (.int xk), .val (.int sv)] [(.int sv), (.ref ka)])) tgt
          refine own_iaload X4 hx hZ e4 A1 (j := sv) (k := ((own_H xk + tt) % 16)) hsv (Nat.mod_lt _ (by decide)) (g := (mkF m 20 #[.val (.ref ob), .val (.int xk), .val (.int sv)] [(.int sv), (.ref ka)])) rfl rfl (hb hby d7_20) ?_
          show Steps p.tables e below (T4.setTop (mkF m 21 #[.val (.ref ob), .val (.int xk), .val (.int sv)] [(.int (kf ((own_H xk + tt) % 16)))])) tgt
          refine XS.iloadN X4.here hx rfl (hb hby d7_21) rfl ?_
          show Steps p.tables e below (T4.setTop (mkF m 22 #[.val (.ref ob), .val (.int xk), .val (.int sv)] [(.int xk), (.int (kf ((own_H xk + tt) % 16)))])) tgt
          refine XS.icmpNo X4.here hx rfl (hb hby d7_22) rfl (teq (PR.2.resolve_left hc12)).2 ?_
          show Steps p.tables e below (T4.setTop (mkF m 25 #[.val (.ref ob), .val (.int xk), .val (.int sv)] [])) tgt
          refine XS.aloadN X4.here hx rfl (hb hby d7_25) rfl rfl ?_
          exact k
        obtain ⟨T5, X5, e5, st5⟩ := getF X4 hx hZ hown (host := "") (Or.inl (hw _ (List.mem_of_getElem? (i := 12) rfl))) Via.refl e4 F2 (g := (mkF m 26 #[.val (.ref ob), .val (.int xk), .val (.int sv)] [(.ref ob)])) rfl rfl (hb hby d7_26)
        refine own_st st5 ?_
        show own_Go p e below _ (T5.setTop (mkF m 29 #[.val (.ref ob), .val (.int xk), .val (.int sv)] [(.ref va)]))
        refine own_st (V := T5.setTop (mkF m 33 #[.val (.ref ob), .val (.int xk), .val (.int sv)] [(.int ((vf ((own_H xk + tt) % 16)) - (1 : Int32)))])) (fun tgt k => ?_) ?_
        · show Steps p.tables e below (T5.setTop (mkF m 29 #[.val (.ref ob), .val (.int xk), .val (.int sv)] [(.ref va)])) tgt
          refine XS.iloadN X5.here hx rfl (hb hby d7_29) rfl ?_
          show Steps p.tables e below (T5.setTop (mkF m 30 #[.val (.ref ob), .val (.int xk), .val (.int sv)] [(.int sv), (.ref va)])) tgt
          refine own_iaload X5 hx hZ e5 A2 (j := sv) (k := ((own_H xk + tt) % 16)) hsv (Nat.mod_lt _ (by decide)) (g := (mkF m 30 #[.val (.ref ob), .val (.int xk), .val (.int sv)] [(.int sv), (.ref va)])) rfl rfl (hb hby d7_30) ?_
          show Steps p.tables e below (T5.setTop (mkF m 31 #[.val (.ref ob), .val (.int xk), .val (.int sv)] [(.int (vf ((own_H xk + tt) % 16)))])) tgt
          refine XS.iconst X5.here hx rfl (hb hby d7_31) ?_
          show Steps p.tables e below (T5.setTop (mkF m 32 #[.val (.ref ob), .val (.int xk), .val (.int sv)] [(.int (1 : Int32)), (.int (vf ((own_H xk + tt) % 16)))])) tgt
          refine XS.isub X5.here hx rfl (hb hby d7_32) rfl ?_
          exact k
        refine own_retI X5 hx hlk Bd.returns (hb hby d7_33) ?_ (own_z0 (by omega : cs = 0)) (own_z0 (by omega : ss = 0))
        show Q7 Z ob xk ka va kf vf tt h0 n0 (some (.int ((vf ((own_H xk + tt) % 16)) - (1 : Int32)))) T5.heap _
        rw [e5]
        refine ⟨?_, N1, rfl⟩
        exact congrArg (fun q => some (Value.int q)) (by rw [if_neg hc12])
    | succ n ih =>
      intro i T1 locs1 cs ss sv hi hcs hss X1 e1 N1 hsv
      have q := PR.1 i (by omega)
      refine own_st (V := T1.setTop (mkF m 7 #[.val (.ref ob), .val (.int xk), .val (.int sv)] [(.ref ob)])) (fun tgt k => ?_) ?_
      · show Steps p.tables e below (T1.setTop (mkF m 6 #[.val (.ref ob), .val (.int xk), .val (.int sv)] [])) tgt
        refine XS.aloadN X1.here hx rfl (hb hby d7_6) rfl rfl ?_
        exact k
      obtain ⟨T7, X7, e7, st7⟩ := getF X1 hx hZ hown (host := "") (Or.inl (hw _ (List.mem_of_getElem? (i := 12) rfl))) Via.refl e1 F2 (g := (mkF m 7 #[.val (.ref ob), .val (.int xk), .val (.int sv)] [(.ref ob)])) rfl rfl (hb hby d7_7)
      refine own_st st7 ?_
      show own_Go p e below _ (T7.setTop (mkF m 10 #[.val (.ref ob), .val (.int xk), .val (.int sv)] [(.ref va)]))
      refine own_st (V := T7.setTop (mkF m 16 #[.val (.ref ob), .val (.int xk), .val (.int sv)] [(.ref ob)])) (fun tgt k => ?_) ?_
      · show Steps p.tables e below (T7.setTop (mkF m 10 #[.val (.ref ob), .val (.int xk), .val (.int sv)] [(.ref va)])) tgt
        refine XS.iloadN X7.here hx rfl (hb hby d7_10) rfl ?_
        show Steps p.tables e below (T7.setTop (mkF m 11 #[.val (.ref ob), .val (.int xk), .val (.int sv)] [(.int sv), (.ref va)])) tgt
        refine own_iaload X7 hx hZ e7 A2 (j := sv) (k := ((own_H xk + i) % 16)) hsv (Nat.mod_lt _ (by decide)) (g := (mkF m 11 #[.val (.ref ob), .val (.int xk), .val (.int sv)] [(.int sv), (.ref va)])) rfl rfl (hb hby d7_11) ?_
        show Steps p.tables e below (T7.setTop (mkF m 12 #[.val (.ref ob), .val (.int xk), .val (.int sv)] [(.int (vf ((own_H xk + i) % 16)))])) tgt
        refine XS.ifNo X7.here hx rfl (hb hby d7_12) rfl ((if0 _ _).trans (feq q.1).1) ?_
        show Steps p.tables e below (T7.setTop (mkF m 15 #[.val (.ref ob), .val (.int xk), .val (.int sv)] [])) tgt
        refine XS.aloadN X7.here hx rfl (hb hby d7_15) rfl rfl ?_
        exact k
      obtain ⟨T8, X8, e8, st8⟩ := getF X7 hx hZ hown (host := "") (Or.inl (hw _ (List.mem_of_getElem? (i := 10) rfl))) Via.refl e7 F1 (g := (mkF m 16 #[.val (.ref ob), .val (.int xk), .val (.int sv)] [(.ref ob)])) rfl rfl (hb hby d7_16)
      refine own_st st8 ?_
      show own_Go p e below _ (T8.setTop (mkF m 19 #[.val (.ref ob), .val (.int xk), .val (.int sv)] [(.ref ka)]))
      refine own_st (V := T8.setTop (mkF m 36 #[.val (.ref ob), .val (.int xk), .val (.int sv)] [(.int sv), (.ref ob)])) (fun tgt k => ?_) ?_
      · show Steps p.tables e below (T8.setTop (mkF m 19 #[.val (.ref ob), .val (.int xk), .val (.int sv)] [(.ref ka)])) tgt
        refine XS.iloadN X8.here hx rfl (hb hby d7_19) rfl ?_
        show Steps p.tables e below (T8.setTop (mkF m 20 #[.val (.ref ob), .val (.int xk), .val (.int sv)] [(.int sv), (.ref ka)])) tgt
        refine own_iaload X8 hx hZ e8 A1 (j := sv) (k := ((own_H xk + i) % 16)) hsv (Nat.mod_lt _ (by decide)) (g := (mkF m 20 #[.val (.ref ob), .val (.int xk), .val (.int sv)] [(.int sv), (.ref ka)])) rfl rfl (hb hby d7_20) ?_
        show Steps p.tables e below (T8.setTop (mkF m 21 #[.val (.ref ob), .val (.int xk), .val (.int sv)] [(.int (kf ((own_H xk + i) % 16)))])) tgt
        refine XS.iloadN X8.here hx rfl (hb hby d7_21) rfl ?_
        show Steps p.tables e below (T8.setTop (mkF m 22 #[.val (.ref ob), .val (.int xk), .val (.int sv)] [(.int xk), (.int (kf ((own_H xk + i) % 16)))])) tgt
        refine XS.icmpYes X8.here hx rfl (pc0 := 22) (pc' := 34) rfl (hb hby d7_22) rfl (feq q.2).2 (by decide) (by decide) ?_
        show Steps p.tables e below (T8.setTop (mkF m 34 #[.val (.ref ob), .val (.int xk), .val (.int sv)] [])) tgt
        refine XS.aloadN X8.here hx rfl (hb hby d7_34) rfl rfl ?_
        show Steps p.tables e below (T8.setTop (mkF m 35 #[.val (.ref ob), .val (.int xk), .val (.int sv)] [(.ref ob)])) tgt
        refine XS.iloadN X8.here hx rfl (hb hby d7_35) rfl ?_
        exact k
      obtain ⟨cq9, q9, q9'⟩ := E1.cell
      obtain ⟨v9, _, ⟨T9, L9, k9, n9⟩, -, Xc9, ⟨Lc9, hQ9, l9, y9, z9⟩, st9⟩ := X8.privateBack hx (y := (⟨"com/example/sigpoint/sigpoint/IntIndex", "next", "(I)I"⟩ : MethodName)) hown (mvT hZ (hw _ (List.mem_of_getElem? (i := 31) rfl))) (mvT hZ (hw _ (List.mem_of_getElem? (i := 32) rfl))) (own_selp (y := (⟨"com/example/sigpoint/sigpoint/IntIndex", "next", "(I)I"⟩ : MethodName)) hZ (hw _ (List.mem_of_getElem? (i := 1) rfl)) (hw _ (List.mem_of_getElem? (i := 33) rfl)) (hw _ (List.mem_of_getElem? (i := 32) rfl)) (by decide)) (Cond.privateMethod_at (mvP hZ (hw _ (List.mem_of_getElem? (i := 33) rfl)) (args := #[]))) (mvT hZ (hw _ (List.mem_of_getElem? (i := 34) rfl))) (by decide) (backOf (W := 0) (rm6 l Z a0 hw [] ob sv ka kf h0 n0 Z0 F1 A1) hZ (hw _ (List.mem_of_getElem? (i := 34) rfl)) (hw _ (List.mem_of_getElem? (i := 2) rfl)) (by decide) (by decide)) (g := (mkF m 36 #[.val (.ref ob), .val (.int xk), .val (.int sv)] [(.int sv), (.ref ob)])) rfl (by rw [hml]; rfl) (Steps.refl _) (a := ob) (by rw [e8]; exact q9) q9' (argsL := [(.int sv)]) (rest := []) (lenOf pd_7_0 rfl) rfl (by show 2 * 0 + _ ≤ _; exact Nat.le_of_eq rfl) (hb hby d7_36) (fun _ _ => ⟨rfl, e8, (own_z0 (by omega : cs + 0 = 0)), (own_z0 (by omega : ss + 0 = 0))⟩)
      dsimp only [Pt.U, Pt.locs, Pt.cells, Pt.slots] at Xc9 l9 y9 z9 st9 hQ9
      have X9 := own_cast Xc9 l9 y9 z9
      obtain ⟨ev9, N9q, K9⟩ := hQ9
      rw [ev9] at st9
      have N9 := Fr.app N1 N9q
      refine own_st (fun tgt k => st9.trans k) ?_
      show own_Go p e below _ (T9.setTop (mkF m 39 #[.val (.ref ob), .val (.int xk), .val (.int sv)] [(.int (own_nx sv))]))
      refine own_st (V := T9.setTop (mkF m 6 #[.val (.ref ob), .val (.int xk), .val (.int (own_nx sv))] [])) (fun tgt k => ?_) ?_
      · show Steps p.tables e below (T9.setTop (mkF m 39 #[.val (.ref ob), .val (.int xk), .val (.int sv)] [(.int (own_nx sv))])) tgt
        refine XS.istoreN X9.here hx rfl (hb hby d7_39) rfl (l' := #[.val (.ref ob), .val (.int xk), .val (.int (own_nx sv))]) rfl ?_
        show Steps p.tables e below (T9.setTop (mkF m 40 #[.val (.ref ob), .val (.int xk), .val (.int (own_nx sv))] [])) tgt
        refine XS.goto X9.here hx rfl (pc0 := 40) (pc' := 6) rfl (hb hby d7_40) (by decide) (by decide) ?_
        exact k
      exact ih (i + 1) _ _ _ _ _ (by omega) (by show (cs + 0) = 0; omega) (by show (ss + 0) = 0; omega) X9 K9 N9 (own_nxm hsv)
  exact loop tt 0 _ _ _ _ _ (by omega) rfl rfl X1 K1 N1 (own_h0 xk)
theorem d3_0 : decode prog_63_method_4_code 0 = .ok (.iload_n 2, 1) := by decide +kernel
theorem d3_1 : decode prog_63_method_4_code 1 = .ok (.ifCond .ge 17, 3) := by decide +kernel
theorem d3_18 : decode prog_63_method_4_code 18 = .ok (.aload_n 0, 1) := by decide +kernel
theorem d3_19 : decode prog_63_method_4_code 19 = .ok (.getfield 35, 3) := by decide +kernel
theorem d3_22 : decode prog_63_method_4_code 22 = .ok (.iconst 1, 1) := by decide +kernel
theorem d3_23 : decode prog_63_method_4_code 23 = .ok (.iadd, 1) := by decide +kernel
theorem d3_24 : decode prog_63_method_4_code 24 = .ok (.iconst 2, 1) := by decide +kernel
theorem d3_25 : decode prog_63_method_4_code 25 = .ok (.imul, 1) := by decide +kernel
theorem d3_26 : decode prog_63_method_4_code 26 = .ok (.aload_n 0, 1) := by decide +kernel
theorem d3_27 : decode prog_63_method_4_code 27 = .ok (.getfield 7, 3) := by decide +kernel
theorem d3_30 : decode prog_63_method_4_code 30 = .ok (.arraylength, 1) := by decide +kernel
theorem d3_31 : decode prog_63_method_4_code 31 = .ok (.if_icmp .le 7, 3) := by decide +kernel
theorem d3_38 : decode prog_63_method_4_code 38 = .ok (.aload_n 0, 1) := by decide +kernel
theorem d3_39 : decode prog_63_method_4_code 39 = .ok (.iload_n 1, 1) := by decide +kernel
theorem d3_40 : decode prog_63_method_4_code 40 = .ok (.invokevirtual 16, 3) := by decide +kernel
theorem d3_43 : decode prog_63_method_4_code 43 = .ok (.istore_n 3, 1) := by decide +kernel
theorem d3_44 : decode prog_63_method_4_code 44 = .ok (.aload_n 0, 1) := by decide +kernel
theorem d3_45 : decode prog_63_method_4_code 45 = .ok (.getfield 13, 3) := by decide +kernel
theorem d3_48 : decode prog_63_method_4_code 48 = .ok (.iload_n 3, 1) := by decide +kernel
theorem d3_49 : decode prog_63_method_4_code 49 = .ok (.iaload, 1) := by decide +kernel
theorem d3_50 : decode prog_63_method_4_code 50 = .ok (.ifCond .eq 22, 3) := by decide +kernel
theorem d3_53 : decode prog_63_method_4_code 53 = .ok (.aload_n 0, 1) := by decide +kernel
theorem d3_54 : decode prog_63_method_4_code 54 = .ok (.getfield 7, 3) := by decide +kernel
theorem d3_57 : decode prog_63_method_4_code 57 = .ok (.iload_n 3, 1) := by decide +kernel
theorem d3_58 : decode prog_63_method_4_code 58 = .ok (.iaload, 1) := by decide +kernel
theorem d3_59 : decode prog_63_method_4_code 59 = .ok (.iload_n 1, 1) := by decide +kernel
theorem d3_60 : decode prog_63_method_4_code 60 = .ok (.if_icmp .eq 12, 3) := by decide +kernel
theorem d3_63 : decode prog_63_method_4_code 63 = .ok (.aload_n 0, 1) := by decide +kernel
theorem d3_64 : decode prog_63_method_4_code 64 = .ok (.iload_n 3, 1) := by decide +kernel
theorem d3_65 : decode prog_63_method_4_code 65 = .ok (.invokevirtual 20, 3) := by decide +kernel
theorem d3_68 : decode prog_63_method_4_code 68 = .ok (.istore_n 3, 1) := by decide +kernel
theorem d3_69 : decode prog_63_method_4_code 69 = .ok (.goto (-25), 3) := by decide +kernel
theorem d3_72 : decode prog_63_method_4_code 72 = .ok (.aload_n 0, 1) := by decide +kernel
theorem d3_73 : decode prog_63_method_4_code 73 = .ok (.getfield 13, 3) := by decide +kernel
theorem d3_76 : decode prog_63_method_4_code 76 = .ok (.iload_n 3, 1) := by decide +kernel
theorem d3_77 : decode prog_63_method_4_code 77 = .ok (.iaload, 1) := by decide +kernel
theorem d3_78 : decode prog_63_method_4_code 78 = .ok (.ifCond .ne 13, 3) := by decide +kernel
theorem d3_81 : decode prog_63_method_4_code 81 = .ok (.aload_n 0, 1) := by decide +kernel
theorem d3_82 : decode prog_63_method_4_code 82 = .ok (.dup, 1) := by decide +kernel
theorem d3_83 : decode prog_63_method_4_code 83 = .ok (.getfield 35, 3) := by decide +kernel
theorem d3_86 : decode prog_63_method_4_code 86 = .ok (.iconst 1, 1) := by decide +kernel
theorem d3_87 : decode prog_63_method_4_code 87 = .ok (.iadd, 1) := by decide +kernel
theorem d3_88 : decode prog_63_method_4_code 88 = .ok (.putfield 35, 3) := by decide +kernel
theorem d3_91 : decode prog_63_method_4_code 91 = .ok (.aload_n 0, 1) := by decide +kernel
theorem d3_92 : decode prog_63_method_4_code 92 = .ok (.getfield 7, 3) := by decide +kernel
theorem d3_95 : decode prog_63_method_4_code 95 = .ok (.iload_n 3, 1) := by decide +kernel
theorem d3_96 : decode prog_63_method_4_code 96 = .ok (.iload_n 1, 1) := by decide +kernel
theorem d3_97 : decode prog_63_method_4_code 97 = .ok (.iastore, 1) := by decide +kernel
theorem d3_98 : decode prog_63_method_4_code 98 = .ok (.aload_n 0, 1) := by decide +kernel
theorem d3_99 : decode prog_63_method_4_code 99 = .ok (.getfield 13, 3) := by decide +kernel
theorem d3_102 : decode prog_63_method_4_code 102 = .ok (.iload_n 3, 1) := by decide +kernel
theorem d3_103 : decode prog_63_method_4_code 103 = .ok (.iload_n 2, 1) := by decide +kernel
theorem d3_104 : decode prog_63_method_4_code 104 = .ok (.iconst 1, 1) := by decide +kernel
theorem d3_105 : decode prog_63_method_4_code 105 = .ok (.iadd, 1) := by decide +kernel
theorem d3_106 : decode prog_63_method_4_code 106 = .ok (.iastore, 1) := by decide +kernel
theorem d3_107 : decode prog_63_method_4_code 107 = .ok (.return_, 1) := by decide +kernel
theorem pn_3 : plainName "com/example/sigpoint/sigpoint/IntIndex" = true := by first | (simp [plainName, overriddenIn]; done) | decide +kernel
theorem pd_3_0 : parseMethodDescriptor "(I)I" = some ⟨[.int], some .int⟩ := by decide +kernel
theorem ef_3 (m : MethodId) (x0 : Addr) (x1 : Int32) (x2 : Int32) : entryFrame m #[(.ref x0), (.int x1), (.int x2)] 4 = mkF m 0 #[.val (.ref x0), .val (.int x1), .val (.int x2), .unset] [] := by first | (simp [entryFrame, mkF, argsToLocals, Value.category]; done) | rfl
def Q3 (Z : State) (ob : Addr) (xk : Int32) (xv : Int32) (ka : Addr) (va : Addr) (kf : Nat → Int32) (vf : Nat → Int32) (sz : Int32) (tt : Nat) (h0 : Heap) (n0 : Nat) (v : Option Value) (h : Heap) (L : List Loc) : Prop := v = none ∧ Fr n0 L ∧ Keep h0 h [ob, ka, va] ∧ (Exa Z h ob "com/example/sigpoint/sigpoint/IntIndex") ∧ (Fld Z h ob "com/example/sigpoint/sigpoint/IntIndex" "keys" "[I" (.ref ka)) ∧ (Fld Z h ob "com/example/sigpoint/sigpoint/IntIndex" "values" "[I" (.ref va)) ∧ (Fld Z h ob "com/example/sigpoint/sigpoint/IntIndex" "size" "I" (.int (if vf ((own_H xk + tt) % 16) = 0 then sz + (1 : Int32) else sz))) ∧ (own_Ai Z h ka .int 16 (own_up kf ((own_H xk + tt) % 16) xk)) ∧ (own_Ai Z h va .int 16 (own_up vf ((own_H xk + tt) % 16) (xv + (1 : Int32))))
set_option maxRecDepth 65536 in
set_option maxHeartbeats 40000000 in
theorem rm3 (l : Launch) (Z : State) (a0 : Array Value) (hw : ∀ d ∈ tables_1, d.before a0 Z = true) (ws : List Jvm.Cond) (ob : Addr) (xk : Int32) (xv : Int32) (ka : Addr) (va : Addr) (kf : Nat → Int32) (vf : Nat → Int32) (sz : Int32) (tt : Nat) (h0 : Heap) (n0 : Nat) (Z0 : n0 ≤ h0.size) (E1 : Exa Z h0 ob "com/example/sigpoint/sigpoint/IntIndex") (F1 : Fld Z h0 ob "com/example/sigpoint/sigpoint/IntIndex" "keys" "[I" (.ref ka)) (F2 : Fld Z h0 ob "com/example/sigpoint/sigpoint/IntIndex" "values" "[I" (.ref va)) (F3 : Fld Z h0 ob "com/example/sigpoint/sigpoint/IntIndex" "size" "I" (.int sz)) (A1 : own_Ai Z h0 ka .int 16 kf) (A2 : own_Ai Z h0 va .int 16 vf) (G1 : n0 ≤ ob) (G2 : n0 ≤ ka) (G3 : n0 ≤ va) (NE1 : ka ≠ va) (NE2 : ob ≠ ka) (NE3 : ob ≠ va) (HV : ¬ (xv < (0 : Int32))) (HS : 0 ≤ sz.toInt ∧ sz.toInt ≤ 6) (T1 : tt < 16) (PR : own_Pr kf vf xk tt) :
    MetFree l (⟨"com/example/sigpoint/sigpoint/IntIndex", "put", "(II)V"⟩ : MethodName) (head1 (Jvm.Cond.code (⟨"com/example/sigpoint/sigpoint/IntIndex", "put", "(II)V"⟩ : MethodName) prog_63_method_4_code 4 none :: ws) ({ frames := 1, cells := 0, slots := 0, locals := 20 } : Room)) (fun a U => a = #[(.ref ob), (.int xk), (.int xv)] ∧ Z.Warmed39 U.vm ∧ U.heap = h0) (fun _ _ _ _ _ => True) (fun _ U o U' => ∃ v L, o = .returned v ∧ Q3 Z ob xk xv ka va kf vf sz tt h0 n0 v U'.heap L ∧ FrameEnd U o U' L ({ frames := 1, cells := 0, slots := 0, locals := 20 } : Room).cells ({ frames := 1, cells := 0, slots := 0, locals := 20 } : Room).slots) := by
  refine MetFree.of_bodySF (plainFor_of_name pn_3) hisR ?_
  intro p e s m args below meth c s₁ Bd hml0 hP hK
  obtain ⟨rfl, hZ, hh⟩ := hP
  have hx := Bd.exec
  have hby := Bd.bytes
  have hlk : meth.locks = false := BodyLoose.notSynchronized Bd
  have hml : c.maxLocals = 4 := hml0
  have hown : s.vm.findClass "com/example/sigpoint/sigpoint/IntIndex" = some m.cls := findClass_of_methodNamed Bd.named
  have hnm := (name_of_methodNamed Bd.named Bd.method).1
  have X0 : Stand p l e ({ frames := 1, cells := 0, slots := 0, locals := 20 } : Room) s m #[(.ref ob), (.int xk), (.int xv)] below meth c s₁ [] 0 0 := Stand.of_body Bd
  have e0 : s₁.heap = h0 := by rw [← hh, Bd.state]; rfl
  have N0 := Fr.nil n0
  have K0 : Keep h0 h0 [ob, ka, va] := Keep.refl _ _
  show own_Go p e below (own_G s (Q3 Z ob xk xv ka va kf vf sz tt h0 n0) ({ frames := 1, cells := 0, slots := 0, locals := 20 } : Room).cells ({ frames := 1, cells := 0, slots := 0, locals := 20 } : Room).slots) (s₁.setTop (entryFrame m #[(.ref ob), (.int xk), (.int xv)] 4))
  refine own_st (fun tgt k => castTop (ef_3 m ob xk xv) k) ?_
  show own_Go p e below _ (s₁.setTop (mkF m 0 #[.val (.ref ob), .val (.int xk), .val (.int xv), .unset] []))
  refine own_st (V := s₁.setTop (mkF m 19 #[.val (.ref ob), .val (.int xk), .val (.int xv), .unset] [(.ref ob)])) (fun tgt k => ?_) ?_
  · show Steps p.tables e below (s₁.setTop (mkF m 0 #[.val (.ref ob), .val (.int xk), .val (.int xv), .unset] [])) tgt
    refine XS.iloadN X0.here hx rfl (hb hby d3_0) rfl ?_
    show Steps p.tables e below (s₁.setTop (mkF m 1 #[.val (.ref ob), .val (.int xk), .val (.int xv), .unset] [(.int xv)])) tgt
    refine XS.ifYes X0.here hx rfl (pc0 := 1) (pc' := 18) rfl (hb hby d3_1) rfl ((if0 _ _).trans (flt HV).2.1) (by decide) (by decide) ?_
    show Steps p.tables e below (s₁.setTop (mkF m 18 #[.val (.ref ob), .val (.int xk), .val (.int xv), .unset] [])) tgt
    refine XS.aloadN X0.here hx rfl (hb hby d3_18) rfl rfl ?_
    exact k
  obtain ⟨T1, X1, e1, st1⟩ := getF X0 hx hZ hown (host := "") (Or.inl (hw _ (List.mem_of_getElem? (i := 19) rfl))) Via.refl e0 F3 (g := (mkF m 19 #[.val (.ref ob), .val (.int xk), .val (.int xv), .unset] [(.ref ob)])) rfl rfl (hb hby d3_19)
  refine own_st st1 ?_
  show own_Go p e below _ (T1.setTop (mkF m 22 #[.val (.ref ob), .val (.int xk), .val (.int xv), .unset] [(.int sz)]))
  refine own_st (V := T1.setTop (mkF m 27 #[.val (.ref ob), .val (.int xk), .val (.int xv), .unset] [(.ref ob), (.int ((sz + (1 : Int32)) * (2 : Int32)))])) (fun tgt k => ?_) ?_
  · show Steps p.tables e below (T1.setTop (mkF m 22 #[.val (.ref ob), .val (.int xk), .val (.int xv), .unset] [(.int sz)])) tgt
    refine XS.iconst X1.here hx rfl (hb hby d3_22) ?_
    show Steps p.tables e below (T1.setTop (mkF m 23 #[.val (.ref ob), .val (.int xk), .val (.int xv), .unset] [(.int (1 : Int32)), (.int sz)])) tgt
    refine XS.iadd X1.here hx rfl (hb hby d3_23) rfl ?_
    show Steps p.tables e below (T1.setTop (mkF m 24 #[.val (.ref ob), .val (.int xk), .val (.int xv), .unset] [(.int (sz + (1 : Int32)))])) tgt
    refine XS.iconst X1.here hx rfl (hb hby d3_24) ?_
    show Steps p.tables e below (T1.setTop (mkF m 25 #[.val (.ref ob), .val (.int xk), .val (.int xv), .unset] [(.int (2 : Int32)), (.int (sz + (1 : Int32)))])) tgt
    refine XS.imul X1.here hx rfl (hb hby d3_25) rfl ?_
    show Steps p.tables e below (T1.setTop (mkF m 26 #[.val (.ref ob), .val (.int xk), .val (.int xv), .unset] [(.int ((sz + (1 : Int32)) * (2 : Int32)))])) tgt
    refine XS.aloadN X1.here hx rfl (hb hby d3_26) rfl rfl ?_
    exact k
  obtain ⟨T2, X2, e2, st2⟩ := getF X1 hx hZ hown (host := "") (Or.inl (hw _ (List.mem_of_getElem? (i := 10) rfl))) Via.refl e1 F1 (g := (mkF m 27 #[.val (.ref ob), .val (.int xk), .val (.int xv), .unset] [(.ref ob), (.int ((sz + (1 : Int32)) * (2 : Int32)))])) rfl rfl (hb hby d3_27)
  refine own_st st2 ?_
  show own_Go p e below _ (T2.setTop (mkF m 30 #[.val (.ref ob), .val (.int xk), .val (.int xv), .unset] [(.ref ka), (.int ((sz + (1 : Int32)) * (2 : Int32)))]))
  refine own_st (V := T2.setTop (mkF m 40 #[.val (.ref ob), .val (.int xk), .val (.int xv), .unset] [(.int xk), (.ref ob)])) (fun tgt k => ?_) ?_
  · show Steps p.tables e below (T2.setTop (mkF m 30 #[.val (.ref ob), .val (.int xk), .val (.int xv), .unset] [(.ref ka), (.int ((sz + (1 : Int32)) * (2 : Int32)))])) tgt
    refine own_alen X2 hx hZ e2 A1 (z := (16 : Int32)) rfl (g := (mkF m 30 #[.val (.ref ob), .val (.int xk), .val (.int xv), .unset] [(.ref ka), (.int ((sz + (1 : Int32)) * (2 : Int32)))])) rfl rfl (hb hby d3_30) ?_
    show Steps p.tables e below (T2.setTop (mkF m 31 #[.val (.ref ob), .val (.int xk), .val (.int xv), .unset] [(.int (16 : Int32)), (.int ((sz + (1 : Int32)) * (2 : Int32)))])) tgt
    refine XS.icmpYes X2.here hx rfl (pc0 := 31) (pc' := 38) rfl (hb hby d3_31) rfl (flt (own_szok HS)).2.2.2 (by decide) (by decide) ?_
    show Steps p.tables e below (T2.setTop (mkF m 38 #[.val (.ref ob), .val (.int xk), .val (.int xv), .unset] [])) tgt
    refine XS.aloadN X2.here hx rfl (hb hby d3_38) rfl rfl ?_
    show Steps p.tables e below (T2.setTop (mkF m 39 #[.val (.ref ob), .val (.int xk), .val (.int xv), .unset] [(.ref ob)])) tgt
    refine XS.iloadN X2.here hx rfl (hb hby d3_39) rfl ?_
    exact k
  obtain ⟨cq3, q3, q3'⟩ := E1.cell
  obtain ⟨v3, _, ⟨T3, L3, k3, n3⟩, -, Xc3, ⟨Lc3, hQ3, l3, y3, z3⟩, st3⟩ := X2.privateBack hx (y := (⟨"com/example/sigpoint/sigpoint/IntIndex", "home", "(I)I"⟩ : MethodName)) hown (mvT hZ (hw _ (List.mem_of_getElem? (i := 21) rfl))) (mvT hZ (hw _ (List.mem_of_getElem? (i := 22) rfl))) (own_selp (y := (⟨"com/example/sigpoint/sigpoint/IntIndex", "home", "(I)I"⟩ : MethodName)) hZ (hw _ (List.mem_of_getElem? (i := 1) rfl)) (hw _ (List.mem_of_getElem? (i := 23) rfl)) (hw _ (List.mem_of_getElem? (i := 22) rfl)) (by decide)) (Cond.privateMethod_at (mvP hZ (hw _ (List.mem_of_getElem? (i := 23) rfl)) (args := #[]))) (mvT hZ (hw _ (List.mem_of_getElem? (i := 24) rfl))) (by decide) (backOf (W := 0) (rm4 l Z a0 hw [] ob xk ka kf h0 n0 Z0 F1 A1) hZ (hw _ (List.mem_of_getElem? (i := 24) rfl)) (hw _ (List.mem_of_getElem? (i := 2) rfl)) (by decide) (by decide)) (g := (mkF m 40 #[.val (.ref ob), .val (.int xk), .val (.int xv), .unset] [(.int xk), (.ref ob)])) rfl (by rw [hml]; rfl) (Steps.refl _) (a := ob) (by rw [e2]; exact q3) q3' (argsL := [(.int xk)]) (rest := []) (lenOf pd_3_0 rfl) rfl (by show 2 * 0 + _ ≤ _; exact Nat.le_of_eq rfl) (hb hby d3_40) (fun _ _ => ⟨rfl, e2, (by decide : 0 + 0 ≤ _), (by decide : 0 + 0 ≤ _)⟩)
  dsimp only [Pt.U, Pt.locs, Pt.cells, Pt.slots] at Xc3 l3 y3 z3 st3 hQ3
  have X3 := own_cast Xc3 l3 y3 z3
  obtain ⟨ev3, N3q, K3⟩ := hQ3
  rw [ev3] at st3
  have N3 := Fr.app N0 N3q
  refine own_st (fun tgt k => st3.trans k) ?_
  show own_Go p e below _ (T3.setTop (mkF m 43 #[.val (.ref ob), .val (.int xk), .val (.int xv), .unset] [(.int (own_hx xk))]))
  refine own_st (V := T3.setTop (mkF m 44 #[.val (.ref ob), .val (.int xk), .val (.int xv), .val (.int (own_hx xk))] [])) (fun tgt k => ?_) ?_
  · show Steps p.tables e below (T3.setTop (mkF m 43 #[.val (.ref ob), .val (.int xk), .val (.int xv), .unset] [(.int (own_hx xk))])) tgt
    refine XS.istoreN X3.here hx rfl (hb hby d3_43) rfl (l' := #[.val (.ref ob), .val (.int xk), .val (.int xv), .val (.int (own_hx xk))]) rfl ?_
    exact k
  have loop : ∀ (n i : Nat) (T : State) (locs : List Loc) (cs ss : Nat) (sv : Int32), i + n = tt → cs = 0 → ss = 0 → Stand p l e ({ frames := 1, cells := 0, slots := 0, locals := 20 } : Room) s m #[(.ref ob), (.int xk), (.int xv)] below meth c T locs cs ss → T.heap = h0 → Fr n0 locs → sv.toInt = (((own_H xk + i) % 16 : Nat) : Int) → own_Go p e below (own_G s (Q3 Z ob xk xv ka va kf vf sz tt h0 n0) ({ frames := 1, cells := 0, slots := 0, locals := 20 } : Room).cells ({ frames := 1, cells := 0, slots := 0, locals := 20 } : Room).slots) (T.setTop (mkF m 44 #[.val (.ref ob), .val (.int xk), .val (.int xv), .val (.int sv)] [])) := by
    intro n
    induction n with
    | zero =>
      intro i T1 locs1 cs ss sv hi hcs hss X1 e1 N1 hsv
      have hi' : tt = i := by omega
      subst hi'
      refine own_st (V := T1.setTop (mkF m 45 #[.val (.ref ob), .val (.int xk), .val (.int xv), .val (.int sv)] [(.ref ob)])) (fun tgt k => ?_) ?_
      · show Steps p.tables e below (T1.setTop (mkF m 44 #[.val (.ref ob), .val (.int xk), .val (.int xv), .val (.int sv)] [])) tgt
        refine XS.aloadN X1.here hx rfl (hb hby d3_44) rfl rfl ?_
        exact k
      obtain ⟨T4, X4, e4, st4⟩ := getF X1 hx hZ hown (host := "") (Or.inl (hw _ (List.mem_of_getElem? (i := 12) rfl))) Via.refl e1 F2 (g := (mkF m 45 #[.val (.ref ob), .val (.int xk), .val (.int xv), .val (.int sv)] [(.ref ob)])) rfl rfl (hb hby d3_45)
      refine own_st st4 ?_
      show own_Go p e below _ (T4.setTop (mkF m 48 #[.val (.ref ob), .val (.int xk), .val (.int xv), .val (.int sv)] [(.ref va)]))
      refine own_st (V := T4.setTop (mkF m 50 #[.val (.ref ob), .val (.int xk), .val (.int xv), .val (.int sv)] [(.int (vf ((own_H xk + tt) % 16)))])) (fun tgt k => ?_) ?_
      · show Steps p.tables e below (T4.setTop (mkF m 48 #[.val (.ref ob), .val (.int xk), .val (.int xv), .val (.int sv)] [(.ref va)])) tgt
        refine XS.iloadN X4.here hx rfl (hb hby d3_48) rfl ?_
        show Steps p.tables e below (T4.setTop (mkF m 49 #[.val (.ref ob), .val (.int xk), .val (.int xv), .val (.int sv)] [(.int sv), (.ref va)])) tgt
        refine own_iaload X4 hx hZ e4 A2 (j := sv) (k := ((own_H xk + tt) % 16)) hsv (Nat.mod_lt _ (by decide)) (g := (mkF m 49 #[.val (.ref ob), .val (.int xk), .val (.int xv), .val (.int sv)] [(.int sv), (.ref va)])) rfl rfl (hb hby d3_49) ?_
        exact k
      by_cases hc50 : (vf ((own_H xk + tt) % 16)) = (0 : Int32)
      · skip
        refine own_st (V := T4.setTop (mkF m 73 #[.val (.ref ob), .val (.int xk), .val (.int xv), .val (.int sv)] [(.ref ob)])) (fun tgt k => ?_) ?_
        · show Steps p.tables e below (T4.setTop (mkF m 50 #[.val (.ref ob), .val (.int xk), .val (.int xv), .val (.int sv)] [(.int (vf ((own_H xk + tt) % 16)))])) tgt
          refine XS.ifYes X4.here hx rfl (pc0 := 50) (pc' := 72) rfl (hb hby d3_50) rfl ((if0 _ _).trans (teq hc50).1) (by decide) (by decide) ?_
          show Steps p.tables e below (T4.setTop (mkF m 72 #[.val (.ref ob), .val (.int xk), .val (.int xv), .val (.int sv)] [])) tgt
          refine XS.aloadN X4.here hx rfl (hb hby d3_72) rfl rfl ?_
          exact k
        obtain ⟨T5, X5, e5, st5⟩ := getF X4 hx hZ hown (host := "") (Or.inl (hw _ (List.mem_of_getElem? (i := 12) rfl))) Via.refl e4 F2 (g := (mkF m 73 #[.val (.ref ob), .val (.int xk), .val (.int xv), .val (.int sv)] [(.ref ob)])) rfl rfl (hb hby d3_73)
        refine own_st st5 ?_
        show own_Go p e below _ (T5.setTop (mkF m 76 #[.val (.ref ob), .val (.int xk), .val (.int xv), .val (.int sv)] [(.ref va)]))
        refine own_st (V := T5.setTop (mkF m 83 #[.val (.ref ob), .val (.int xk), .val (.int xv), .val (.int sv)] [(.ref ob), (.ref ob)])) (fun tgt k => ?_) ?_
        · show Steps p.tables e below (T5.setTop (mkF m 76 #[.val (.ref ob), .val (.int xk), .val (.int xv), .val (.int sv)] [(.ref va)])) tgt
          refine XS.iloadN X5.here hx rfl (hb hby d3_76) rfl ?_
          show Steps p.tables e below (T5.setTop (mkF m 77 #[.val (.ref ob), .val (.int xk), .val (.int xv), .val (.int sv)] [(.int sv), (.ref va)])) tgt
          refine own_iaload X5 hx hZ e5 A2 (j := sv) (k := ((own_H xk + tt) % 16)) hsv (Nat.mod_lt _ (by decide)) (g := (mkF m 77 #[.val (.ref ob), .val (.int xk), .val (.int xv), .val (.int sv)] [(.int sv), (.ref va)])) rfl rfl (hb hby d3_77) ?_
          show Steps p.tables e below (T5.setTop (mkF m 78 #[.val (.ref ob), .val (.int xk), .val (.int xv), .val (.int sv)] [(.int (vf ((own_H xk + tt) % 16)))])) tgt
          refine XS.ifNo X5.here hx rfl (hb hby d3_78) rfl ((if0 _ _).trans (teq hc50).2) ?_
          show Steps p.tables e below (T5.setTop (mkF m 81 #[.val (.ref ob), .val (.int xk), .val (.int xv), .val (.int sv)] [])) tgt
          refine XS.aloadN X5.here hx rfl (hb hby d3_81) rfl rfl ?_
          show Steps p.tables e below (T5.setTop (mkF m 82 #[.val (.ref ob), .val (.int xk), .val (.int xv), .val (.int sv)] [(.ref ob)])) tgt
          refine XS.dup X5.here hx rfl (hb hby d3_82) rfl rfl ?_
          exact k
        obtain ⟨T6, X6, e6, st6⟩ := getF X5 hx hZ hown (host := "") (Or.inl (hw _ (List.mem_of_getElem? (i := 19) rfl))) Via.refl e5 F3 (g := (mkF m 83 #[.val (.ref ob), .val (.int xk), .val (.int xv), .val (.int sv)] [(.ref ob), (.ref ob)])) rfl rfl (hb hby d3_83)
        refine own_st st6 ?_
        show own_Go p e below _ (T6.setTop (mkF m 86 #[.val (.ref ob), .val (.int xk), .val (.int xv), .val (.int sv)] [(.int sz), (.ref ob)]))
        refine own_st (V := T6.setTop (mkF m 88 #[.val (.ref ob), .val (.int xk), .val (.int xv), .val (.int sv)] [(.int (sz + (1 : Int32))), (.ref ob)])) (fun tgt k => ?_) ?_
        · show Steps p.tables e below (T6.setTop (mkF m 86 #[.val (.ref ob), .val (.int xk), .val (.int xv), .val (.int sv)] [(.int sz), (.ref ob)])) tgt
          refine XS.iconst X6.here hx rfl (hb hby d3_86) ?_
          show Steps p.tables e below (T6.setTop (mkF m 87 #[.val (.ref ob), .val (.int xk), .val (.int xv), .val (.int sv)] [(.int (1 : Int32)), (.int sz), (.ref ob)])) tgt
          refine XS.iadd X6.here hx rfl (hb hby d3_87) rfl ?_
          exact k
        obtain ⟨T7, h7, X7, e7, W7, st7⟩ := putF X6 hx hZ hown (host := "") (Or.inl (hw _ (List.mem_of_getElem? (i := 19) rfl))) Via.refl e6 F3 E1 (Or.inl (hw _ (List.mem_of_getElem? (i := 20) rfl))) (hw _ (List.mem_of_getElem? (i := 1) rfl)) (ty := .int) (by decide) rfl rfl (g := (mkF m 88 #[.val (.ref ob), .val (.int xk), .val (.int xv), .val (.int sv)] [(.int (sz + (1 : Int32))), (.ref ob)])) rfl rfl (hb hby d3_88)
        have E_ob_7 := E1.wr W7
        have F_ob_keys_7 := Fld.other W7 F1 (Or.inr (slot_ne (Or.inl (hw _ (List.mem_of_getElem? (i := 11) rfl))) (Or.inl (hw _ (List.mem_of_getElem? (i := 20) rfl))) (by decide) (t := (.array .int)) (t' := .int) (by decide) (by decide)))
        have F_ob_values_7 := Fld.other W7 F2 (Or.inr (slot_ne (Or.inl (hw _ (List.mem_of_getElem? (i := 13) rfl))) (Or.inl (hw _ (List.mem_of_getElem? (i := 20) rfl))) (by decide) (t := (.array .int)) (t' := .int) (by decide) (by decide)))
        have A_ka_7 := A1.other W7 (Ne.symm NE2)
        have A_va_7 := A2.other W7 (Ne.symm NE3)
        have F_ob_size_7 := Fld.same W7 F3
        have N7 := Fr.snoc X7 N1 G1
        have Zs7 : n0 ≤ h7.size := Nat.le_trans Z0 (Keep.of_wr W7).1
        have Kp7 := K0.wr W7 (Or.inl (List.mem_of_getElem? (i := 0) rfl))
        refine own_st st7 ?_
        show own_Go p e below _ (T7.setTop (mkF m 91 #[.val (.ref ob), .val (.int xk), .val (.int xv), .val (.int sv)] []))
        refine own_st (V := T7.setTop (mkF m 92 #[.val (.ref ob), .val (.int xk), .val (.int xv), .val (.int sv)] [(.ref ob)])) (fun tgt k => ?_) ?_
        · show Steps p.tables e below (T7.setTop (mkF m 91 #[.val (.ref ob), .val (.int xk), .val (.int xv), .val (.int sv)] [])) tgt
          refine XS.aloadN X7.here hx rfl (hb hby d3_91) rfl rfl ?_
          exact k
        obtain ⟨T8, X8, e8, st8⟩ := getF X7 hx hZ hown (host := "") (Or.inl (hw _ (List.mem_of_getElem? (i := 10) rfl))) Via.refl e7 F_ob_keys_7 (g := (mkF m 92 #[.val (.ref ob), .val (.int xk), .val (.int xv), .val (.int sv)] [(.ref ob)])) rfl rfl (hb hby d3_92)
        refine own_st st8 ?_
        show own_Go p e below _ (T8.setTop (mkF m 95 #[.val (.ref ob), .val (.int xk), .val (.int xv), .val (.int sv)] [(.ref ka)]))
        refine own_st (V := T8.setTop (mkF m 97 #[.val (.ref ob), .val (.int xk), .val (.int xv), .val (.int sv)] [(.int xk), (.int sv), (.ref ka)])) (fun tgt k => ?_) ?_
        · show Steps p.tables e below (T8.setTop (mkF m 95 #[.val (.ref ob), .val (.int xk), .val (.int xv), .val (.int sv)] [(.ref ka)])) tgt
          refine XS.iloadN X8.here hx rfl (hb hby d3_95) rfl ?_
          show Steps p.tables e below (T8.setTop (mkF m 96 #[.val (.ref ob), .val (.int xk), .val (.int xv), .val (.int sv)] [(.int sv), (.ref ka)])) tgt
          refine XS.iloadN X8.here hx rfl (hb hby d3_96) rfl ?_
          exact k
        obtain ⟨T9, h9, X9, e9, W9, A_ka_9, st9⟩ := own_iastore X8 hx hZ e8 A_ka_7 (j := sv) (k := ((own_H xk + tt) % 16)) hsv (Nat.mod_lt _ (by decide)) (g := (mkF m 97 #[.val (.ref ob), .val (.int xk), .val (.int xv), .val (.int sv)] [(.int xk), (.int sv), (.ref ka)])) rfl rfl (hb hby d3_97)
        have E_ob_9 := E_ob_7.wr W9
        have F_ob_keys_9 := Fld.other W9 F_ob_keys_7 (Or.inl NE2)
        have F_ob_values_9 := Fld.other W9 F_ob_values_7 (Or.inl NE2)
        have F_ob_size_9 := Fld.other W9 F_ob_size_7 (Or.inl NE2)
        have A_va_9 := A_va_7.other W9 (Ne.symm NE1)
        have N9 := Fr.snoc X9 N7 G2
        have Zs9 : n0 ≤ h9.size := Nat.le_trans Zs7 (Keep.of_wr W9).1
        have Kp9 := Kp7.wr W9 (Or.inl (List.mem_of_getElem? (i := 1) rfl))
        refine own_st st9 ?_
        show own_Go p e below _ (T9.setTop (mkF m 98 #[.val (.ref ob), .val (.int xk), .val (.int xv), .val (.int sv)] []))
        refine own_st (V := T9.setTop (mkF m 99 #[.val (.ref ob), .val (.int xk), .val (.int xv), .val (.int sv)] [(.ref ob)])) (fun tgt k => ?_) ?_
        · show Steps p.tables e below (T9.setTop (mkF m 98 #[.val (.ref ob), .val (.int xk), .val (.int xv), .val (.int sv)] [])) tgt
          refine XS.aloadN X9.here hx rfl (hb hby d3_98) rfl rfl ?_
          exact k
        obtain ⟨T10, X10, e10, st10⟩ := getF X9 hx hZ hown (host := "") (Or.inl (hw _ (List.mem_of_getElem? (i := 12) rfl))) Via.refl e9 F_ob_values_9 (g := (mkF m 99 #[.val (.ref ob), .val (.int xk), .val (.int xv), .val (.int sv)] [(.ref ob)])) rfl rfl (hb hby d3_99)
        refine own_st st10 ?_
        show own_Go p e below _ (T10.setTop (mkF m 102 #[.val (.ref ob), .val (.int xk), .val (.int xv), .val (.int sv)] [(.ref va)]))
        refine own_st (V := T10.setTop (mkF m 106 #[.val (.ref ob), .val (.int xk), .val (.int xv), .val (.int sv)] [(.int (xv + (1 : Int32))), (.int sv), (.ref va)])) (fun tgt k => ?_) ?_
        · show Steps p.tables e below (T10.setTop (mkF m 102 #[.val (.ref ob), .val (.int xk), .val (.int xv), .val (.int sv)] [(.ref va)])) tgt
          refine XS.iloadN X10.here hx rfl (hb hby d3_102) rfl ?_
          show Steps p.tables e below (T10.setTop (mkF m 103 #[.val (.ref ob), .val (.int xk), .val (.int xv), .val (.int sv)] [(.int sv), (.ref va)])) tgt
          refine XS.iloadN X10.here hx rfl (hb hby d3_103) rfl ?_
          show Steps p.tables e below (T10.setTop (mkF m 104 #[.val (.ref ob), .val (.int xk), .val (.int xv), .val (.int sv)] [(.int xv), (.int sv), (.ref va)])) tgt
          refine XS.iconst X10.here hx rfl (hb hby d3_104) ?_
          show Steps p.tables e below (T10.setTop (mkF m 105 #[.val (.ref ob), .val (.int xk), .val (.int xv), .val (.int sv)] [(.int (1 : Int32)), (.int xv), (.int sv), (.ref va)])) tgt
          refine XS.iadd X10.here hx rfl (hb hby d3_105) rfl ?_
          exact k
        obtain ⟨T11, h11, X11, e11, W11, A_va_11, st11⟩ := own_iastore X10 hx hZ e10 A_va_9 (j := sv) (k := ((own_H xk + tt) % 16)) hsv (Nat.mod_lt _ (by decide)) (g := (mkF m 106 #[.val (.ref ob), .val (.int xk), .val (.int xv), .val (.int sv)] [(.int (xv + (1 : Int32))), (.int sv), (.ref va)])) rfl rfl (hb hby d3_106)
        have E_ob_11 := E_ob_9.wr W11
        have F_ob_keys_11 := Fld.other W11 F_ob_keys_9 (Or.inl NE3)
        have F_ob_values_11 := Fld.other W11 F_ob_values_9 (Or.inl NE3)
        have F_ob_size_11 := Fld.other W11 F_ob_size_9 (Or.inl NE3)
        have A_ka_11 := A_ka_9.other W11 NE1
        have N11 := Fr.snoc X11 N9 G3
        have Zs11 : n0 ≤ h11.size := Nat.le_trans Zs9 (Keep.of_wr W11).1
        have Kp11 := Kp9.wr W11 (Or.inl (List.mem_of_getElem? (i := 2) rfl))
        refine own_st st11 ?_
        show own_Go p e below _ (T11.setTop (mkF m 107 #[.val (.ref ob), .val (.int xk), .val (.int xv), .val (.int sv)] []))
        refine own_ret0 X11 hx hlk Bd.returns (hb hby d3_107) ?_ (own_z0 (by omega : cs = 0)) (own_z0 (by omega : ss = 0))
        show Q3 Z ob xk xv ka va kf vf sz tt h0 n0 none T11.heap _
        rw [e11]
        exact ⟨rfl, N11, Kp11, E_ob_11, F_ob_keys_11, F_ob_values_11, (by rw [if_pos hc50]; exact F_ob_size_11), A_ka_11, A_va_11⟩
      · skip
        refine own_st (V := T4.setTop (mkF m 54 #[.val (.ref ob), .val (.int xk), .val (.int xv), .val (.int sv)] [(.ref ob)])) (fun tgt k => ?_) ?_
        · show Steps p.tables e below (T4.setTop (mkF m 50 #[.val (.ref ob), .val (.int xk), .val (.int xv), .val (.int sv)] [(.int (vf ((own_H xk + tt) % 16)))])) tgt
          refine XS.ifNo X4.here hx rfl (hb hby d3_50) rfl ((if0 _ _).trans (feq hc50).1) ?_
          show Steps p.tables e below (T4.setTop (mkF m 53 #[.val (.ref ob), .val (.int xk), .val (.int xv), .val (.int sv)] [])) tgt
          refine XS.aloadN X4.here hx rfl (hb hby d3_53) rfl rfl ?_
          exact k
        obtain ⟨T13, X13, e13, st13⟩ := getF X4 hx hZ hown (host := "") (Or.inl (hw _ (List.mem_of_getElem? (i := 10) rfl))) Via.refl e4 F1 (g := (mkF m 54 #[.val (.ref ob), .val (.int xk), .val (.int xv), .val (.int sv)] [(.ref ob)])) rfl rfl (hb hby d3_54)
        refine own_st st13 ?_
        show own_Go p e below _ (T13.setTop (mkF m 57 #[.val (.ref ob), .val (.int xk), .val (.int xv), .val (.int sv)] [(.ref ka)]))
        refine own_st (V := T13.setTop (mkF m 73 #[.val (.ref ob), .val (.int xk), .val (.int xv), .val (.int sv)] [(.ref ob)])) (fun tgt k => ?_) ?_
        · show Steps p.tables e below (T13.setTop (mkF m 57 #[.val (.ref ob), .val (.int xk), .val (.int xv), .val (.int sv)] [(.ref ka)])) tgt
          refine XS.iloadN X13.here hx rfl (hb hby d3_57) rfl ?_
          show Steps p.tables e below (T13.setTop (mkF m 58 #[.val (.ref ob), .val (.int xk), .val (.int xv), .val (.int sv)] [(.int sv), (.ref ka)])) tgt
          refine own_iaload X13 hx hZ e13 A1 (j := sv) (k := ((own_H xk + tt) % 16)) hsv (Nat.mod_lt _ (by decide)) (g := (mkF m 58 #[.val (.ref ob), .val (.int xk), .val (.int xv), .val (.int sv)] [(.int sv), (.ref ka)])) rfl rfl (hb hby d3_58) ?_
          show Steps p.tables e below (T13.setTop (mkF m 59 #[.val (.ref ob), .val (.int xk), .val (.int xv), .val (.int sv)] [(.int (kf ((own_H xk + tt) % 16)))])) tgt
          refine XS.iloadN X13.here hx rfl (hb hby d3_59) rfl ?_
          show Steps p.tables e below (T13.setTop (mkF m 60 #[.val (.ref ob), .val (.int xk), .val (.int xv), .val (.int sv)] [(.int xk), (.int (kf ((own_H xk + tt) % 16)))])) tgt
          refine XS.icmpYes X13.here hx rfl (pc0 := 60) (pc' := 72) rfl (hb hby d3_60) rfl (teq (PR.2.resolve_left hc50)).1 (by decide) (by decide) ?_
          show Steps p.tables e below (T13.setTop (mkF m 72 #[.val (.ref ob), .val (.int xk), .val (.int xv), .val (.int sv)] [])) tgt
          refine XS.aloadN X13.here hx rfl (hb hby d3_72) rfl rfl ?_
          exact k
        obtain ⟨T14, X14, e14, st14⟩ := getF X13 hx hZ hown (host := "") (Or.inl (hw _ (List.mem_of_getElem? (i := 12) rfl))) Via.refl e13 F2 (g := (mkF m 73 #[.val (.ref ob), .val (.int xk), .val (.int xv), .val (.int sv)] [(.ref ob)])) rfl rfl (hb hby d3_73)
        refine own_st st14 ?_
        show own_Go p e below _ (T14.setTop (mkF m 76 #[.val (.ref ob), .val (.int xk), .val (.int xv), .val (.int sv)] [(.ref va)]))
        refine own_st (V := T14.setTop (mkF m 92 #[.val (.ref ob), .val (.int xk), .val (.int xv), .val (.int sv)] [(.ref ob)])) (fun tgt k => ?_) ?_
        · show Steps p.tables e below (T14.setTop (mkF m 76 #[.val (.ref ob), .val (.int xk), .val (.int xv), .val (.int sv)] [(.ref va)])) tgt
          refine XS.iloadN X14.here hx rfl (hb hby d3_76) rfl ?_
          show Steps p.tables e below (T14.setTop (mkF m 77 #[.val (.ref ob), .val (.int xk), .val (.int xv), .val (.int sv)] [(.int sv), (.ref va)])) tgt
          refine own_iaload X14 hx hZ e14 A2 (j := sv) (k := ((own_H xk + tt) % 16)) hsv (Nat.mod_lt _ (by decide)) (g := (mkF m 77 #[.val (.ref ob), .val (.int xk), .val (.int xv), .val (.int sv)] [(.int sv), (.ref va)])) rfl rfl (hb hby d3_77) ?_
          show Steps p.tables e below (T14.setTop (mkF m 78 #[.val (.ref ob), .val (.int xk), .val (.int xv), .val (.int sv)] [(.int (vf ((own_H xk + tt) % 16)))])) tgt
          refine XS.ifYes X14.here hx rfl (pc0 := 78) (pc' := 91) rfl (hb hby d3_78) rfl ((if0 _ _).trans (feq hc50).2) (by decide) (by decide) ?_
          show Steps p.tables e below (T14.setTop (mkF m 91 #[.val (.ref ob), .val (.int xk), .val (.int xv), .val (.int sv)] [])) tgt
          refine XS.aloadN X14.here hx rfl (hb hby d3_91) rfl rfl ?_
          exact k
        obtain ⟨T15, X15, e15, st15⟩ := getF X14 hx hZ hown (host := "") (Or.inl (hw _ (List.mem_of_getElem? (i := 10) rfl))) Via.refl e14 F1 (g := (mkF m 92 #[.val (.ref ob), .val (.int xk), .val (.int xv), .val (.int sv)] [(.ref ob)])) rfl rfl (hb hby d3_92)
        refine own_st st15 ?_
        show own_Go p e below _ (T15.setTop (mkF m 95 #[.val (.ref ob), .val (.int xk), .val (.int xv), .val (.int sv)] [(.ref ka)]))
        refine own_st (V := T15.setTop (mkF m 97 #[.val (.ref ob), .val (.int xk), .val (.int xv), .val (.int sv)] [(.int xk), (.int sv), (.ref ka)])) (fun tgt k => ?_) ?_
        · show Steps p.tables e below (T15.setTop (mkF m 95 #[.val (.ref ob), .val (.int xk), .val (.int xv), .val (.int sv)] [(.ref ka)])) tgt
          refine XS.iloadN X15.here hx rfl (hb hby d3_95) rfl ?_
          show Steps p.tables e below (T15.setTop (mkF m 96 #[.val (.ref ob), .val (.int xk), .val (.int xv), .val (.int sv)] [(.int sv), (.ref ka)])) tgt
          refine XS.iloadN X15.here hx rfl (hb hby d3_96) rfl ?_
          exact k
        obtain ⟨T16, h16, X16, e16, W16, A_ka_16, st16⟩ := own_iastore X15 hx hZ e15 A1 (j := sv) (k := ((own_H xk + tt) % 16)) hsv (Nat.mod_lt _ (by decide)) (g := (mkF m 97 #[.val (.ref ob), .val (.int xk), .val (.int xv), .val (.int sv)] [(.int xk), (.int sv), (.ref ka)])) rfl rfl (hb hby d3_97)
        have E_ob_16 := E1.wr W16
        have F_ob_keys_16 := Fld.other W16 F1 (Or.inl NE2)
        have F_ob_values_16 := Fld.other W16 F2 (Or.inl NE2)
        have F_ob_size_16 := Fld.other W16 F3 (Or.inl NE2)
        have A_va_16 := A2.other W16 (Ne.symm NE1)
        have N16 := Fr.snoc X16 N1 G2
        have Zs16 : n0 ≤ h16.size := Nat.le_trans Z0 (Keep.of_wr W16).1
        have Kp16 := K0.wr W16 (Or.inl (List.mem_of_getElem? (i := 1) rfl))
        refine own_st st16 ?_
        show own_Go p e below _ (T16.setTop (mkF m 98 #[.val (.ref ob), .val (.int xk), .val (.int xv), .val (.int sv)] []))
        refine own_st (V := T16.setTop (mkF m 99 #[.val (.ref ob), .val (.int xk), .val (.int xv), .val (.int sv)] [(.ref ob)])) (fun tgt k => ?_) ?_
        · show Steps p.tables e below (T16.setTop (mkF m 98 #[.val (.ref ob), .val (.int xk), .val (.int xv), .val (.int sv)] [])) tgt
          refine XS.aloadN X16.here hx rfl (hb hby d3_98) rfl rfl ?_
          exact k
        obtain ⟨T17, X17, e17, st17⟩ := getF X16 hx hZ hown (host := "") (Or.inl (hw _ (List.mem_of_getElem? (i := 12) rfl))) Via.refl e16 F_ob_values_16 (g := (mkF m 99 #[.val (.ref ob), .val (.int xk), .val (.int xv), .val (.int sv)] [(.ref ob)])) rfl rfl (hb hby d3_99)
        refine own_st st17 ?_
        show own_Go p e below _ (T17.setTop (mkF m 102 #[.val (.ref ob), .val (.int xk), .val (.int xv), .val (.int sv)] [(.ref va)]))
        refine own_st (V := T17.setTop (mkF m 106 #[.val (.ref ob), .val (.int xk), .val (.int xv), .val (.int sv)] [(.int (xv + (1 : Int32))), (.int sv), (.ref va)])) (fun tgt k => ?_) ?_
        · show Steps p.tables e below (T17.setTop (mkF m 102 #[.val (.ref ob), .val (.int xk), .val (.int xv), .val (.int sv)] [(.ref va)])) tgt
          refine XS.iloadN X17.here hx rfl (hb hby d3_102) rfl ?_
          show Steps p.tables e below (T17.setTop (mkF m 103 #[.val (.ref ob), .val (.int xk), .val (.int xv), .val (.int sv)] [(.int sv), (.ref va)])) tgt
          refine XS.iloadN X17.here hx rfl (hb hby d3_103) rfl ?_
          show Steps p.tables e below (T17.setTop (mkF m 104 #[.val (.ref ob), .val (.int xk), .val (.int xv), .val (.int sv)] [(.int xv), (.int sv), (.ref va)])) tgt
          refine XS.iconst X17.here hx rfl (hb hby d3_104) ?_
          show Steps p.tables e below (T17.setTop (mkF m 105 #[.val (.ref ob), .val (.int xk), .val (.int xv), .val (.int sv)] [(.int (1 : Int32)), (.int xv), (.int sv), (.ref va)])) tgt
          refine XS.iadd X17.here hx rfl (hb hby d3_105) rfl ?_
          exact k
        obtain ⟨T18, h18, X18, e18, W18, A_va_18, st18⟩ := own_iastore X17 hx hZ e17 A_va_16 (j := sv) (k := ((own_H xk + tt) % 16)) hsv (Nat.mod_lt _ (by decide)) (g := (mkF m 106 #[.val (.ref ob), .val (.int xk), .val (.int xv), .val (.int sv)] [(.int (xv + (1 : Int32))), (.int sv), (.ref va)])) rfl rfl (hb hby d3_106)
        have E_ob_18 := E_ob_16.wr W18
        have F_ob_keys_18 := Fld.other W18 F_ob_keys_16 (Or.inl NE3)
        have F_ob_values_18 := Fld.other W18 F_ob_values_16 (Or.inl NE3)
        have F_ob_size_18 := Fld.other W18 F_ob_size_16 (Or.inl NE3)
        have A_ka_18 := A_ka_16.other W18 NE1
        have N18 := Fr.snoc X18 N16 G3
        have Zs18 : n0 ≤ h18.size := Nat.le_trans Zs16 (Keep.of_wr W18).1
        have Kp18 := Kp16.wr W18 (Or.inl (List.mem_of_getElem? (i := 2) rfl))
        refine own_st st18 ?_
        show own_Go p e below _ (T18.setTop (mkF m 107 #[.val (.ref ob), .val (.int xk), .val (.int xv), .val (.int sv)] []))
        refine own_ret0 X18 hx hlk Bd.returns (hb hby d3_107) ?_ (own_z0 (by omega : cs = 0)) (own_z0 (by omega : ss = 0))
        show Q3 Z ob xk xv ka va kf vf sz tt h0 n0 none T18.heap _
        rw [e18]
        exact ⟨rfl, N18, Kp18, E_ob_18, F_ob_keys_18, F_ob_values_18, (by rw [if_neg hc50]; exact F_ob_size_18), A_ka_18, A_va_18⟩
    | succ n ih =>
      intro i T1 locs1 cs ss sv hi hcs hss X1 e1 N1 hsv
      have q := PR.1 i (by omega)
      refine own_st (V := T1.setTop (mkF m 45 #[.val (.ref ob), .val (.int xk), .val (.int xv), .val (.int sv)] [(.ref ob)])) (fun tgt k => ?_) ?_
      · show Steps p.tables e below (T1.setTop (mkF m 44 #[.val (.ref ob), .val (.int xk), .val (.int xv), .val (.int sv)] [])) tgt
        refine XS.aloadN X1.here hx rfl (hb hby d3_44) rfl rfl ?_
        exact k
      obtain ⟨T20, X20, e20, st20⟩ := getF X1 hx hZ hown (host := "") (Or.inl (hw _ (List.mem_of_getElem? (i := 12) rfl))) Via.refl e1 F2 (g := (mkF m 45 #[.val (.ref ob), .val (.int xk), .val (.int xv), .val (.int sv)] [(.ref ob)])) rfl rfl (hb hby d3_45)
      refine own_st st20 ?_
      show own_Go p e below _ (T20.setTop (mkF m 48 #[.val (.ref ob), .val (.int xk), .val (.int xv), .val (.int sv)] [(.ref va)]))
      refine own_st (V := T20.setTop (mkF m 54 #[.val (.ref ob), .val (.int xk), .val (.int xv), .val (.int sv)] [(.ref ob)])) (fun tgt k => ?_) ?_
      · show Steps p.tables e below (T20.setTop (mkF m 48 #[.val (.ref ob), .val (.int xk), .val (.int xv), .val (.int sv)] [(.ref va)])) tgt
        refine XS.iloadN X20.here hx rfl (hb hby d3_48) rfl ?_
        show Steps p.tables e below (T20.setTop (mkF m 49 #[.val (.ref ob), .val (.int xk), .val (.int xv), .val (.int sv)] [(.int sv), (.ref va)])) tgt
        refine own_iaload X20 hx hZ e20 A2 (j := sv) (k := ((own_H xk + i) % 16)) hsv (Nat.mod_lt _ (by decide)) (g := (mkF m 49 #[.val (.ref ob), .val (.int xk), .val (.int xv), .val (.int sv)] [(.int sv), (.ref va)])) rfl rfl (hb hby d3_49) ?_
        show Steps p.tables e below (T20.setTop (mkF m 50 #[.val (.ref ob), .val (.int xk), .val (.int xv), .val (.int sv)] [(.int (vf ((own_H xk + i) % 16)))])) tgt
        refine XS.ifNo X20.here hx rfl (hb hby d3_50) rfl ((if0 _ _).trans (feq q.1).1) ?_
        show Steps p.tables e below (T20.setTop (mkF m 53 #[.val (.ref ob), .val (.int xk), .val (.int xv), .val (.int sv)] [])) tgt
        refine XS.aloadN X20.here hx rfl (hb hby d3_53) rfl rfl ?_
        exact k
      obtain ⟨T21, X21, e21, st21⟩ := getF X20 hx hZ hown (host := "") (Or.inl (hw _ (List.mem_of_getElem? (i := 10) rfl))) Via.refl e20 F1 (g := (mkF m 54 #[.val (.ref ob), .val (.int xk), .val (.int xv), .val (.int sv)] [(.ref ob)])) rfl rfl (hb hby d3_54)
      refine own_st st21 ?_
      show own_Go p e below _ (T21.setTop (mkF m 57 #[.val (.ref ob), .val (.int xk), .val (.int xv), .val (.int sv)] [(.ref ka)]))
      refine own_st (V := T21.setTop (mkF m 65 #[.val (.ref ob), .val (.int xk), .val (.int xv), .val (.int sv)] [(.int sv), (.ref ob)])) (fun tgt k => ?_) ?_
      · show Steps p.tables e below (T21.setTop (mkF m 57 #[.val (.ref ob), .val (.int xk), .val (.int xv), .val (.int sv)] [(.ref ka)])) tgt
        refine XS.iloadN X21.here hx rfl (hb hby d3_57) rfl ?_
        show Steps p.tables e below (T21.setTop (mkF m 58 #[.val (.ref ob), .val (.int xk), .val (.int xv), .val (.int sv)] [(.int sv), (.ref ka)])) tgt
        refine own_iaload X21 hx hZ e21 A1 (j := sv) (k := ((own_H xk + i) % 16)) hsv (Nat.mod_lt _ (by decide)) (g := (mkF m 58 #[.val (.ref ob), .val (.int xk), .val (.int xv), .val (.int sv)] [(.int sv), (.ref ka)])) rfl rfl (hb hby d3_58) ?_
        show Steps p.tables e below (T21.setTop (mkF m 59 #[.val (.ref ob), .val (.int xk), .val (.int xv), .val (.int sv)] [(.int (kf ((own_H xk + i) % 16)))])) tgt
        refine XS.iloadN X21.here hx rfl (hb hby d3_59) rfl ?_
        show Steps p.tables e below (T21.setTop (mkF m 60 #[.val (.ref ob), .val (.int xk), .val (.int xv), .val (.int sv)] [(.int xk), (.int (kf ((own_H xk + i) % 16)))])) tgt
        refine XS.icmpNo X21.here hx rfl (hb hby d3_60) rfl (feq q.2).1 ?_
        show Steps p.tables e below (T21.setTop (mkF m 63 #[.val (.ref ob), .val (.int xk), .val (.int xv), .val (.int sv)] [])) tgt
        refine XS.aloadN X21.here hx rfl (hb hby d3_63) rfl rfl ?_
        show Steps p.tables e below (T21.setTop (mkF m 64 #[.val (.ref ob), .val (.int xk), .val (.int xv), .val (.int sv)] [(.ref ob)])) tgt
        refine XS.iloadN X21.here hx rfl (hb hby d3_64) rfl ?_
        exact k
      obtain ⟨cq22, q22, q22'⟩ := E1.cell
      obtain ⟨v22, _, ⟨T22, L22, k22, n22⟩, -, Xc22, ⟨Lc22, hQ22, l22, y22, z22⟩, st22⟩ := X21.privateBack hx (y := (⟨"com/example/sigpoint/sigpoint/IntIndex", "next", "(I)I"⟩ : MethodName)) hown (mvT hZ (hw _ (List.mem_of_getElem? (i := 31) rfl))) (mvT hZ (hw _ (List.mem_of_getElem? (i := 32) rfl))) (own_selp (y := (⟨"com/example/sigpoint/sigpoint/IntIndex", "next", "(I)I"⟩ : MethodName)) hZ (hw _ (List.mem_of_getElem? (i := 1) rfl)) (hw _ (List.mem_of_getElem? (i := 33) rfl)) (hw _ (List.mem_of_getElem? (i := 32) rfl)) (by decide)) (Cond.privateMethod_at (mvP hZ (hw _ (List.mem_of_getElem? (i := 33) rfl)) (args := #[]))) (mvT hZ (hw _ (List.mem_of_getElem? (i := 34) rfl))) (by decide) (backOf (W := 0) (rm6 l Z a0 hw [] ob sv ka kf h0 n0 Z0 F1 A1) hZ (hw _ (List.mem_of_getElem? (i := 34) rfl)) (hw _ (List.mem_of_getElem? (i := 2) rfl)) (by decide) (by decide)) (g := (mkF m 65 #[.val (.ref ob), .val (.int xk), .val (.int xv), .val (.int sv)] [(.int sv), (.ref ob)])) rfl (by rw [hml]; rfl) (Steps.refl _) (a := ob) (by rw [e21]; exact q22) q22' (argsL := [(.int sv)]) (rest := []) (lenOf pd_3_0 rfl) rfl (by show 2 * 0 + _ ≤ _; exact Nat.le_of_eq rfl) (hb hby d3_65) (fun _ _ => ⟨rfl, e21, (own_z0 (by omega : cs + 0 = 0)), (own_z0 (by omega : ss + 0 = 0))⟩)
      dsimp only [Pt.U, Pt.locs, Pt.cells, Pt.slots] at Xc22 l22 y22 z22 st22 hQ22
      have X22 := own_cast Xc22 l22 y22 z22
      obtain ⟨ev22, N22q, K22⟩ := hQ22
      rw [ev22] at st22
      have N22 := Fr.app N1 N22q
      refine own_st (fun tgt k => st22.trans k) ?_
      show own_Go p e below _ (T22.setTop (mkF m 68 #[.val (.ref ob), .val (.int xk), .val (.int xv), .val (.int sv)] [(.int (own_nx sv))]))
      refine own_st (V := T22.setTop (mkF m 44 #[.val (.ref ob), .val (.int xk), .val (.int xv), .val (.int (own_nx sv))] [])) (fun tgt k => ?_) ?_
      · show Steps p.tables e below (T22.setTop (mkF m 68 #[.val (.ref ob), .val (.int xk), .val (.int xv), .val (.int sv)] [(.int (own_nx sv))])) tgt
        refine XS.istoreN X22.here hx rfl (hb hby d3_68) rfl (l' := #[.val (.ref ob), .val (.int xk), .val (.int xv), .val (.int (own_nx sv))]) rfl ?_
        show Steps p.tables e below (T22.setTop (mkF m 69 #[.val (.ref ob), .val (.int xk), .val (.int xv), .val (.int (own_nx sv))] [])) tgt
        refine XS.goto X22.here hx rfl (pc0 := 69) (pc' := 44) rfl (hb hby d3_69) (by decide) (by decide) ?_
        exact k
      exact ih (i + 1) _ _ _ _ _ (by omega) (by show (cs + 0) = 0; omega) (by show (ss + 0) = 0; omega) X22 K22 N22 (own_nxm hsv)
  exact loop tt 0 _ _ _ _ _ (by omega) rfl rfl X3 K3 N3 (own_h0 xk)
theorem d5n_0 : decode prog_63_method_5_code 0 = .ok (.aload_n 0, 1) := by decide +kernel
theorem d5n_1 : decode prog_63_method_5_code 1 = .ok (.iload_n 1, 1) := by decide +kernel
theorem d5n_2 : decode prog_63_method_5_code 2 = .ok (.invokevirtual 16, 3) := by decide +kernel
theorem d5n_5 : decode prog_63_method_5_code 5 = .ok (.istore_n 2, 1) := by decide +kernel
theorem d5n_6 : decode prog_63_method_5_code 6 = .ok (.aload_n 0, 1) := by decide +kernel
theorem d5n_7 : decode prog_63_method_5_code 7 = .ok (.getfield 13, 3) := by decide +kernel
theorem d5n_10 : decode prog_63_method_5_code 10 = .ok (.iload_n 2, 1) := by decide +kernel
theorem d5n_11 : decode prog_63_method_5_code 11 = .ok (.iaload, 1) := by decide +kernel
theorem d5n_12 : decode prog_63_method_5_code 12 = .ok (.ifCond .eq 22, 3) := by decide +kernel
theorem d5n_15 : decode prog_63_method_5_code 15 = .ok (.aload_n 0, 1) := by decide +kernel
theorem d5n_16 : decode prog_63_method_5_code 16 = .ok (.getfield 7, 3) := by decide +kernel
theorem d5n_19 : decode prog_63_method_5_code 19 = .ok (.iload_n 2, 1) := by decide +kernel
theorem d5n_20 : decode prog_63_method_5_code 20 = .ok (.iaload, 1) := by decide +kernel
theorem d5n_21 : decode prog_63_method_5_code 21 = .ok (.iload_n 1, 1) := by decide +kernel
theorem d5n_22 : decode prog_63_method_5_code 22 = .ok (.if_icmp .eq 12, 3) := by decide +kernel
theorem d5n_25 : decode prog_63_method_5_code 25 = .ok (.aload_n 0, 1) := by decide +kernel
theorem d5n_26 : decode prog_63_method_5_code 26 = .ok (.iload_n 2, 1) := by decide +kernel
theorem d5n_27 : decode prog_63_method_5_code 27 = .ok (.invokevirtual 20, 3) := by decide +kernel
theorem d5n_30 : decode prog_63_method_5_code 30 = .ok (.istore_n 2, 1) := by decide +kernel
theorem d5n_31 : decode prog_63_method_5_code 31 = .ok (.goto (-25), 3) := by decide +kernel
theorem d5n_34 : decode prog_63_method_5_code 34 = .ok (.aload_n 0, 1) := by decide +kernel
theorem d5n_35 : decode prog_63_method_5_code 35 = .ok (.getfield 13, 3) := by decide +kernel
theorem d5n_38 : decode prog_63_method_5_code 38 = .ok (.iload_n 2, 1) := by decide +kernel
theorem d5n_39 : decode prog_63_method_5_code 39 = .ok (.iaload, 1) := by decide +kernel
theorem d5n_40 : decode prog_63_method_5_code 40 = .ok (.ifCond .ne 4, 3) := by decide +kernel
theorem d5n_43 : decode prog_63_method_5_code 43 = .ok (.return_, 1) := by decide +kernel
theorem pn_5n : plainName "com/example/sigpoint/sigpoint/IntIndex" = true := by first | (simp [plainName, overriddenIn]; done) | decide +kernel
theorem pd_5n_0 : parseMethodDescriptor "(I)I" = some ⟨[.int], some .int⟩ := by decide +kernel
theorem ef_5n (m : MethodId) (x0 : Addr) (x1 : Int32) : entryFrame m #[(.ref x0), (.int x1)] 7 = mkF m 0 #[.val (.ref x0), .val (.int x1), .unset, .unset, .unset, .unset, .unset] [] := by first | (simp [entryFrame, mkF, argsToLocals, Value.category]; done) | rfl
def Q5n (Z : State) (ob : Addr) (xk : Int32) (ka : Addr) (va : Addr) (kf : Nat → Int32) (vf : Nat → Int32) (sz : Int32) (tt : Nat) (h0 : Heap) (n0 : Nat) (v : Option Value) (h : Heap) (L : List Loc) : Prop := v = none ∧ Fr n0 L ∧ h = h0
set_option maxRecDepth 65536 in
set_option maxHeartbeats 40000000 in
theorem rm5n (l : Launch) (Z : State) (a0 : Array Value) (hw : ∀ d ∈ tables_1, d.before a0 Z = true) (ws : List Jvm.Cond) (ob : Addr) (xk : Int32) (ka : Addr) (va : Addr) (kf : Nat → Int32) (vf : Nat → Int32) (sz : Int32) (tt : Nat) (h0 : Heap) (n0 : Nat) (Z0 : n0 ≤ h0.size) (E1 : Exa Z h0 ob "com/example/sigpoint/sigpoint/IntIndex") (F1 : Fld Z h0 ob "com/example/sigpoint/sigpoint/IntIndex" "keys" "[I" (.ref ka)) (F2 : Fld Z h0 ob "com/example/sigpoint/sigpoint/IntIndex" "values" "[I" (.ref va)) (F3 : Fld Z h0 ob "com/example/sigpoint/sigpoint/IntIndex" "size" "I" (.int sz)) (A1 : own_Ai Z h0 ka .int 16 kf) (A2 : own_Ai Z h0 va .int 16 vf) (G1 : n0 ≤ ob) (G2 : n0 ≤ ka) (G3 : n0 ≤ va) (NE1 : ka ≠ va) (NE2 : ob ≠ ka) (NE3 : ob ≠ va) (T1 : tt < 16) (PR : own_Pr kf vf xk tt) (HV : vf ((own_H xk + tt) % 16) = 0) :
    MetFree l (⟨"com/example/sigpoint/sigpoint/IntIndex", "remove", "(I)V"⟩ : MethodName) (head1 (Jvm.Cond.code (⟨"com/example/sigpoint/sigpoint/IntIndex", "remove", "(I)V"⟩ : MethodName) prog_63_method_5_code 7 none :: ws) ({ frames := 1, cells := 0, slots := 0, locals := 20 } : Room)) (fun a U => a = #[(.ref ob), (.int xk)] ∧ Z.Warmed39 U.vm ∧ U.heap = h0) (fun _ _ _ _ _ => True) (fun _ U o U' => ∃ v L, o = .returned v ∧ Q5n Z ob xk ka va kf vf sz tt h0 n0 v U'.heap L ∧ FrameEnd U o U' L ({ frames := 1, cells := 0, slots := 0, locals := 20 } : Room).cells ({ frames := 1, cells := 0, slots := 0, locals := 20 } : Room).slots) := by
  refine MetFree.of_bodySF (plainFor_of_name pn_5n) hisR ?_
  intro p e s m args below meth c s₁ Bd hml0 hP hK
  obtain ⟨rfl, hZ, hh⟩ := hP
  have hx := Bd.exec
  have hby := Bd.bytes
  have hlk : meth.locks = false := BodyLoose.notSynchronized Bd
  have hml : c.maxLocals = 7 := hml0
  have hown : s.vm.findClass "com/example/sigpoint/sigpoint/IntIndex" = some m.cls := findClass_of_methodNamed Bd.named
  have hnm := (name_of_methodNamed Bd.named Bd.method).1
  have X0 : Stand p l e ({ frames := 1, cells := 0, slots := 0, locals := 20 } : Room) s m #[(.ref ob), (.int xk)] below meth c s₁ [] 0 0 := Stand.of_body Bd
  have e0 : s₁.heap = h0 := by rw [← hh, Bd.state]; rfl
  have N0 := Fr.nil n0
  show own_Go p e below (own_G s (Q5n Z ob xk ka va kf vf sz tt h0 n0) ({ frames := 1, cells := 0, slots := 0, locals := 20 } : Room).cells ({ frames := 1, cells := 0, slots := 0, locals := 20 } : Room).slots) (s₁.setTop (entryFrame m #[(.ref ob), (.int xk)] 7))
  refine own_st (fun tgt k => castTop (ef_5n m ob xk) k) ?_
  show own_Go p e below _ (s₁.setTop (mkF m 0 #[.val (.ref ob), .val (.int xk), .unset, .unset, .unset, .unset, .unset] []))
  refine own_st (V := s₁.setTop (mkF m 2 #[.val (.ref ob), .val (.int xk), .unset, .unset, .unset, .unset, .unset] [(.int xk), (.ref ob)])) (fun tgt k => ?_) ?_
  · show Steps p.tables e below (s₁.setTop (mkF m 0 #[.val (.ref ob), .val (.int xk), .unset, .unset, .unset, .unset, .unset] [])) tgt
    refine XS.aloadN X0.here hx rfl (hb hby d5n_0) rfl rfl ?_
    show Steps p.tables e below (s₁.setTop (mkF m 1 #[.val (.ref ob), .val (.int xk), .unset, .unset, .unset, .unset, .unset] [(.ref ob)])) tgt
    refine XS.iloadN X0.here hx rfl (hb hby d5n_1) rfl ?_
    exact k
  obtain ⟨cq1, q1, q1'⟩ := E1.cell
  obtain ⟨v1, _, ⟨T1, L1, k1, n1⟩, -, Xc1, ⟨Lc1, hQ1, l1, y1, z1⟩, st1⟩ := X0.privateBack hx (y := (⟨"com/example/sigpoint/sigpoint/IntIndex", "home", "(I)I"⟩ : MethodName)) hown (mvT hZ (hw _ (List.mem_of_getElem? (i := 21) rfl))) (mvT hZ (hw _ (List.mem_of_getElem? (i := 22) rfl))) (own_selp (y := (⟨"com/example/sigpoint/sigpoint/IntIndex", "home", "(I)I"⟩ : MethodName)) hZ (hw _ (List.mem_of_getElem? (i := 1) rfl)) (hw _ (List.mem_of_getElem? (i := 23) rfl)) (hw _ (List.mem_of_getElem? (i := 22) rfl)) (by decide)) (Cond.privateMethod_at (mvP hZ (hw _ (List.mem_of_getElem? (i := 23) rfl)) (args := #[]))) (mvT hZ (hw _ (List.mem_of_getElem? (i := 24) rfl))) (by decide) (backOf (W := 0) (rm4 l Z a0 hw [] ob xk ka kf h0 n0 Z0 F1 A1) hZ (hw _ (List.mem_of_getElem? (i := 24) rfl)) (hw _ (List.mem_of_getElem? (i := 2) rfl)) (by decide) (by decide)) (g := (mkF m 2 #[.val (.ref ob), .val (.int xk), .unset, .unset, .unset, .unset, .unset] [(.int xk), (.ref ob)])) rfl (by rw [hml]; rfl) (Steps.refl _) (a := ob) (by rw [e0]; exact q1) q1' (argsL := [(.int xk)]) (rest := []) (lenOf pd_5n_0 rfl) rfl (by show 2 * 0 + _ ≤ _; exact Nat.le_of_eq rfl) (hb hby d5n_2) (fun _ _ => ⟨rfl, e0, (by decide : 0 + 0 ≤ _), (by decide : 0 + 0 ≤ _)⟩)
  dsimp only [Pt.U, Pt.locs, Pt.cells, Pt.slots] at Xc1 l1 y1 z1 st1 hQ1
  have X1 := own_cast Xc1 l1 y1 z1
  obtain ⟨ev1, N1q, K1⟩ := hQ1
  rw [ev1] at st1
  have N1 := Fr.app N0 N1q
  refine own_st (fun tgt k => st1.trans k) ?_
  show own_Go p e below _ (T1.setTop (mkF m 5 #[.val (.ref ob), .val (.int xk), .unset, .unset, .unset, .unset, .unset] [(.int (own_hx xk))]))
  refine own_st (V := T1.setTop (mkF m 6 #[.val (.ref ob), .val (.int xk), .val (.int (own_hx xk)), .unset, .unset, .unset, .unset] [])) (fun tgt k => ?_) ?_
  · show Steps p.tables e below (T1.setTop (mkF m 5 #[.val (.ref ob), .val (.int xk), .unset, .unset, .unset, .unset, .unset] [(.int (own_hx xk))])) tgt
    refine XS.istoreN X1.here hx rfl (hb hby d5n_5) rfl (l' := #[.val (.ref ob), .val (.int xk), .val (.int (own_hx xk)), .unset, .unset, .unset, .unset]) rfl ?_
    exact k
  have loop : ∀ (n i : Nat) (T : State) (locs : List Loc) (cs ss : Nat) (sv : Int32), i + n = tt → cs = 0 → ss = 0 → Stand p l e ({ frames := 1, cells := 0, slots := 0, locals := 20 } : Room) s m #[(.ref ob), (.int xk)] below meth c T locs cs ss → T.heap = h0 → Fr n0 locs → sv.toInt = (((own_H xk + i) % 16 : Nat) : Int) → own_Go p e below (own_G s (Q5n Z ob xk ka va kf vf sz tt h0 n0) ({ frames := 1, cells := 0, slots := 0, locals := 20 } : Room).cells ({ frames := 1, cells := 0, slots := 0, locals := 20 } : Room).slots) (T.setTop (mkF m 6 #[.val (.ref ob), .val (.int xk), .val (.int sv), .unset, .unset, .unset, .unset] [])) := by
    intro n
    induction n with
    | zero =>
      intro i T1 locs1 cs ss sv hi hcs hss X1 e1 N1 hsv
      have hi' : tt = i := by omega
      subst hi'
      refine own_st (V := T1.setTop (mkF m 7 #[.val (.ref ob), .val (.int xk), .val (.int sv), .unset, .unset, .unset, .unset] [(.ref ob)])) (fun tgt k => ?_) ?_
      · show Steps p.tables e below (T1.setTop (mkF m 6 #[.val (.ref ob), .val (.int xk), .val (.int sv), .unset, .unset, .unset, .unset] [])) tgt
        refine XS.aloadN X1.here hx rfl (hb hby d5n_6) rfl rfl ?_
        exact k
      obtain ⟨T2, X2, e2, st2⟩ := getF X1 hx hZ hown (host := "") (Or.inl (hw _ (List.mem_of_getElem? (i := 12) rfl))) Via.refl e1 F2 (g := (mkF m 7 #[.val (.ref ob), .val (.int xk), .val (.int sv), .unset, .unset, .unset, .unset] [(.ref ob)])) rfl rfl (hb hby d5n_7)
      refine own_st st2 ?_
      show own_Go p e below _ (T2.setTop (mkF m 10 #[.val (.ref ob), .val (.int xk), .val (.int sv), .unset, .unset, .unset, .unset] [(.ref va)]))
      refine own_st (V := T2.setTop (mkF m 35 #[.val (.ref ob), .val (.int xk), .val (.int sv), .unset, .unset, .unset, .unset] [(.ref ob)])) (fun tgt k => ?_) ?_
      · show Steps p.tables e below (T2.setTop (mkF m 10 #[.val (.ref ob), .val (.int xk), .val (.int sv), .unset, .unset, .unset, .unset] [(.ref va)])) tgt
        refine XS.iloadN X2.here hx rfl (hb hby d5n_10) rfl ?_
        show Steps p.tables e below (T2.setTop (mkF m 11 #[.val (.ref ob), .val (.int xk), .val (.int sv), .unset, .unset, .unset, .unset] [(.int sv), (.ref va)])) tgt
        refine own_iaload X2 hx hZ e2 A2 (j := sv) (k := ((own_H xk + tt) % 16)) hsv (Nat.mod_lt _ (by decide)) (g := (mkF m 11 #[.val (.ref ob), .val (.int xk), .val (.int sv), .unset, .unset, .unset, .unset] [(.int sv), (.ref va)])) rfl rfl (hb hby d5n_11) ?_
        show Steps p.tables e below (T2.setTop (mkF m 12 #[.val (.ref ob), .val (.int xk), .val (.int sv), .unset, .unset, .unset, .unset] [(.int (vf ((own_H xk + tt) % 16)))])) tgt
        refine XS.ifYes X2.here hx rfl (pc0 := 12) (pc' := 34) rfl (hb hby d5n_12) rfl ((if0 _ _).trans (teq HV).1) (by decide) (by decide) ?_
        show Steps p.tables e below (T2.setTop (mkF m 34 #[.val (.ref ob), .val (.int xk), .val (.int sv), .unset, .unset, .unset, .unset] [])) tgt
        refine XS.aloadN X2.here hx rfl (hb hby d5n_34) rfl rfl ?_
        exact k
      obtain ⟨T3, X3, e3, st3⟩ := getF X2 hx hZ hown (host := "") (Or.inl (hw _ (List.mem_of_getElem? (i := 12) rfl))) Via.refl e2 F2 (g := (mkF m 35 #[.val (.ref ob), .val (.int xk), .val (.int sv), .unset, .unset, .unset, .unset] [(.ref ob)])) rfl rfl (hb hby d5n_35)
      refine own_st st3 ?_
      show own_Go p e below _ (T3.setTop (mkF m 38 #[.val (.ref ob), .val (.int xk), .val (.int sv), .unset, .unset, .unset, .unset] [(.ref va)]))
      refine own_st (V := T3.setTop (mkF m 43 #[.val (.ref ob), .val (.int xk), .val (.int sv), .unset, .unset, .unset, .unset] [])) (fun tgt k => ?_) ?_
      · show Steps p.tables e below (T3.setTop (mkF m 38 #[.val (.ref ob), .val (.int xk), .val (.int sv), .unset, .unset, .unset, .unset] [(.ref va)])) tgt
        refine XS.iloadN X3.here hx rfl (hb hby d5n_38) rfl ?_
        show Steps p.tables e below (T3.setTop (mkF m 39 #[.val (.ref ob), .val (.int xk), .val (.int sv), .unset, .unset, .unset, .unset] [(.int sv), (.ref va)])) tgt
        refine own_iaload X3 hx hZ e3 A2 (j := sv) (k := ((own_H xk + tt) % 16)) hsv (Nat.mod_lt _ (by decide)) (g := (mkF m 39 #[.val (.ref ob), .val (.int xk), .val (.int sv), .unset, .unset, .unset, .unset] [(.int sv), (.ref va)])) rfl rfl (hb hby d5n_39) ?_
        show Steps p.tables e below (T3.setTop (mkF m 40 #[.val (.ref ob), .val (.int xk), .val (.int sv), .unset, .unset, .unset, .unset] [(.int (vf ((own_H xk + tt) % 16)))])) tgt
        refine XS.ifNo X3.here hx rfl (hb hby d5n_40) rfl ((if0 _ _).trans (teq HV).2) ?_
        exact k
      refine own_ret0 X3 hx hlk Bd.returns (hb hby d5n_43) ?_ (own_z0 (by omega : cs = 0)) (own_z0 (by omega : ss = 0))
      show Q5n Z ob xk ka va kf vf sz tt h0 n0 none T3.heap _
      rw [e3]
      exact ⟨rfl, N1, rfl⟩
    | succ n ih =>
      intro i T1 locs1 cs ss sv hi hcs hss X1 e1 N1 hsv
      have q := PR.1 i (by omega)
      refine own_st (V := T1.setTop (mkF m 7 #[.val (.ref ob), .val (.int xk), .val (.int sv), .unset, .unset, .unset, .unset] [(.ref ob)])) (fun tgt k => ?_) ?_
      · show Steps p.tables e below (T1.setTop (mkF m 6 #[.val (.ref ob), .val (.int xk), .val (.int sv), .unset, .unset, .unset, .unset] [])) tgt
        refine XS.aloadN X1.here hx rfl (hb hby d5n_6) rfl rfl ?_
        exact k
      obtain ⟨T5, X5, e5, st5⟩ := getF X1 hx hZ hown (host := "") (Or.inl (hw _ (List.mem_of_getElem? (i := 12) rfl))) Via.refl e1 F2 (g := (mkF m 7 #[.val (.ref ob), .val (.int xk), .val (.int sv), .unset, .unset, .unset, .unset] [(.ref ob)])) rfl rfl (hb hby d5n_7)
      refine own_st st5 ?_
      show own_Go p e below _ (T5.setTop (mkF m 10 #[.val (.ref ob), .val (.int xk), .val (.int sv), .unset, .unset, .unset, .unset] [(.ref va)]))
      refine own_st (V := T5.setTop (mkF m 16 #[.val (.ref ob), .val (.int xk), .val (.int sv), .unset, .unset, .unset, .unset] [(.ref ob)])) (fun tgt k => ?_) ?_
      · show Steps p.tables e below (T5.setTop (mkF m 10 #[.val (.ref ob), .val (.int xk), .val (.int sv), .unset, .unset, .unset, .unset] [(.ref va)])) tgt
        refine XS.iloadN X5.here hx rfl (hb hby d5n_10) rfl ?_
        show Steps p.tables e below (T5.setTop (mkF m 11 #[.val (.ref ob), .val (.int xk), .val (.int sv), .unset, .unset, .unset, .unset] [(.int sv), (.ref va)])) tgt
        refine own_iaload X5 hx hZ e5 A2 (j := sv) (k := ((own_H xk + i) % 16)) hsv (Nat.mod_lt _ (by decide)) (g := (mkF m 11 #[.val (.ref ob), .val (.int xk), .val (.int sv), .unset, .unset, .unset, .unset] [(.int sv), (.ref va)])) rfl rfl (hb hby d5n_11) ?_
        show Steps p.tables e below (T5.setTop (mkF m 12 #[.val (.ref ob), .val (.int xk), .val (.int sv), .unset, .unset, .unset, .unset] [(.int (vf ((own_H xk + i) % 16)))])) tgt
        refine XS.ifNo X5.here hx rfl (hb hby d5n_12) rfl ((if0 _ _).trans (feq q.1).1) ?_
        show Steps p.tables e below (T5.setTop (mkF m 15 #[.val (.ref ob), .val (.int xk), .val (.int sv), .unset, .unset, .unset, .unset] [])) tgt
        refine XS.aloadN X5.here hx rfl (hb hby d5n_15) rfl rfl ?_
        exact k
      obtain ⟨T6, X6, e6, st6⟩ := getF X5 hx hZ hown (host := "") (Or.inl (hw _ (List.mem_of_getElem? (i := 10) rfl))) Via.refl e5 F1 (g := (mkF m 16 #[.val (.ref ob), .val (.int xk), .val (.int sv), .unset, .unset, .unset, .unset] [(.ref ob)])) rfl rfl (hb hby d5n_16)
      refine own_st st6 ?_
      show own_Go p e below _ (T6.setTop (mkF m 19 #[.val (.ref ob), .val (.int xk), .val (.int sv), .unset, .unset, .unset, .unset] [(.ref ka)]))
      refine own_st (V := T6.setTop (mkF m 27 #[.val (.ref ob), .val (.int xk), .val (.int sv), .unset, .unset, .unset, .unset] [(.int sv), (.ref ob)])) (fun tgt k => ?_) ?_
      · show Steps p.tables e below (T6.setTop (mkF m 19 #[.val (.ref ob), .val (.int xk), .val (.int sv), .unset, .unset, .unset, .unset] [(.ref ka)])) tgt
        refine XS.iloadN X6.here hx rfl (hb hby d5n_19) rfl ?_
        show Steps p.tables e below (T6.setTop (mkF m 20 #[.val (.ref ob), .val (.int xk), .val (.int sv), .unset, .unset, .unset, .unset] [(.int sv), (.ref ka)])) tgt
        refine own_iaload X6 hx hZ e6 A1 (j := sv) (k := ((own_H xk + i) % 16)) hsv (Nat.mod_lt _ (by decide)) (g := (mkF m 20 #[.val (.ref ob), .val (.int xk), .val (.int sv), .unset, .unset, .unset, .unset] [(.int sv), (.ref ka)])) rfl rfl (hb hby d5n_20) ?_
        show Steps p.tables e below (T6.setTop (mkF m 21 #[.val (.ref ob), .val (.int xk), .val (.int sv), .unset, .unset, .unset, .unset] [(.int (kf ((own_H xk + i) % 16)))])) tgt
        refine XS.iloadN X6.here hx rfl (hb hby d5n_21) rfl ?_
        show Steps p.tables e below (T6.setTop (mkF m 22 #[.val (.ref ob), .val (.int xk), .val (.int sv), .unset, .unset, .unset, .unset] [(.int xk), (.int (kf ((own_H xk + i) % 16)))])) tgt
        refine XS.icmpNo X6.here hx rfl (hb hby d5n_22) rfl (feq q.2).1 ?_
        show Steps p.tables e below (T6.setTop (mkF m 25 #[.val (.ref ob), .val (.int xk), .val (.int sv), .unset, .unset, .unset, .unset] [])) tgt
        refine XS.aloadN X6.here hx rfl (hb hby d5n_25) rfl rfl ?_
        show Steps p.tables e below (T6.setTop (mkF m 26 #[.val (.ref ob), .val (.int xk), .val (.int sv), .unset, .unset, .unset, .unset] [(.ref ob)])) tgt
        refine XS.iloadN X6.here hx rfl (hb hby d5n_26) rfl ?_
        exact k
      obtain ⟨cq7, q7, q7'⟩ := E1.cell
      obtain ⟨v7, _, ⟨T7, L7, k7, n7⟩, -, Xc7, ⟨Lc7, hQ7, l7, y7, z7⟩, st7⟩ := X6.privateBack hx (y := (⟨"com/example/sigpoint/sigpoint/IntIndex", "next", "(I)I"⟩ : MethodName)) hown (mvT hZ (hw _ (List.mem_of_getElem? (i := 31) rfl))) (mvT hZ (hw _ (List.mem_of_getElem? (i := 32) rfl))) (own_selp (y := (⟨"com/example/sigpoint/sigpoint/IntIndex", "next", "(I)I"⟩ : MethodName)) hZ (hw _ (List.mem_of_getElem? (i := 1) rfl)) (hw _ (List.mem_of_getElem? (i := 33) rfl)) (hw _ (List.mem_of_getElem? (i := 32) rfl)) (by decide)) (Cond.privateMethod_at (mvP hZ (hw _ (List.mem_of_getElem? (i := 33) rfl)) (args := #[]))) (mvT hZ (hw _ (List.mem_of_getElem? (i := 34) rfl))) (by decide) (backOf (W := 0) (rm6 l Z a0 hw [] ob sv ka kf h0 n0 Z0 F1 A1) hZ (hw _ (List.mem_of_getElem? (i := 34) rfl)) (hw _ (List.mem_of_getElem? (i := 2) rfl)) (by decide) (by decide)) (g := (mkF m 27 #[.val (.ref ob), .val (.int xk), .val (.int sv), .unset, .unset, .unset, .unset] [(.int sv), (.ref ob)])) rfl (by rw [hml]; rfl) (Steps.refl _) (a := ob) (by rw [e6]; exact q7) q7' (argsL := [(.int sv)]) (rest := []) (lenOf pd_5n_0 rfl) rfl (by show 2 * 0 + _ ≤ _; exact Nat.le_of_eq rfl) (hb hby d5n_27) (fun _ _ => ⟨rfl, e6, (own_z0 (by omega : cs + 0 = 0)), (own_z0 (by omega : ss + 0 = 0))⟩)
      dsimp only [Pt.U, Pt.locs, Pt.cells, Pt.slots] at Xc7 l7 y7 z7 st7 hQ7
      have X7 := own_cast Xc7 l7 y7 z7
      obtain ⟨ev7, N7q, K7⟩ := hQ7
      rw [ev7] at st7
      have N7 := Fr.app N1 N7q
      refine own_st (fun tgt k => st7.trans k) ?_
      show own_Go p e below _ (T7.setTop (mkF m 30 #[.val (.ref ob), .val (.int xk), .val (.int sv), .unset, .unset, .unset, .unset] [(.int (own_nx sv))]))
      refine own_st (V := T7.setTop (mkF m 6 #[.val (.ref ob), .val (.int xk), .val (.int (own_nx sv)), .unset, .unset, .unset, .unset] [])) (fun tgt k => ?_) ?_
      · show Steps p.tables e below (T7.setTop (mkF m 30 #[.val (.ref ob), .val (.int xk), .val (.int sv), .unset, .unset, .unset, .unset] [(.int (own_nx sv))])) tgt
        refine XS.istoreN X7.here hx rfl (hb hby d5n_30) rfl (l' := #[.val (.ref ob), .val (.int xk), .val (.int (own_nx sv)), .unset, .unset, .unset, .unset]) rfl ?_
        show Steps p.tables e below (T7.setTop (mkF m 31 #[.val (.ref ob), .val (.int xk), .val (.int (own_nx sv)), .unset, .unset, .unset, .unset] [])) tgt
        refine XS.goto X7.here hx rfl (pc0 := 31) (pc' := 6) rfl (hb hby d5n_31) (by decide) (by decide) ?_
        exact k
      exact ih (i + 1) _ _ _ _ _ (by omega) (by show (cs + 0) = 0; omega) (by show (ss + 0) = 0; omega) X7 K7 N7 (own_nxm hsv)
  exact loop tt 0 _ _ _ _ _ (by omega) rfl rfl X1 K1 N1 (own_h0 xk)
theorem d5y_0 : decode prog_63_method_5_code 0 = .ok (.aload_n 0, 1) := by decide +kernel
theorem d5y_1 : decode prog_63_method_5_code 1 = .ok (.iload_n 1, 1) := by decide +kernel
theorem d5y_2 : decode prog_63_method_5_code 2 = .ok (.invokevirtual 16, 3) := by decide +kernel
theorem d5y_5 : decode prog_63_method_5_code 5 = .ok (.istore_n 2, 1) := by decide +kernel
theorem d5y_6 : decode prog_63_method_5_code 6 = .ok (.aload_n 0, 1) := by decide +kernel
theorem d5y_7 : decode prog_63_method_5_code 7 = .ok (.getfield 13, 3) := by decide +kernel
theorem d5y_10 : decode prog_63_method_5_code 10 = .ok (.iload_n 2, 1) := by decide +kernel
theorem d5y_11 : decode prog_63_method_5_code 11 = .ok (.iaload, 1) := by decide +kernel
theorem d5y_12 : decode prog_63_method_5_code 12 = .ok (.ifCond .eq 22, 3) := by decide +kernel
theorem d5y_15 : decode prog_63_method_5_code 15 = .ok (.aload_n 0, 1) := by decide +kernel
theorem d5y_16 : decode prog_63_method_5_code 16 = .ok (.getfield 7, 3) := by decide +kernel
theorem d5y_19 : decode prog_63_method_5_code 19 = .ok (.iload_n 2, 1) := by decide +kernel
theorem d5y_20 : decode prog_63_method_5_code 20 = .ok (.iaload, 1) := by decide +kernel
theorem d5y_21 : decode prog_63_method_5_code 21 = .ok (.iload_n 1, 1) := by decide +kernel
theorem d5y_22 : decode prog_63_method_5_code 22 = .ok (.if_icmp .eq 12, 3) := by decide +kernel
theorem d5y_25 : decode prog_63_method_5_code 25 = .ok (.aload_n 0, 1) := by decide +kernel
theorem d5y_26 : decode prog_63_method_5_code 26 = .ok (.iload_n 2, 1) := by decide +kernel
theorem d5y_27 : decode prog_63_method_5_code 27 = .ok (.invokevirtual 20, 3) := by decide +kernel
theorem d5y_30 : decode prog_63_method_5_code 30 = .ok (.istore_n 2, 1) := by decide +kernel
theorem d5y_31 : decode prog_63_method_5_code 31 = .ok (.goto (-25), 3) := by decide +kernel
theorem d5y_34 : decode prog_63_method_5_code 34 = .ok (.aload_n 0, 1) := by decide +kernel
theorem d5y_35 : decode prog_63_method_5_code 35 = .ok (.getfield 13, 3) := by decide +kernel
theorem d5y_38 : decode prog_63_method_5_code 38 = .ok (.iload_n 2, 1) := by decide +kernel
theorem d5y_39 : decode prog_63_method_5_code 39 = .ok (.iaload, 1) := by decide +kernel
theorem d5y_40 : decode prog_63_method_5_code 40 = .ok (.ifCond .ne 4, 3) := by decide +kernel
theorem d5y_44 : decode prog_63_method_5_code 44 = .ok (.aload_n 0, 1) := by decide +kernel
theorem d5y_45 : decode prog_63_method_5_code 45 = .ok (.dup, 1) := by decide +kernel
theorem d5y_46 : decode prog_63_method_5_code 46 = .ok (.getfield 35, 3) := by decide +kernel
theorem d5y_49 : decode prog_63_method_5_code 49 = .ok (.iconst 1, 1) := by decide +kernel
theorem d5y_50 : decode prog_63_method_5_code 50 = .ok (.isub, 1) := by decide +kernel
theorem d5y_51 : decode prog_63_method_5_code 51 = .ok (.putfield 35, 3) := by decide +kernel
theorem d5y_54 : decode prog_63_method_5_code 54 = .ok (.iload_n 2, 1) := by decide +kernel
theorem d5y_55 : decode prog_63_method_5_code 55 = .ok (.istore_n 3, 1) := by decide +kernel
theorem d5y_56 : decode prog_63_method_5_code 56 = .ok (.aload_n 0, 1) := by decide +kernel
theorem d5y_57 : decode prog_63_method_5_code 57 = .ok (.iload_n 3, 1) := by decide +kernel
theorem d5y_58 : decode prog_63_method_5_code 58 = .ok (.invokevirtual 20, 3) := by decide +kernel
theorem d5y_61 : decode prog_63_method_5_code 61 = .ok (.istore 4, 2) := by decide +kernel
theorem d5y_63 : decode prog_63_method_5_code 63 = .ok (.aload_n 0, 1) := by decide +kernel
theorem d5y_64 : decode prog_63_method_5_code 64 = .ok (.getfield 13, 3) := by decide +kernel
theorem d5y_67 : decode prog_63_method_5_code 67 = .ok (.iload 4, 2) := by decide +kernel
theorem d5y_69 : decode prog_63_method_5_code 69 = .ok (.iaload, 1) := by decide +kernel
theorem d5y_70 : decode prog_63_method_5_code 70 = .ok (.ifCond .eq 108, 3) := by decide +kernel
theorem d5y_73 : decode prog_63_method_5_code 73 = .ok (.aload_n 0, 1) := by decide +kernel
theorem d5y_74 : decode prog_63_method_5_code 74 = .ok (.aload_n 0, 1) := by decide +kernel
theorem d5y_75 : decode prog_63_method_5_code 75 = .ok (.getfield 7, 3) := by decide +kernel
theorem d5y_78 : decode prog_63_method_5_code 78 = .ok (.iload 4, 2) := by decide +kernel
theorem d5y_80 : decode prog_63_method_5_code 80 = .ok (.iaload, 1) := by decide +kernel
theorem d5y_81 : decode prog_63_method_5_code 81 = .ok (.invokevirtual 16, 3) := by decide +kernel
theorem d5y_84 : decode prog_63_method_5_code 84 = .ok (.istore 5, 2) := by decide +kernel
theorem d5y_86 : decode prog_63_method_5_code 86 = .ok (.iload_n 3, 1) := by decide +kernel
theorem d5y_87 : decode prog_63_method_5_code 87 = .ok (.iload 4, 2) := by decide +kernel
theorem d5y_89 : decode prog_63_method_5_code 89 = .ok (.if_icmp .gt 24, 3) := by decide +kernel
theorem d5y_92 : decode prog_63_method_5_code 92 = .ok (.iload_n 3, 1) := by decide +kernel
theorem d5y_93 : decode prog_63_method_5_code 93 = .ok (.iload 5, 2) := by decide +kernel
theorem d5y_95 : decode prog_63_method_5_code 95 = .ok (.if_icmp .ge 14, 3) := by decide +kernel
theorem d5y_98 : decode prog_63_method_5_code 98 = .ok (.iload 5, 2) := by decide +kernel
theorem d5y_100 : decode prog_63_method_5_code 100 = .ok (.iload 4, 2) := by decide +kernel
theorem d5y_102 : decode prog_63_method_5_code 102 = .ok (.if_icmp .gt 7, 3) := by decide +kernel
theorem d5y_105 : decode prog_63_method_5_code 105 = .ok (.iconst 1, 1) := by decide +kernel
theorem d5y_106 : decode prog_63_method_5_code 106 = .ok (.goto 25, 3) := by decide +kernel
theorem d5y_109 : decode prog_63_method_5_code 109 = .ok (.iconst 0, 1) := by decide +kernel
theorem d5y_110 : decode prog_63_method_5_code 110 = .ok (.goto 21, 3) := by decide +kernel
theorem d5y_113 : decode prog_63_method_5_code 113 = .ok (.iload_n 3, 1) := by decide +kernel
theorem d5y_114 : decode prog_63_method_5_code 114 = .ok (.iload 5, 2) := by decide +kernel
theorem d5y_116 : decode prog_63_method_5_code 116 = .ok (.if_icmp .lt 10, 3) := by decide +kernel
theorem d5y_119 : decode prog_63_method_5_code 119 = .ok (.iload 5, 2) := by decide +kernel
theorem d5y_121 : decode prog_63_method_5_code 121 = .ok (.iload 4, 2) := by decide +kernel
theorem d5y_123 : decode prog_63_method_5_code 123 = .ok (.if_icmp .gt 7, 3) := by decide +kernel
theorem d5y_126 : decode prog_63_method_5_code 126 = .ok (.iconst 1, 1) := by decide +kernel
theorem d5y_127 : decode prog_63_method_5_code 127 = .ok (.goto 4, 3) := by decide +kernel
theorem d5y_130 : decode prog_63_method_5_code 130 = .ok (.iconst 0, 1) := by decide +kernel
theorem d5y_131 : decode prog_63_method_5_code 131 = .ok (.istore 6, 2) := by decide +kernel
theorem d5y_133 : decode prog_63_method_5_code 133 = .ok (.iload 6, 2) := by decide +kernel
theorem d5y_135 : decode prog_63_method_5_code 135 = .ok (.ifCond .ne 32, 3) := by decide +kernel
theorem d5y_138 : decode prog_63_method_5_code 138 = .ok (.aload_n 0, 1) := by decide +kernel
theorem d5y_139 : decode prog_63_method_5_code 139 = .ok (.getfield 7, 3) := by decide +kernel
theorem d5y_142 : decode prog_63_method_5_code 142 = .ok (.iload_n 3, 1) := by decide +kernel
theorem d5y_143 : decode prog_63_method_5_code 143 = .ok (.aload_n 0, 1) := by decide +kernel
theorem d5y_144 : decode prog_63_method_5_code 144 = .ok (.getfield 7, 3) := by decide +kernel
theorem d5y_147 : decode prog_63_method_5_code 147 = .ok (.iload 4, 2) := by decide +kernel
theorem d5y_149 : decode prog_63_method_5_code 149 = .ok (.iaload, 1) := by decide +kernel
theorem d5y_150 : decode prog_63_method_5_code 150 = .ok (.iastore, 1) := by decide +kernel
theorem d5y_151 : decode prog_63_method_5_code 151 = .ok (.aload_n 0, 1) := by decide +kernel
theorem d5y_152 : decode prog_63_method_5_code 152 = .ok (.getfield 13, 3) := by decide +kernel
theorem d5y_155 : decode prog_63_method_5_code 155 = .ok (.iload_n 3, 1) := by decide +kernel
theorem d5y_156 : decode prog_63_method_5_code 156 = .ok (.aload_n 0, 1) := by decide +kernel
theorem d5y_157 : decode prog_63_method_5_code 157 = .ok (.getfield 13, 3) := by decide +kernel
theorem d5y_160 : decode prog_63_method_5_code 160 = .ok (.iload 4, 2) := by decide +kernel
theorem d5y_162 : decode prog_63_method_5_code 162 = .ok (.iaload, 1) := by decide +kernel
theorem d5y_163 : decode prog_63_method_5_code 163 = .ok (.iastore, 1) := by decide +kernel
theorem d5y_164 : decode prog_63_method_5_code 164 = .ok (.iload 4, 2) := by decide +kernel
theorem d5y_166 : decode prog_63_method_5_code 166 = .ok (.istore_n 3, 1) := by decide +kernel
theorem d5y_167 : decode prog_63_method_5_code 167 = .ok (.aload_n 0, 1) := by decide +kernel
theorem d5y_168 : decode prog_63_method_5_code 168 = .ok (.iload 4, 2) := by decide +kernel
theorem d5y_170 : decode prog_63_method_5_code 170 = .ok (.invokevirtual 20, 3) := by decide +kernel
theorem d5y_173 : decode prog_63_method_5_code 173 = .ok (.istore 4, 2) := by decide +kernel
theorem d5y_175 : decode prog_63_method_5_code 175 = .ok (.goto (-112), 3) := by decide +kernel
theorem d5y_178 : decode prog_63_method_5_code 178 = .ok (.aload_n 0, 1) := by decide +kernel
theorem d5y_179 : decode prog_63_method_5_code 179 = .ok (.getfield 13, 3) := by decide +kernel
theorem d5y_182 : decode prog_63_method_5_code 182 = .ok (.iload_n 3, 1) := by decide +kernel
theorem d5y_183 : decode prog_63_method_5_code 183 = .ok (.iconst 0, 1) := by decide +kernel
theorem d5y_184 : decode prog_63_method_5_code 184 = .ok (.iastore, 1) := by decide +kernel
theorem d5y_185 : decode prog_63_method_5_code 185 = .ok (.return_, 1) := by decide +kernel
theorem pn_5y : plainName "com/example/sigpoint/sigpoint/IntIndex" = true := by first | (simp [plainName, overriddenIn]; done) | decide +kernel
theorem pd_5y_0 : parseMethodDescriptor "(I)I" = some ⟨[.int], some .int⟩ := by decide +kernel
theorem ef_5y (m : MethodId) (x0 : Addr) (x1 : Int32) : entryFrame m #[(.ref x0), (.int x1)] 7 = mkF m 0 #[.val (.ref x0), .val (.int x1), .unset, .unset, .unset, .unset, .unset] [] := by first | (simp [entryFrame, mkF, argsToLocals, Value.category]; done) | rfl
def Q5y (Z : State) (ob : Addr) (xk : Int32) (ka : Addr) (va : Addr) (kf : Nat → Int32) (vf : Nat → Int32) (sz : Int32) (tt : Nat) (uu : Nat) (h0 : Heap) (n0 : Nat) (v : Option Value) (h : Heap) (L : List Loc) : Prop := v = none ∧ Fr n0 L ∧ Keep h0 h [ob, ka, va] ∧ (Exa Z h ob "com/example/sigpoint/sigpoint/IntIndex") ∧ (Fld Z h ob "com/example/sigpoint/sigpoint/IntIndex" "keys" "[I" (.ref ka)) ∧ (Fld Z h ob "com/example/sigpoint/sigpoint/IntIndex" "values" "[I" (.ref va)) ∧ (own_Ai Z h ka .int 16 (own_lp uu kf vf ((own_H xk + tt) % 16) ((((own_H xk + tt) % 16) + 1) % 16)).1) ∧ (own_Ai Z h va .int 16 (own_lp uu kf vf ((own_H xk + tt) % 16) ((((own_H xk + tt) % 16) + 1) % 16)).2)
set_option maxRecDepth 65536 in
set_option maxHeartbeats 40000000 in
theorem rm5y (l : Launch) (Z : State) (a0 : Array Value) (hw : ∀ d ∈ tables_1, d.before a0 Z = true) (ws : List Jvm.Cond) (ob : Addr) (xk : Int32) (ka : Addr) (va : Addr) (kf : Nat → Int32) (vf : Nat → Int32) (sz : Int32) (tt : Nat) (uu : Nat) (h0 : Heap) (n0 : Nat) (Z0 : n0 ≤ h0.size) (E1 : Exa Z h0 ob "com/example/sigpoint/sigpoint/IntIndex") (F1 : Fld Z h0 ob "com/example/sigpoint/sigpoint/IntIndex" "keys" "[I" (.ref ka)) (F2 : Fld Z h0 ob "com/example/sigpoint/sigpoint/IntIndex" "values" "[I" (.ref va)) (F3 : Fld Z h0 ob "com/example/sigpoint/sigpoint/IntIndex" "size" "I" (.int sz)) (A1 : own_Ai Z h0 ka .int 16 kf) (A2 : own_Ai Z h0 va .int 16 vf) (G1 : n0 ≤ ob) (G2 : n0 ≤ ka) (G3 : n0 ≤ va) (NE1 : ka ≠ va) (NE2 : ob ≠ ka) (NE3 : ob ≠ va) (T1 : tt < 16) (PR : own_Pr kf vf xk tt) (HV : vf ((own_H xk + tt) % 16) ≠ 0) (HK : kf ((own_H xk + tt) % 16) = xk) (RN : own_rn uu kf vf ((own_H xk + tt) % 16) ((((own_H xk + tt) % 16) + 1) % 16)) :
    MetFree l (⟨"com/example/sigpoint/sigpoint/IntIndex", "remove", "(I)V"⟩ : MethodName) (head1 (Jvm.Cond.code (⟨"com/example/sigpoint/sigpoint/IntIndex", "remove", "(I)V"⟩ : MethodName) prog_63_method_5_code 7 none :: ws) ({ frames := 1, cells := 0, slots := 0, locals := 20 } : Room)) (fun a U => a = #[(.ref ob), (.int xk)] ∧ Z.Warmed39 U.vm ∧ U.heap = h0) (fun _ _ _ _ _ => True) (fun _ U o U' => ∃ v L, o = .returned v ∧ Q5y Z ob xk ka va kf vf sz tt uu h0 n0 v U'.heap L ∧ FrameEnd U o U' L ({ frames := 1, cells := 0, slots := 0, locals := 20 } : Room).cells ({ frames := 1, cells := 0, slots := 0, locals := 20 } : Room).slots) := by
  refine MetFree.of_bodySF (plainFor_of_name pn_5y) hisR ?_
  intro p e s m args below meth c s₁ Bd hml0 hP hK
  obtain ⟨rfl, hZ, hh⟩ := hP
  have hx := Bd.exec
  have hby := Bd.bytes
  have hlk : meth.locks = false := BodyLoose.notSynchronized Bd
  have hml : c.maxLocals = 7 := hml0
  have hown : s.vm.findClass "com/example/sigpoint/sigpoint/IntIndex" = some m.cls := findClass_of_methodNamed Bd.named
  have hnm := (name_of_methodNamed Bd.named Bd.method).1
  have X0 : Stand p l e ({ frames := 1, cells := 0, slots := 0, locals := 20 } : Room) s m #[(.ref ob), (.int xk)] below meth c s₁ [] 0 0 := Stand.of_body Bd
  have e0 : s₁.heap = h0 := by rw [← hh, Bd.state]; rfl
  have N0 := Fr.nil n0
  have K0 : Keep h0 h0 [ob, ka, va] := Keep.refl _ _
  show own_Go p e below (own_G s (Q5y Z ob xk ka va kf vf sz tt uu h0 n0) ({ frames := 1, cells := 0, slots := 0, locals := 20 } : Room).cells ({ frames := 1, cells := 0, slots := 0, locals := 20 } : Room).slots) (s₁.setTop (entryFrame m #[(.ref ob), (.int xk)] 7))
  refine own_st (fun tgt k => castTop (ef_5y m ob xk) k) ?_
  show own_Go p e below _ (s₁.setTop (mkF m 0 #[.val (.ref ob), .val (.int xk), .unset, .unset, .unset, .unset, .unset] []))
  refine own_st (V := s₁.setTop (mkF m 2 #[.val (.ref ob), .val (.int xk), .unset, .unset, .unset, .unset, .unset] [(.int xk), (.ref ob)])) (fun tgt k => ?_) ?_
  · show Steps p.tables e below (s₁.setTop (mkF m 0 #[.val (.ref ob), .val (.int xk), .unset, .unset, .unset, .unset, .unset] [])) tgt
    refine XS.aloadN X0.here hx rfl (hb hby d5y_0) rfl rfl ?_
    show Steps p.tables e below (s₁.setTop (mkF m 1 #[.val (.ref ob), .val (.int xk), .unset, .unset, .unset, .unset, .unset] [(.ref ob)])) tgt
    refine XS.iloadN X0.here hx rfl (hb hby d5y_1) rfl ?_
    exact k
  obtain ⟨cq1, q1, q1'⟩ := E1.cell
  obtain ⟨v1, _, ⟨T1, L1, k1, n1⟩, -, Xc1, ⟨Lc1, hQ1, l1, y1, z1⟩, st1⟩ := X0.privateBack hx (y := (⟨"com/example/sigpoint/sigpoint/IntIndex", "home", "(I)I"⟩ : MethodName)) hown (mvT hZ (hw _ (List.mem_of_getElem? (i := 21) rfl))) (mvT hZ (hw _ (List.mem_of_getElem? (i := 22) rfl))) (own_selp (y := (⟨"com/example/sigpoint/sigpoint/IntIndex", "home", "(I)I"⟩ : MethodName)) hZ (hw _ (List.mem_of_getElem? (i := 1) rfl)) (hw _ (List.mem_of_getElem? (i := 23) rfl)) (hw _ (List.mem_of_getElem? (i := 22) rfl)) (by decide)) (Cond.privateMethod_at (mvP hZ (hw _ (List.mem_of_getElem? (i := 23) rfl)) (args := #[]))) (mvT hZ (hw _ (List.mem_of_getElem? (i := 24) rfl))) (by decide) (backOf (W := 0) (rm4 l Z a0 hw [] ob xk ka kf h0 n0 Z0 F1 A1) hZ (hw _ (List.mem_of_getElem? (i := 24) rfl)) (hw _ (List.mem_of_getElem? (i := 2) rfl)) (by decide) (by decide)) (g := (mkF m 2 #[.val (.ref ob), .val (.int xk), .unset, .unset, .unset, .unset, .unset] [(.int xk), (.ref ob)])) rfl (by rw [hml]; rfl) (Steps.refl _) (a := ob) (by rw [e0]; exact q1) q1' (argsL := [(.int xk)]) (rest := []) (lenOf pd_5y_0 rfl) rfl (by show 2 * 0 + _ ≤ _; exact Nat.le_of_eq rfl) (hb hby d5y_2) (fun _ _ => ⟨rfl, e0, (by decide : 0 + 0 ≤ _), (by decide : 0 + 0 ≤ _)⟩)
  dsimp only [Pt.U, Pt.locs, Pt.cells, Pt.slots] at Xc1 l1 y1 z1 st1 hQ1
  have X1 := own_cast Xc1 l1 y1 z1
  obtain ⟨ev1, N1q, K1⟩ := hQ1
  rw [ev1] at st1
  have N1 := Fr.app N0 N1q
  refine own_st (fun tgt k => st1.trans k) ?_
  show own_Go p e below _ (T1.setTop (mkF m 5 #[.val (.ref ob), .val (.int xk), .unset, .unset, .unset, .unset, .unset] [(.int (own_hx xk))]))
  refine own_st (V := T1.setTop (mkF m 6 #[.val (.ref ob), .val (.int xk), .val (.int (own_hx xk)), .unset, .unset, .unset, .unset] [])) (fun tgt k => ?_) ?_
  · show Steps p.tables e below (T1.setTop (mkF m 5 #[.val (.ref ob), .val (.int xk), .unset, .unset, .unset, .unset, .unset] [(.int (own_hx xk))])) tgt
    refine XS.istoreN X1.here hx rfl (hb hby d5y_5) rfl (l' := #[.val (.ref ob), .val (.int xk), .val (.int (own_hx xk)), .unset, .unset, .unset, .unset]) rfl ?_
    exact k
  have loop : ∀ (n i : Nat) (T : State) (locs : List Loc) (cs ss : Nat) (sv : Int32), i + n = tt → cs = 0 → ss = 0 → Stand p l e ({ frames := 1, cells := 0, slots := 0, locals := 20 } : Room) s m #[(.ref ob), (.int xk)] below meth c T locs cs ss → T.heap = h0 → Fr n0 locs → sv.toInt = (((own_H xk + i) % 16 : Nat) : Int) → own_Go p e below (own_G s (Q5y Z ob xk ka va kf vf sz tt uu h0 n0) ({ frames := 1, cells := 0, slots := 0, locals := 20 } : Room).cells ({ frames := 1, cells := 0, slots := 0, locals := 20 } : Room).slots) (T.setTop (mkF m 6 #[.val (.ref ob), .val (.int xk), .val (.int sv), .unset, .unset, .unset, .unset] [])) := by
    intro n
    induction n with
    | zero =>
      intro i T1 locs1 cs ss sv hi hcs hss X1 e1 N1 hsv
      have hi' : tt = i := by omega
      subst hi'
      refine own_st (V := T1.setTop (mkF m 7 #[.val (.ref ob), .val (.int xk), .val (.int sv), .unset, .unset, .unset, .unset] [(.ref ob)])) (fun tgt k => ?_) ?_
      · show Steps p.tables e below (T1.setTop (mkF m 6 #[.val (.ref ob), .val (.int xk), .val (.int sv), .unset, .unset, .unset, .unset] [])) tgt
        refine XS.aloadN X1.here hx rfl (hb hby d5y_6) rfl rfl ?_
        exact k
      obtain ⟨T2, X2, e2, st2⟩ := getF X1 hx hZ hown (host := "") (Or.inl (hw _ (List.mem_of_getElem? (i := 12) rfl))) Via.refl e1 F2 (g := (mkF m 7 #[.val (.ref ob), .val (.int xk), .val (.int sv), .unset, .unset, .unset, .unset] [(.ref ob)])) rfl rfl (hb hby d5y_7)
      refine own_st st2 ?_
      show own_Go p e below _ (T2.setTop (mkF m 10 #[.val (.ref ob), .val (.int xk), .val (.int sv), .unset, .unset, .unset, .unset] [(.ref va)]))
      refine own_st (V := T2.setTop (mkF m 16 #[.val (.ref ob), .val (.int xk), .val (.int sv), .unset, .unset, .unset, .unset] [(.ref ob)])) (fun tgt k => ?_) ?_
      · show Steps p.tables e below (T2.setTop (mkF m 10 #[.val (.ref ob), .val (.int xk), .val (.int sv), .unset, .unset, .unset, .unset] [(.ref va)])) tgt
        refine XS.iloadN X2.here hx rfl (hb hby d5y_10) rfl ?_
        show Steps p.tables e below (T2.setTop (mkF m 11 #[.val (.ref ob), .val (.int xk), .val (.int sv), .unset, .unset, .unset, .unset] [(.int sv), (.ref va)])) tgt
        refine own_iaload X2 hx hZ e2 A2 (j := sv) (k := ((own_H xk + tt) % 16)) hsv (Nat.mod_lt _ (by decide)) (g := (mkF m 11 #[.val (.ref ob), .val (.int xk), .val (.int sv), .unset, .unset, .unset, .unset] [(.int sv), (.ref va)])) rfl rfl (hb hby d5y_11) ?_
        show Steps p.tables e below (T2.setTop (mkF m 12 #[.val (.ref ob), .val (.int xk), .val (.int sv), .unset, .unset, .unset, .unset] [(.int (vf ((own_H xk + tt) % 16)))])) tgt
        refine XS.ifNo X2.here hx rfl (hb hby d5y_12) rfl ((if0 _ _).trans (feq HV).1) ?_
        show Steps p.tables e below (T2.setTop (mkF m 15 #[.val (.ref ob), .val (.int xk), .val (.int sv), .unset, .unset, .unset, .unset] [])) tgt
        refine XS.aloadN X2.here hx rfl (hb hby d5y_15) rfl rfl ?_
        exact k
      obtain ⟨T3, X3, e3, st3⟩ := getF X2 hx hZ hown (host := "") (Or.inl (hw _ (List.mem_of_getElem? (i := 10) rfl))) Via.refl e2 F1 (g := (mkF m 16 #[.val (.ref ob), .val (.int xk), .val (.int sv), .unset, .unset, .unset, .unset] [(.ref ob)])) rfl rfl (hb hby d5y_16)
      refine own_st st3 ?_
      show own_Go p e below _ (T3.setTop (mkF m 19 #[.val (.ref ob), .val (.int xk), .val (.int sv), .unset, .unset, .unset, .unset] [(.ref ka)]))
      refine own_st (V := T3.setTop (mkF m 35 #[.val (.ref ob), .val (.int xk), .val (.int sv), .unset, .unset, .unset, .unset] [(.ref ob)])) (fun tgt k => ?_) ?_
      · show Steps p.tables e below (T3.setTop (mkF m 19 #[.val (.ref ob), .val (.int xk), .val (.int sv), .unset, .unset, .unset, .unset] [(.ref ka)])) tgt
        refine XS.iloadN X3.here hx rfl (hb hby d5y_19) rfl ?_
        show Steps p.tables e below (T3.setTop (mkF m 20 #[.val (.ref ob), .val (.int xk), .val (.int sv), .unset, .unset, .unset, .unset] [(.int sv), (.ref ka)])) tgt
        refine own_iaload X3 hx hZ e3 A1 (j := sv) (k := ((own_H xk + tt) % 16)) hsv (Nat.mod_lt _ (by decide)) (g := (mkF m 20 #[.val (.ref ob), .val (.int xk), .val (.int sv), .unset, .unset, .unset, .unset] [(.int sv), (.ref ka)])) rfl rfl (hb hby d5y_20) ?_
        show Steps p.tables e below (T3.setTop (mkF m 21 #[.val (.ref ob), .val (.int xk), .val (.int sv), .unset, .unset, .unset, .unset] [(.int (kf ((own_H xk + tt) % 16)))])) tgt
        refine XS.iloadN X3.here hx rfl (hb hby d5y_21) rfl ?_
        show Steps p.tables e below (T3.setTop (mkF m 22 #[.val (.ref ob), .val (.int xk), .val (.int sv), .unset, .unset, .unset, .unset] [(.int xk), (.int (kf ((own_H xk + tt) % 16)))])) tgt
        refine XS.icmpYes X3.here hx rfl (pc0 := 22) (pc' := 34) rfl (hb hby d5y_22) rfl (teq HK).1 (by decide) (by decide) ?_
        show Steps p.tables e below (T3.setTop (mkF m 34 #[.val (.ref ob), .val (.int xk), .val (.int sv), .unset, .unset, .unset, .unset] [])) tgt
        refine XS.aloadN X3.here hx rfl (hb hby d5y_34) rfl rfl ?_
        exact k
      obtain ⟨T4, X4, e4, st4⟩ := getF X3 hx hZ hown (host := "") (Or.inl (hw _ (List.mem_of_getElem? (i := 12) rfl))) Via.refl e3 F2 (g := (mkF m 35 #[.val (.ref ob), .val (.int xk), .val (.int sv), .unset, .unset, .unset, .unset] [(.ref ob)])) rfl rfl (hb hby d5y_35)
      refine own_st st4 ?_
      show own_Go p e below _ (T4.setTop (mkF m 38 #[.val (.ref ob), .val (.int xk), .val (.int sv), .unset, .unset, .unset, .unset] [(.ref va)]))
      refine own_st (V := T4.setTop (mkF m 46 #[.val (.ref ob), .val (.int xk), .val (.int sv), .unset, .unset, .unset, .unset] [(.ref ob), (.ref ob)])) (fun tgt k => ?_) ?_
      · show Steps p.tables e below (T4.setTop (mkF m 38 #[.val (.ref ob), .val (.int xk), .val (.int sv), .unset, .unset, .unset, .unset] [(.ref va)])) tgt
        refine XS.iloadN X4.here hx rfl (hb hby d5y_38) rfl ?_
        show Steps p.tables e below (T4.setTop (mkF m 39 #[.val (.ref ob), .val (.int xk), .val (.int sv), .unset, .unset, .unset, .unset] [(.int sv), (.ref va)])) tgt
        refine own_iaload X4 hx hZ e4 A2 (j := sv) (k := ((own_H xk + tt) % 16)) hsv (Nat.mod_lt _ (by decide)) (g := (mkF m 39 #[.val (.ref ob), .val (.int xk), .val (.int sv), .unset, .unset, .unset, .unset] [(.int sv), (.ref va)])) rfl rfl (hb hby d5y_39) ?_
        show Steps p.tables e below (T4.setTop (mkF m 40 #[.val (.ref ob), .val (.int xk), .val (.int sv), .unset, .unset, .unset, .unset] [(.int (vf ((own_H xk + tt) % 16)))])) tgt
        refine XS.ifYes X4.here hx rfl (pc0 := 40) (pc' := 44) rfl (hb hby d5y_40) rfl ((if0 _ _).trans (feq HV).2) (by decide) (by decide) ?_
        show Steps p.tables e below (T4.setTop (mkF m 44 #[.val (.ref ob), .val (.int xk), .val (.int sv), .unset, .unset, .unset, .unset] [])) tgt
        refine XS.aloadN X4.here hx rfl (hb hby d5y_44) rfl rfl ?_
        show Steps p.tables e below (T4.setTop (mkF m 45 #[.val (.ref ob), .val (.int xk), .val (.int sv), .unset, .unset, .unset, .unset] [(.ref ob)])) tgt
        refine XS.dup X4.here hx rfl (hb hby d5y_45) rfl rfl ?_
        exact k
      obtain ⟨T5, X5, e5, st5⟩ := getF X4 hx hZ hown (host := "") (Or.inl (hw _ (List.mem_of_getElem? (i := 19) rfl))) Via.refl e4 F3 (g := (mkF m 46 #[.val (.ref ob), .val (.int xk), .val (.int sv), .unset, .unset, .unset, .unset] [(.ref ob), (.ref ob)])) rfl rfl (hb hby d5y_46)
      refine own_st st5 ?_
      show own_Go p e below _ (T5.setTop (mkF m 49 #[.val (.ref ob), .val (.int xk), .val (.int sv), .unset, .unset, .unset, .unset] [(.int sz), (.ref ob)]))
      refine own_st (V := T5.setTop (mkF m 51 #[.val (.ref ob), .val (.int xk), .val (.int sv), .unset, .unset, .unset, .unset] [(.int (sz - (1 : Int32))), (.ref ob)])) (fun tgt k => ?_) ?_
      · show Steps p.tables e below (T5.setTop (mkF m 49 #[.val (.ref ob), .val (.int xk), .val (.int sv), .unset, .unset, .unset, .unset] [(.int sz), (.ref ob)])) tgt
        refine XS.iconst X5.here hx rfl (hb hby d5y_49) ?_
        show Steps p.tables e below (T5.setTop (mkF m 50 #[.val (.ref ob), .val (.int xk), .val (.int sv), .unset, .unset, .unset, .unset] [(.int (1 : Int32)), (.int sz), (.ref ob)])) tgt
        refine XS.isub X5.here hx rfl (hb hby d5y_50) rfl ?_
        exact k
      obtain ⟨T6, h6, X6, e6, W6, st6⟩ := putF X5 hx hZ hown (host := "") (Or.inl (hw _ (List.mem_of_getElem? (i := 19) rfl))) Via.refl e5 F3 E1 (Or.inl (hw _ (List.mem_of_getElem? (i := 20) rfl))) (hw _ (List.mem_of_getElem? (i := 1) rfl)) (ty := .int) (by decide) rfl rfl (g := (mkF m 51 #[.val (.ref ob), .val (.int xk), .val (.int sv), .unset, .unset, .unset, .unset] [(.int (sz - (1 : Int32))), (.ref ob)])) rfl rfl (hb hby d5y_51)
      have E_ob_6 := E1.wr W6
      have F_ob_keys_6 := Fld.other W6 F1 (Or.inr (slot_ne (Or.inl (hw _ (List.mem_of_getElem? (i := 11) rfl))) (Or.inl (hw _ (List.mem_of_getElem? (i := 20) rfl))) (by decide) (t := (.array .int)) (t' := .int) (by decide) (by decide)))
      have F_ob_values_6 := Fld.other W6 F2 (Or.inr (slot_ne (Or.inl (hw _ (List.mem_of_getElem? (i := 13) rfl))) (Or.inl (hw _ (List.mem_of_getElem? (i := 20) rfl))) (by decide) (t := (.array .int)) (t' := .int) (by decide) (by decide)))
      have A_ka_6 := A1.other W6 (Ne.symm NE2)
      have A_va_6 := A2.other W6 (Ne.symm NE3)
      have F_ob_size_6 := Fld.same W6 F3
      have N6 := Fr.snoc X6 N1 G1
      have Zs6 : n0 ≤ h6.size := Nat.le_trans Z0 (Keep.of_wr W6).1
      have Kp6 := K0.wr W6 (Or.inl (List.mem_of_getElem? (i := 0) rfl))
      refine own_st st6 ?_
      show own_Go p e below _ (T6.setTop (mkF m 54 #[.val (.ref ob), .val (.int xk), .val (.int sv), .unset, .unset, .unset, .unset] []))
      refine own_st (V := T6.setTop (mkF m 58 #[.val (.ref ob), .val (.int xk), .val (.int sv), .val (.int sv), .unset, .unset, .unset] [(.int sv), (.ref ob)])) (fun tgt k => ?_) ?_
      · show Steps p.tables e below (T6.setTop (mkF m 54 #[.val (.ref ob), .val (.int xk), .val (.int sv), .unset, .unset, .unset, .unset] [])) tgt
        refine XS.iloadN X6.here hx rfl (hb hby d5y_54) rfl ?_
        show Steps p.tables e below (T6.setTop (mkF m 55 #[.val (.ref ob), .val (.int xk), .val (.int sv), .unset, .unset, .unset, .unset] [(.int sv)])) tgt
        refine XS.istoreN X6.here hx rfl (hb hby d5y_55) rfl (l' := #[.val (.ref ob), .val (.int xk), .val (.int sv), .val (.int sv), .unset, .unset, .unset]) rfl ?_
        show Steps p.tables e below (T6.setTop (mkF m 56 #[.val (.ref ob), .val (.int xk), .val (.int sv), .val (.int sv), .unset, .unset, .unset] [])) tgt
        refine XS.aloadN X6.here hx rfl (hb hby d5y_56) rfl rfl ?_
        show Steps p.tables e below (T6.setTop (mkF m 57 #[.val (.ref ob), .val (.int xk), .val (.int sv), .val (.int sv), .unset, .unset, .unset] [(.ref ob)])) tgt
        refine XS.iloadN X6.here hx rfl (hb hby d5y_57) rfl ?_
        exact k
      obtain ⟨cq7, q7, q7'⟩ := E_ob_6.cell
      obtain ⟨v7, _, ⟨T7, L7, k7, n7⟩, -, Xc7, ⟨Lc7, hQ7, l7, y7, z7⟩, st7⟩ := X6.privateBack hx (y := (⟨"com/example/sigpoint/sigpoint/IntIndex", "next", "(I)I"⟩ : MethodName)) hown (mvT hZ (hw _ (List.mem_of_getElem? (i := 31) rfl))) (mvT hZ (hw _ (List.mem_of_getElem? (i := 32) rfl))) (own_selp (y := (⟨"com/example/sigpoint/sigpoint/IntIndex", "next", "(I)I"⟩ : MethodName)) hZ (hw _ (List.mem_of_getElem? (i := 1) rfl)) (hw _ (List.mem_of_getElem? (i := 33) rfl)) (hw _ (List.mem_of_getElem? (i := 32) rfl)) (by decide)) (Cond.privateMethod_at (mvP hZ (hw _ (List.mem_of_getElem? (i := 33) rfl)) (args := #[]))) (mvT hZ (hw _ (List.mem_of_getElem? (i := 34) rfl))) (by decide) (backOf (W := 0) (rm6 l Z a0 hw [] ob sv ka kf h6 n0 Zs6 F_ob_keys_6 A_ka_6) hZ (hw _ (List.mem_of_getElem? (i := 34) rfl)) (hw _ (List.mem_of_getElem? (i := 2) rfl)) (by decide) (by decide)) (g := (mkF m 58 #[.val (.ref ob), .val (.int xk), .val (.int sv), .val (.int sv), .unset, .unset, .unset] [(.int sv), (.ref ob)])) rfl (by rw [hml]; rfl) (Steps.refl _) (a := ob) (by rw [e6]; exact q7) q7' (argsL := [(.int sv)]) (rest := []) (lenOf pd_5y_0 rfl) rfl (by show 2 * 0 + _ ≤ _; exact Nat.le_of_eq rfl) (hb hby d5y_58) (fun _ _ => ⟨rfl, e6, (own_z0 (by omega : cs + 0 = 0)), (own_z0 (by omega : ss + 0 = 0))⟩)
      dsimp only [Pt.U, Pt.locs, Pt.cells, Pt.slots] at Xc7 l7 y7 z7 st7 hQ7
      have X7 := own_cast Xc7 l7 y7 z7
      obtain ⟨ev7, N7q, K7⟩ := hQ7
      rw [ev7] at st7
      have N7 := Fr.app N6 N7q
      refine own_st (fun tgt k => st7.trans k) ?_
      show own_Go p e below _ (T7.setTop (mkF m 61 #[.val (.ref ob), .val (.int xk), .val (.int sv), .val (.int sv), .unset, .unset, .unset] [(.int (own_nx sv))]))
      refine own_st (V := T7.setTop (mkF m 63 #[.val (.ref ob), .val (.int xk), .val (.int sv), .val (.int sv), .val (.int (own_nx sv)), .unset, .unset] [])) (fun tgt k => ?_) ?_
      · show Steps p.tables e below (T7.setTop (mkF m 61 #[.val (.ref ob), .val (.int xk), .val (.int sv), .val (.int sv), .unset, .unset, .unset] [(.int (own_nx sv))])) tgt
        refine XS.istore X7.here hx rfl (hb hby d5y_61) rfl (l' := #[.val (.ref ob), .val (.int xk), .val (.int sv), .val (.int sv), .val (.int (own_nx sv)), .unset, .unset]) rfl ?_
        exact k
      have loop2 : ∀ (n : Nat) (k2 v2 : Nat → Int32) (ho pr : Nat) (T : State) (h2 : Heap) (locs : List Loc) (cs ss : Nat) (hv pv : Int32) (s5 s6 : Slot), cs = 0 → ss = 0 → One s5 → One s6 → Stand p l e ({ frames := 1, cells := 0, slots := 0, locals := 20 } : Room) s m #[(.ref ob), (.int xk)] below meth c T locs cs ss → T.heap = h2 → Fr n0 locs → n0 ≤ h2.size → Keep h0 h2 [ob, ka, va] → Exa Z h2 ob "com/example/sigpoint/sigpoint/IntIndex" → Fld Z h2 ob "com/example/sigpoint/sigpoint/IntIndex" "keys" "[I" (.ref ka) → Fld Z h2 ob "com/example/sigpoint/sigpoint/IntIndex" "values" "[I" (.ref va) → own_Ai Z h2 ka .int 16 k2 → own_Ai Z h2 va .int 16 v2 → ho < 16 → pr < 16 → hv.toInt = (ho : Int) → pv.toInt = (pr : Int) → own_rn n k2 v2 ho pr → own_lp n k2 v2 ho pr = (own_lp uu kf vf ((own_H xk + tt) % 16) ((((own_H xk + tt) % 16) + 1) % 16)) → own_Go p e below (own_G s (Q5y Z ob xk ka va kf vf sz tt uu h0 n0) ({ frames := 1, cells := 0, slots := 0, locals := 20 } : Room).cells ({ frames := 1, cells := 0, slots := 0, locals := 20 } : Room).slots) (T.setTop (mkF m 63 #[.val (.ref ob), .val (.int xk), .val (.int sv), .val (.int hv), .val (.int pv), s5, s6] [])) := by
        intro n
        induction n with
        | zero =>
          intro k2 v2 ho pr T2 h2 locs2 cs2 ss2 hv pv s5 s6 hcs2 hss2 o5 o6 X2 e2 N2 Z2 Kp2 E2 Fk2 Fv2 Ak2 Av2 hho hpr hhv hpv hR hE
          have hz : v2 pr = 0 := hR
          refine own_st (V := T2.setTop (mkF m 64 #[.val (.ref ob), .val (.int xk), .val (.int sv), .val (.int hv), .val (.int pv), s5, s6] [(.ref ob)])) (fun tgt k => ?_) ?_
          · show Steps p.tables e below (T2.setTop (mkF m 63 #[.val (.ref ob), .val (.int xk), .val (.int sv), .val (.int hv), .val (.int pv), s5, s6] [])) tgt
            refine XS.aloadN X2.here hx rfl (hb hby d5y_63) rfl rfl ?_
            exact k
          obtain ⟨T8, X8, e8, st8⟩ := getF X2 hx hZ hown (host := "") (Or.inl (hw _ (List.mem_of_getElem? (i := 12) rfl))) Via.refl e2 Fv2 (g := (mkF m 64 #[.val (.ref ob), .val (.int xk), .val (.int sv), .val (.int hv), .val (.int pv), s5, s6] [(.ref ob)])) rfl rfl (hb hby d5y_64)
          refine own_st st8 ?_
          show own_Go p e below _ (T8.setTop (mkF m 67 #[.val (.ref ob), .val (.int xk), .val (.int sv), .val (.int hv), .val (.int pv), s5, s6] [(.ref va)]))
          refine own_st (V := T8.setTop (mkF m 179 #[.val (.ref ob), .val (.int xk), .val (.int sv), .val (.int hv), .val (.int pv), s5, s6] [(.ref ob)])) (fun tgt k => ?_) ?_
          · show Steps p.tables e below (T8.setTop (mkF m 67 #[.val (.ref ob), .val (.int xk), .val (.int sv), .val (.int hv), .val (.int pv), s5, s6] [(.ref va)])) tgt
            refine XS.iload X8.here hx rfl (hb hby d5y_67) rfl ?_
            show Steps p.tables e below (T8.setTop (mkF m 69 #[.val (.ref ob), .val (.int xk), .val (.int sv), .val (.int hv), .val (.int pv), s5, s6] [(.int pv), (.ref va)])) tgt
            refine own_iaload X8 hx hZ e8 Av2 (j := pv) (k := pr) hpv hpr (g := (mkF m 69 #[.val (.ref ob), .val (.int xk), .val (.int sv), .val (.int hv), .val (.int pv), s5, s6] [(.int pv), (.ref va)])) rfl rfl (hb hby d5y_69) ?_
            show Steps p.tables e below (T8.setTop (mkF m 70 #[.val (.ref ob), .val (.int xk), .val (.int sv), .val (.int hv), .val (.int pv), s5, s6] [(.int (v2 pr))])) tgt
            refine XS.ifYes X8.here hx rfl (pc0 := 70) (pc' := 178) rfl (hb hby d5y_70) rfl ((if0 _ _).trans (teq hz).1) (by decide) (by decide) ?_
            show Steps p.tables e below (T8.setTop (mkF m 178 #[.val (.ref ob), .val (.int xk), .val (.int sv), .val (.int hv), .val (.int pv), s5, s6] [])) tgt
            refine XS.aloadN X8.here hx rfl (hb hby d5y_178) rfl rfl ?_
            exact k
          obtain ⟨T9, X9, e9, st9⟩ := getF X8 hx hZ hown (host := "") (Or.inl (hw _ (List.mem_of_getElem? (i := 12) rfl))) Via.refl e8 Fv2 (g := (mkF m 179 #[.val (.ref ob), .val (.int xk), .val (.int sv), .val (.int hv), .val (.int pv), s5, s6] [(.ref ob)])) rfl rfl (hb hby d5y_179)
          refine own_st st9 ?_
          show own_Go p e below _ (T9.setTop (mkF m 182 #[.val (.ref ob), .val (.int xk), .val (.int sv), .val (.int hv), .val (.int pv), s5, s6] [(.ref va)]))
          refine own_st (V := T9.setTop (mkF m 184 #[.val (.ref ob), .val (.int xk), .val (.int sv), .val (.int hv), .val (.int pv), s5, s6] [(.int (0 : Int32)), (.int hv), (.ref va)])) (fun tgt k => ?_) ?_
          · show Steps p.tables e below (T9.setTop (mkF m 182 #[.val (.ref ob), .val (.int xk), .val (.int sv), .val (.int hv), .val (.int pv), s5, s6] [(.ref va)])) tgt
            refine XS.iloadN X9.here hx rfl (hb hby d5y_182) rfl ?_
            show Steps p.tables e below (T9.setTop (mkF m 183 #[.val (.ref ob), .val (.int xk), .val (.int sv), .val (.int hv), .val (.int pv), s5, s6] [(.int hv), (.ref va)])) tgt
            refine XS.iconst X9.here hx rfl (hb hby d5y_183) ?_
            exact k
          obtain ⟨T10, h10, X10, e10, W10, A_va_10, st10⟩ := own_iastore X9 hx hZ e9 Av2 (j := hv) (k := ho) hhv hho (g := (mkF m 184 #[.val (.ref ob), .val (.int xk), .val (.int sv), .val (.int hv), .val (.int pv), s5, s6] [(.int (0 : Int32)), (.int hv), (.ref va)])) rfl rfl (hb hby d5y_184)
          have E_ob_10 := E2.wr W10
          have F_ob_keys_10 := Fld.other W10 Fk2 (Or.inl NE3)
          have F_ob_values_10 := Fld.other W10 Fv2 (Or.inl NE3)
          have A_ka_10 := Ak2.other W10 NE1
          have N10 := Fr.snoc X10 N2 G3
          have Zs10 : n0 ≤ h10.size := Nat.le_trans Z2 (Keep.of_wr W10).1
          have Kp10 := Kp2.wr W10 (Or.inl (List.mem_of_getElem? (i := 2) rfl))
          refine own_st st10 ?_
          show own_Go p e below _ (T10.setTop (mkF m 185 #[.val (.ref ob), .val (.int xk), .val (.int sv), .val (.int hv), .val (.int pv), s5, s6] []))
          refine own_ret0 X10 hx hlk Bd.returns (hb hby d5y_185) ?_ (own_z0 (by omega : cs2 = 0)) (own_z0 (by omega : ss2 = 0))
          show Q5y Z ob xk ka va kf vf sz tt uu h0 n0 none T10.heap _
          rw [e10]
          exact ⟨rfl, N10, Kp10, E_ob_10, F_ob_keys_10, F_ob_values_10, (by rw [← hE, own_lp_0]; exact A_ka_10), (by rw [← hE, own_lp_0]; exact A_va_10)⟩
        | succ n ih2 =>
          intro k2 v2 ho pr T2 h2 locs2 cs2 ss2 hv pv s5 s6 hcs2 hss2 o5 o6 X2 e2 N2 Z2 Kp2 E2 Fk2 Fv2 Ak2 Av2 hho hpr hhv hpv hR hE
          refine own_st (V := T2.setTop (mkF m 64 #[.val (.ref ob), .val (.int xk), .val (.int sv), .val (.int hv), .val (.int pv), s5, s6] [(.ref ob)])) (fun tgt k => ?_) ?_
          · show Steps p.tables e below (T2.setTop (mkF m 63 #[.val (.ref ob), .val (.int xk), .val (.int sv), .val (.int hv), .val (.int pv), s5, s6] [])) tgt
            refine XS.aloadN X2.here hx rfl (hb hby d5y_63) rfl rfl ?_
            exact k
          obtain ⟨T12, X12, e12, st12⟩ := getF X2 hx hZ hown (host := "") (Or.inl (hw _ (List.mem_of_getElem? (i := 12) rfl))) Via.refl e2 Fv2 (g := (mkF m 64 #[.val (.ref ob), .val (.int xk), .val (.int sv), .val (.int hv), .val (.int pv), s5, s6] [(.ref ob)])) rfl rfl (hb hby d5y_64)
          refine own_st st12 ?_
          show own_Go p e below _ (T12.setTop (mkF m 67 #[.val (.ref ob), .val (.int xk), .val (.int sv), .val (.int hv), .val (.int pv), s5, s6] [(.ref va)]))
          refine own_st (V := T12.setTop (mkF m 75 #[.val (.ref ob), .val (.int xk), .val (.int sv), .val (.int hv), .val (.int pv), s5, s6] [(.ref ob), (.ref ob)])) (fun tgt k => ?_) ?_
          · show Steps p.tables e below (T12.setTop (mkF m 67 #[.val (.ref ob), .val (.int xk), .val (.int sv), .val (.int hv), .val (.int pv), s5, s6] [(.ref va)])) tgt
            refine XS.iload X12.here hx rfl (hb hby d5y_67) rfl ?_
            show Steps p.tables e below (T12.setTop (mkF m 69 #[.val (.ref ob), .val (.int xk), .val (.int sv), .val (.int hv), .val (.int pv), s5, s6] [(.int pv), (.ref va)])) tgt
            refine own_iaload X12 hx hZ e12 Av2 (j := pv) (k := pr) hpv hpr (g := (mkF m 69 #[.val (.ref ob), .val (.int xk), .val (.int sv), .val (.int hv), .val (.int pv), s5, s6] [(.int pv), (.ref va)])) rfl rfl (hb hby d5y_69) ?_
            show Steps p.tables e below (T12.setTop (mkF m 70 #[.val (.ref ob), .val (.int xk), .val (.int sv), .val (.int hv), .val (.int pv), s5, s6] [(.int (v2 pr))])) tgt
            refine XS.ifNo X12.here hx rfl (hb hby d5y_70) rfl ((if0 _ _).trans (feq hR.1).1) ?_
            show Steps p.tables e below (T12.setTop (mkF m 73 #[.val (.ref ob), .val (.int xk), .val (.int sv), .val (.int hv), .val (.int pv), s5, s6] [])) tgt
            refine XS.aloadN X12.here hx rfl (hb hby d5y_73) rfl rfl ?_
            show Steps p.tables e below (T12.setTop (mkF m 74 #[.val (.ref ob), .val (.int xk), .val (.int sv), .val (.int hv), .val (.int pv), s5, s6] [(.ref ob)])) tgt
            refine XS.aloadN X12.here hx rfl (hb hby d5y_74) rfl rfl ?_
            exact k
          obtain ⟨T13, X13, e13, st13⟩ := getF X12 hx hZ hown (host := "") (Or.inl (hw _ (List.mem_of_getElem? (i := 10) rfl))) Via.refl e12 Fk2 (g := (mkF m 75 #[.val (.ref ob), .val (.int xk), .val (.int sv), .val (.int hv), .val (.int pv), s5, s6] [(.ref ob), (.ref ob)])) rfl rfl (hb hby d5y_75)
          refine own_st st13 ?_
          show own_Go p e below _ (T13.setTop (mkF m 78 #[.val (.ref ob), .val (.int xk), .val (.int sv), .val (.int hv), .val (.int pv), s5, s6] [(.ref ka), (.ref ob)]))
          refine own_st (V := T13.setTop (mkF m 81 #[.val (.ref ob), .val (.int xk), .val (.int sv), .val (.int hv), .val (.int pv), s5, s6] [(.int (k2 pr)), (.ref ob)])) (fun tgt k => ?_) ?_
          · show Steps p.tables e below (T13.setTop (mkF m 78 #[.val (.ref ob), .val (.int xk), .val (.int sv), .val (.int hv), .val (.int pv), s5, s6] [(.ref ka), (.ref ob)])) tgt
            refine XS.iload X13.here hx rfl (hb hby d5y_78) rfl ?_
            show Steps p.tables e below (T13.setTop (mkF m 80 #[.val (.ref ob), .val (.int xk), .val (.int sv), .val (.int hv), .val (.int pv), s5, s6] [(.int pv), (.ref ka), (.ref ob)])) tgt
            refine own_iaload X13 hx hZ e13 Ak2 (j := pv) (k := pr) hpv hpr (g := (mkF m 80 #[.val (.ref ob), .val (.int xk), .val (.int sv), .val (.int hv), .val (.int pv), s5, s6] [(.int pv), (.ref ka), (.ref ob)])) rfl rfl (hb hby d5y_80) ?_
            exact k
          obtain ⟨cq14, q14, q14'⟩ := E2.cell
          obtain ⟨v14, _, ⟨T14, L14, k14, n14⟩, -, Xc14, ⟨Lc14, hQ14, l14, y14, z14⟩, st14⟩ := X13.privateBack hx (y := (⟨"com/example/sigpoint/sigpoint/IntIndex", "home", "(I)I"⟩ : MethodName)) hown (mvT hZ (hw _ (List.mem_of_getElem? (i := 21) rfl))) (mvT hZ (hw _ (List.mem_of_getElem? (i := 22) rfl))) (own_selp (y := (⟨"com/example/sigpoint/sigpoint/IntIndex", "home", "(I)I"⟩ : MethodName)) hZ (hw _ (List.mem_of_getElem? (i := 1) rfl)) (hw _ (List.mem_of_getElem? (i := 23) rfl)) (hw _ (List.mem_of_getElem? (i := 22) rfl)) (by decide)) (Cond.privateMethod_at (mvP hZ (hw _ (List.mem_of_getElem? (i := 23) rfl)) (args := #[]))) (mvT hZ (hw _ (List.mem_of_getElem? (i := 24) rfl))) (by decide) (backOf (W := 0) (rm4 l Z a0 hw [] ob (k2 pr) ka k2 h2 n0 Z2 Fk2 Ak2) hZ (hw _ (List.mem_of_getElem? (i := 24) rfl)) (hw _ (List.mem_of_getElem? (i := 2) rfl)) (by decide) (by decide)) (g := (mkF m 81 #[.val (.ref ob), .val (.int xk), .val (.int sv), .val (.int hv), .val (.int pv), s5, s6] [(.int (k2 pr)), (.ref ob)])) rfl (by rw [hml]; rfl) (Steps.refl _) (a := ob) (by rw [e13]; exact q14) q14' (argsL := [(.int (k2 pr))]) (rest := []) (lenOf pd_5y_0 rfl) rfl (by show 2 * 0 + _ ≤ _; exact Nat.le_of_eq rfl) (hb hby d5y_81) (fun _ _ => ⟨rfl, e13, (own_z0 (by omega : cs2 + 0 = 0)), (own_z0 (by omega : ss2 + 0 = 0))⟩)
          dsimp only [Pt.U, Pt.locs, Pt.cells, Pt.slots] at Xc14 l14 y14 z14 st14 hQ14
          have X14 := own_cast Xc14 l14 y14 z14
          obtain ⟨ev14, N14q, K14⟩ := hQ14
          rw [ev14] at st14
          have N14 := Fr.app N2 N14q
          refine own_st (fun tgt k => st14.trans k) ?_
          show own_Go p e below _ (T14.setTop (mkF m 84 #[.val (.ref ob), .val (.int xk), .val (.int sv), .val (.int hv), .val (.int pv), s5, s6] [(.int (own_hx (k2 pr)))]))
          refine own_st (V := T14.setTop (mkF m 86 #[.val (.ref ob), .val (.int xk), .val (.int sv), .val (.int hv), .val (.int pv), .val (.int (own_hx (k2 pr))), s6] [])) (fun tgt k => ?_) ?_
          · show Steps p.tables e below (T14.setTop (mkF m 84 #[.val (.ref ob), .val (.int xk), .val (.int sv), .val (.int hv), .val (.int pv), s5, s6] [(.int (own_hx (k2 pr)))])) tgt
            refine XS.istoreS X14.here hx rfl (hb hby d5y_84) rfl rfl o5 ?_
            exact k
          obtain ⟨hm, hhm⟩ : ∃ z : Int32, z = (own_hx (k2 pr)) := ⟨_, rfl⟩
          rw [← hhm]
          have hmN : hm.toInt = (own_H (k2 pr) : Int) := by rw [hhm]; exact own_hx1 _
          refine own_st (V := T14.setTop (mkF m 89 #[.val (.ref ob), .val (.int xk), .val (.int sv), .val (.int hv), .val (.int pv), .val (.int hm), s6] [(.int pv), (.int hv)])) (fun tgt k => ?_) ?_
          · show Steps p.tables e below (T14.setTop (mkF m 86 #[.val (.ref ob), .val (.int xk), .val (.int sv), .val (.int hv), .val (.int pv), .val (.int hm), s6] [])) tgt
            refine XS.iloadN X14.here hx rfl (hb hby d5y_86) rfl ?_
            show Steps p.tables e below (T14.setTop (mkF m 87 #[.val (.ref ob), .val (.int xk), .val (.int sv), .val (.int hv), .val (.int pv), .val (.int hm), s6] [(.int hv)])) tgt
            refine XS.iload X14.here hx rfl (hb hby d5y_87) rfl ?_
            exact k
          obtain ⟨y6, hy6⟩ : ∃ z : Int32, z = (if pv < hv then (if hv < hm then (1 : Int32) else (if pv < hm then (0 : Int32) else (1 : Int32))) else (if hv < hm then (if pv < hm then (0 : Int32) else (1 : Int32)) else (0 : Int32))) := ⟨_, rfl⟩
          refine own_st (V := T14.setTop (mkF m 131 #[.val (.ref ob), .val (.int xk), .val (.int sv), .val (.int hv), .val (.int pv), .val (.int hm), s6] [(.int y6)])) (fun tgt k => ?_) ?_
          · skip
            by_cases hc89_2 : pv < hv
            · skip
              rw [if_pos hc89_2] at hy6
              show Steps p.tables e below (T14.setTop (mkF m 89 #[.val (.ref ob), .val (.int xk), .val (.int sv), .val (.int hv), .val (.int pv), .val (.int hm), s6] [(.int pv), (.int hv)])) tgt
              refine XS.icmpYes X14.here hx rfl (pc0 := 89) (pc' := 113) rfl (hb hby d5y_89) rfl (tlt hc89_2).2.2.1 (by decide) (by decide) ?_
              show Steps p.tables e below (T14.setTop (mkF m 113 #[.val (.ref ob), .val (.int xk), .val (.int sv), .val (.int hv), .val (.int pv), .val (.int hm), s6] [])) tgt
              refine XS.iloadN X14.here hx rfl (hb hby d5y_113) rfl ?_
              show Steps p.tables e below (T14.setTop (mkF m 114 #[.val (.ref ob), .val (.int xk), .val (.int sv), .val (.int hv), .val (.int pv), .val (.int hm), s6] [(.int hv)])) tgt
              refine XS.iload X14.here hx rfl (hb hby d5y_114) rfl ?_
              by_cases hc116 : hv < hm
              · skip
                rw [if_pos hc116] at hy6
                show Steps p.tables e below (T14.setTop (mkF m 116 #[.val (.ref ob), .val (.int xk), .val (.int sv), .val (.int hv), .val (.int pv), .val (.int hm), s6] [(.int hm), (.int hv)])) tgt
                refine XS.icmpYes X14.here hx rfl (pc0 := 116) (pc' := 126) rfl (hb hby d5y_116) rfl (tlt hc116).1 (by decide) (by decide) ?_
                show Steps p.tables e below (T14.setTop (mkF m 126 #[.val (.ref ob), .val (.int xk), .val (.int sv), .val (.int hv), .val (.int pv), .val (.int hm), s6] [])) tgt
                refine XS.iconst X14.here hx rfl (hb hby d5y_126) ?_
                show Steps p.tables e below (T14.setTop (mkF m 127 #[.val (.ref ob), .val (.int xk), .val (.int sv), .val (.int hv), .val (.int pv), .val (.int hm), s6] [(.int (1 : Int32))])) tgt
                refine XS.goto X14.here hx rfl (pc0 := 127) (pc' := 131) rfl (hb hby d5y_127) (by decide) (by decide) ?_
                rw [hy6] at k
                exact k
              · skip
                rw [if_neg hc116] at hy6
                show Steps p.tables e below (T14.setTop (mkF m 116 #[.val (.ref ob), .val (.int xk), .val (.int sv), .val (.int hv), .val (.int pv), .val (.int hm), s6] [(.int hm), (.int hv)])) tgt
                refine XS.icmpNo X14.here hx rfl (hb hby d5y_116) rfl (flt hc116).1 ?_
                show Steps p.tables e below (T14.setTop (mkF m 119 #[.val (.ref ob), .val (.int xk), .val (.int sv), .val (.int hv), .val (.int pv), .val (.int hm), s6] [])) tgt
                refine XS.iload X14.here hx rfl (hb hby d5y_119) rfl ?_
                show Steps p.tables e below (T14.setTop (mkF m 121 #[.val (.ref ob), .val (.int xk), .val (.int sv), .val (.int hv), .val (.int pv), .val (.int hm), s6] [(.int hm)])) tgt
                refine XS.iload X14.here hx rfl (hb hby d5y_121) rfl ?_
                by_cases hc123 : pv < hm
                · skip
                  rw [if_pos hc123] at hy6
                  show Steps p.tables e below (T14.setTop (mkF m 123 #[.val (.ref ob), .val (.int xk), .val (.int sv), .val (.int hv), .val (.int pv), .val (.int hm), s6] [(.int pv), (.int hm)])) tgt
                  refine XS.icmpYes X14.here hx rfl (pc0 := 123) (pc' := 130) rfl (hb hby d5y_123) rfl (tlt hc123).2.2.1 (by decide) (by decide) ?_
                  show Steps p.tables e below (T14.setTop (mkF m 130 #[.val (.ref ob), .val (.int xk), .val (.int sv), .val (.int hv), .val (.int pv), .val (.int hm), s6] [])) tgt
                  refine XS.iconst X14.here hx rfl (hb hby d5y_130) ?_
                  rw [hy6] at k
                  exact k
                · skip
                  rw [if_neg hc123] at hy6
                  show Steps p.tables e below (T14.setTop (mkF m 123 #[.val (.ref ob), .val (.int xk), .val (.int sv), .val (.int hv), .val (.int pv), .val (.int hm), s6] [(.int pv), (.int hm)])) tgt
                  refine XS.icmpNo X14.here hx rfl (hb hby d5y_123) rfl (flt hc123).2.2.1 ?_
                  show Steps p.tables e below (T14.setTop (mkF m 126 #[.val (.ref ob), .val (.int xk), .val (.int sv), .val (.int hv), .val (.int pv), .val (.int hm), s6] [])) tgt
                  refine XS.iconst X14.here hx rfl (hb hby d5y_126) ?_
                  show Steps p.tables e below (T14.setTop (mkF m 127 #[.val (.ref ob), .val (.int xk), .val (.int sv), .val (.int hv), .val (.int pv), .val (.int hm), s6] [(.int (1 : Int32))])) tgt
                  refine XS.goto X14.here hx rfl (pc0 := 127) (pc' := 131) rfl (hb hby d5y_127) (by decide) (by decide) ?_
                  rw [hy6] at k
                  exact k
            · skip
              rw [if_neg hc89_2] at hy6
              show Steps p.tables e below (T14.setTop (mkF m 89 #[.val (.ref ob), .val (.int xk), .val (.int sv), .val (.int hv), .val (.int pv), .val (.int hm), s6] [(.int pv), (.int hv)])) tgt
              refine XS.icmpNo X14.here hx rfl (hb hby d5y_89) rfl (flt hc89_2).2.2.1 ?_
              show Steps p.tables e below (T14.setTop (mkF m 92 #[.val (.ref ob), .val (.int xk), .val (.int sv), .val (.int hv), .val (.int pv), .val (.int hm), s6] [])) tgt
              refine XS.iloadN X14.here hx rfl (hb hby d5y_92) rfl ?_
              show Steps p.tables e below (T14.setTop (mkF m 93 #[.val (.ref ob), .val (.int xk), .val (.int sv), .val (.int hv), .val (.int pv), .val (.int hm), s6] [(.int hv)])) tgt
              refine XS.iload X14.here hx rfl (hb hby d5y_93) rfl ?_
              by_cases hc95 : hv < hm
              · skip
                rw [if_pos hc95] at hy6
                show Steps p.tables e below (T14.setTop (mkF m 95 #[.val (.ref ob), .val (.int xk), .val (.int sv), .val (.int hv), .val (.int pv), .val (.int hm), s6] [(.int hm), (.int hv)])) tgt
                refine XS.icmpNo X14.here hx rfl (hb hby d5y_95) rfl (tlt hc95).2.1 ?_
                show Steps p.tables e below (T14.setTop (mkF m 98 #[.val (.ref ob), .val (.int xk), .val (.int sv), .val (.int hv), .val (.int pv), .val (.int hm), s6] [])) tgt
                refine XS.iload X14.here hx rfl (hb hby d5y_98) rfl ?_
                show Steps p.tables e below (T14.setTop (mkF m 100 #[.val (.ref ob), .val (.int xk), .val (.int sv), .val (.int hv), .val (.int pv), .val (.int hm), s6] [(.int hm)])) tgt
                refine XS.iload X14.here hx rfl (hb hby d5y_100) rfl ?_
                by_cases hc102 : pv < hm
                · skip
                  rw [if_pos hc102] at hy6
                  show Steps p.tables e below (T14.setTop (mkF m 102 #[.val (.ref ob), .val (.int xk), .val (.int sv), .val (.int hv), .val (.int pv), .val (.int hm), s6] [(.int pv), (.int hm)])) tgt
                  refine XS.icmpYes X14.here hx rfl (pc0 := 102) (pc' := 109) rfl (hb hby d5y_102) rfl (tlt hc102).2.2.1 (by decide) (by decide) ?_
                  show Steps p.tables e below (T14.setTop (mkF m 109 #[.val (.ref ob), .val (.int xk), .val (.int sv), .val (.int hv), .val (.int pv), .val (.int hm), s6] [])) tgt
                  refine XS.iconst X14.here hx rfl (hb hby d5y_109) ?_
                  show Steps p.tables e below (T14.setTop (mkF m 110 #[.val (.ref ob), .val (.int xk), .val (.int sv), .val (.int hv), .val (.int pv), .val (.int hm), s6] [(.int (0 : Int32))])) tgt
                  refine XS.goto X14.here hx rfl (pc0 := 110) (pc' := 131) rfl (hb hby d5y_110) (by decide) (by decide) ?_
                  rw [hy6] at k
                  exact k
                · skip
                  rw [if_neg hc102] at hy6
                  show Steps p.tables e below (T14.setTop (mkF m 102 #[.val (.ref ob), .val (.int xk), .val (.int sv), .val (.int hv), .val (.int pv), .val (.int hm), s6] [(.int pv), (.int hm)])) tgt
                  refine XS.icmpNo X14.here hx rfl (hb hby d5y_102) rfl (flt hc102).2.2.1 ?_
                  show Steps p.tables e below (T14.setTop (mkF m 105 #[.val (.ref ob), .val (.int xk), .val (.int sv), .val (.int hv), .val (.int pv), .val (.int hm), s6] [])) tgt
                  refine XS.iconst X14.here hx rfl (hb hby d5y_105) ?_
                  show Steps p.tables e below (T14.setTop (mkF m 106 #[.val (.ref ob), .val (.int xk), .val (.int sv), .val (.int hv), .val (.int pv), .val (.int hm), s6] [(.int (1 : Int32))])) tgt
                  refine XS.goto X14.here hx rfl (pc0 := 106) (pc' := 131) rfl (hb hby d5y_106) (by decide) (by decide) ?_
                  rw [hy6] at k
                  exact k
              · skip
                rw [if_neg hc95] at hy6
                show Steps p.tables e below (T14.setTop (mkF m 95 #[.val (.ref ob), .val (.int xk), .val (.int sv), .val (.int hv), .val (.int pv), .val (.int hm), s6] [(.int hm), (.int hv)])) tgt
                refine XS.icmpYes X14.here hx rfl (pc0 := 95) (pc' := 109) rfl (hb hby d5y_95) rfl (flt hc95).2.1 (by decide) (by decide) ?_
                show Steps p.tables e below (T14.setTop (mkF m 109 #[.val (.ref ob), .val (.int xk), .val (.int sv), .val (.int hv), .val (.int pv), .val (.int hm), s6] [])) tgt
                refine XS.iconst X14.here hx rfl (hb hby d5y_109) ?_
                show Steps p.tables e below (T14.setTop (mkF m 110 #[.val (.ref ob), .val (.int xk), .val (.int sv), .val (.int hv), .val (.int pv), .val (.int hm), s6] [(.int (0 : Int32))])) tgt
                refine XS.goto X14.here hx rfl (pc0 := 110) (pc' := 131) rfl (hb hby d5y_110) (by decide) (by decide) ?_
                rw [hy6] at k
                exact k
          refine own_st (V := T14.setTop (mkF m 135 #[.val (.ref ob), .val (.int xk), .val (.int sv), .val (.int hv), .val (.int pv), .val (.int hm), .val (.int y6)] [(.int y6)])) (fun tgt k => ?_) ?_
          · show Steps p.tables e below (T14.setTop (mkF m 131 #[.val (.ref ob), .val (.int xk), .val (.int sv), .val (.int hv), .val (.int pv), .val (.int hm), s6] [(.int y6)])) tgt
            refine XS.istoreS X14.here hx rfl (hb hby d5y_131) rfl rfl o6 ?_
            show Steps p.tables e below (T14.setTop (mkF m 133 #[.val (.ref ob), .val (.int xk), .val (.int sv), .val (.int hv), .val (.int pv), .val (.int hm), .val (.int y6)] [])) tgt
            refine XS.iload X14.here hx rfl (hb hby d5y_133) rfl ?_
            exact k
          by_cases hc135 : y6 = (0 : Int32)
          · skip
            refine own_st (V := T14.setTop (mkF m 138 #[.val (.ref ob), .val (.int xk), .val (.int sv), .val (.int hv), .val (.int pv), .val (.int hm), .val (.int y6)] [])) (fun tgt k => ?_) ?_
            · show Steps p.tables e below (T14.setTop (mkF m 135 #[.val (.ref ob), .val (.int xk), .val (.int sv), .val (.int hv), .val (.int pv), .val (.int hm), .val (.int y6)] [(.int y6)])) tgt
              refine XS.ifNo X14.here hx rfl (hb hby d5y_135) rfl ((if0 _ _).trans (teq hc135).2) ?_
              exact k
            have hst : ¬ own_stay ho (own_H (k2 pr)) pr := (own_y6 hhv hmN hpv).mp (hy6.symm.trans hc135)
            refine own_st (V := T14.setTop (mkF m 139 #[.val (.ref ob), .val (.int xk), .val (.int sv), .val (.int hv), .val (.int pv), .val (.int hm), .val (.int y6)] [(.ref ob)])) (fun tgt k => ?_) ?_
            · show Steps p.tables e below (T14.setTop (mkF m 138 #[.val (.ref ob), .val (.int xk), .val (.int sv), .val (.int hv), .val (.int pv), .val (.int hm), .val (.int y6)] [])) tgt
              refine XS.aloadN X14.here hx rfl (hb hby d5y_138) rfl rfl ?_
              exact k
            obtain ⟨T15, X15, e15, st15⟩ := getF X14 hx hZ hown (host := "") (Or.inl (hw _ (List.mem_of_getElem? (i := 10) rfl))) Via.refl K14 Fk2 (g := (mkF m 139 #[.val (.ref ob), .val (.int xk), .val (.int sv), .val (.int hv), .val (.int pv), .val (.int hm), .val (.int y6)] [(.ref ob)])) rfl rfl (hb hby d5y_139)
            refine own_st st15 ?_
            show own_Go p e below _ (T15.setTop (mkF m 142 #[.val (.ref ob), .val (.int xk), .val (.int sv), .val (.int hv), .val (.int pv), .val (.int hm), .val (.int y6)] [(.ref ka)]))
            refine own_st (V := T15.setTop (mkF m 144 #[.val (.ref ob), .val (.int xk), .val (.int sv), .val (.int hv), .val (.int pv), .val (.int hm), .val (.int y6)] [(.ref ob), (.int hv), (.ref ka)])) (fun tgt k => ?_) ?_
            · show Steps p.tables e below (T15.setTop (mkF m 142 #[.val (.ref ob), .val (.int xk), .val (.int sv), .val (.int hv), .val (.int pv), .val (.int hm), .val (.int y6)] [(.ref ka)])) tgt
              refine XS.iloadN X15.here hx rfl (hb hby d5y_142) rfl ?_
              show Steps p.tables e below (T15.setTop (mkF m 143 #[.val (.ref ob), .val (.int xk), .val (.int sv), .val (.int hv), .val (.int pv), .val (.int hm), .val (.int y6)] [(.int hv), (.ref ka)])) tgt
              refine XS.aloadN X15.here hx rfl (hb hby d5y_143) rfl rfl ?_
              exact k
            obtain ⟨T16, X16, e16, st16⟩ := getF X15 hx hZ hown (host := "") (Or.inl (hw _ (List.mem_of_getElem? (i := 10) rfl))) Via.refl e15 Fk2 (g := (mkF m 144 #[.val (.ref ob), .val (.int xk), .val (.int sv), .val (.int hv), .val (.int pv), .val (.int hm), .val (.int y6)] [(.ref ob), (.int hv), (.ref ka)])) rfl rfl (hb hby d5y_144)
            refine own_st st16 ?_
            show own_Go p e below _ (T16.setTop (mkF m 147 #[.val (.ref ob), .val (.int xk), .val (.int sv), .val (.int hv), .val (.int pv), .val (.int hm), .val (.int y6)] [(.ref ka), (.int hv), (.ref ka)]))
            refine own_st (V := T16.setTop (mkF m 150 #[.val (.ref ob), .val (.int xk), .val (.int sv), .val (.int hv), .val (.int pv), .val (.int hm), .val (.int y6)] [(.int (k2 pr)), (.int hv), (.ref ka)])) (fun tgt k => ?_) ?_
            · show Steps p.tables e below (T16.setTop (mkF m 147 #[.val (.ref ob), .val (.int xk), .val (.int sv), .val (.int hv), .val (.int pv), .val (.int hm), .val (.int y6)] [(.ref ka), (.int hv), (.ref ka)])) tgt
              refine XS.iload X16.here hx rfl (hb hby d5y_147) rfl ?_
              show Steps p.tables e below (T16.setTop (mkF m 149 #[.val (.ref ob), .val (.int xk), .val (.int sv), .val (.int hv), .val (.int pv), .val (.int hm), .val (.int y6)] [(.int pv), (.ref ka), (.int hv), (.ref ka)])) tgt
              refine own_iaload X16 hx hZ e16 Ak2 (j := pv) (k := pr) hpv hpr (g := (mkF m 149 #[.val (.ref ob), .val (.int xk), .val (.int sv), .val (.int hv), .val (.int pv), .val (.int hm), .val (.int y6)] [(.int pv), (.ref ka), (.int hv), (.ref ka)])) rfl rfl (hb hby d5y_149) ?_
              exact k
            obtain ⟨T17, h17, X17, e17, W17, A_ka_17, st17⟩ := own_iastore X16 hx hZ e16 Ak2 (j := hv) (k := ho) hhv hho (g := (mkF m 150 #[.val (.ref ob), .val (.int xk), .val (.int sv), .val (.int hv), .val (.int pv), .val (.int hm), .val (.int y6)] [(.int (k2 pr)), (.int hv), (.ref ka)])) rfl rfl (hb hby d5y_150)
            have E_ob_17 := E2.wr W17
            have F_ob_keys_17 := Fld.other W17 Fk2 (Or.inl NE2)
            have F_ob_values_17 := Fld.other W17 Fv2 (Or.inl NE2)
            have A_va_17 := Av2.other W17 (Ne.symm NE1)
            have N17 := Fr.snoc X17 N14 G2
            have Zs17 : n0 ≤ h17.size := Nat.le_trans Z2 (Keep.of_wr W17).1
            have Kp17 := Kp2.wr W17 (Or.inl (List.mem_of_getElem? (i := 1) rfl))
            refine own_st st17 ?_
            show own_Go p e below _ (T17.setTop (mkF m 151 #[.val (.ref ob), .val (.int xk), .val (.int sv), .val (.int hv), .val (.int pv), .val (.int hm), .val (.int y6)] []))
            refine own_st (V := T17.setTop (mkF m 152 #[.val (.ref ob), .val (.int xk), .val (.int sv), .val (.int hv), .val (.int pv), .val (.int hm), .val (.int y6)] [(.ref ob)])) (fun tgt k => ?_) ?_
            · show Steps p.tables e below (T17.setTop (mkF m 151 #[.val (.ref ob), .val (.int xk), .val (.int sv), .val (.int hv), .val (.int pv), .val (.int hm), .val (.int y6)] [])) tgt
              refine XS.aloadN X17.here hx rfl (hb hby d5y_151) rfl rfl ?_
              exact k
            obtain ⟨T18, X18, e18, st18⟩ := getF X17 hx hZ hown (host := "") (Or.inl (hw _ (List.mem_of_getElem? (i := 12) rfl))) Via.refl e17 F_ob_values_17 (g := (mkF m 152 #[.val (.ref ob), .val (.int xk), .val (.int sv), .val (.int hv), .val (.int pv), .val (.int hm), .val (.int y6)] [(.ref ob)])) rfl rfl (hb hby d5y_152)
            refine own_st st18 ?_
            show own_Go p e below _ (T18.setTop (mkF m 155 #[.val (.ref ob), .val (.int xk), .val (.int sv), .val (.int hv), .val (.int pv), .val (.int hm), .val (.int y6)] [(.ref va)]))
            refine own_st (V := T18.setTop (mkF m 157 #[.val (.ref ob), .val (.int xk), .val (.int sv), .val (.int hv), .val (.int pv), .val (.int hm), .val (.int y6)] [(.ref ob), (.int hv), (.ref va)])) (fun tgt k => ?_) ?_
            · show Steps p.tables e below (T18.setTop (mkF m 155 #[.val (.ref ob), .val (.int xk), .val (.int sv), .val (.int hv), .val (.int pv), .val (.int hm), .val (.int y6)] [(.ref va)])) tgt
              refine XS.iloadN X18.here hx rfl (hb hby d5y_155) rfl ?_
              show Steps p.tables e below (T18.setTop (mkF m 156 #[.val (.ref ob), .val (.int xk), .val (.int sv), .val (.int hv), .val (.int pv), .val (.int hm), .val (.int y6)] [(.int hv), (.ref va)])) tgt
              refine XS.aloadN X18.here hx rfl (hb hby d5y_156) rfl rfl ?_
              exact k
            obtain ⟨T19, X19, e19, st19⟩ := getF X18 hx hZ hown (host := "") (Or.inl (hw _ (List.mem_of_getElem? (i := 12) rfl))) Via.refl e18 F_ob_values_17 (g := (mkF m 157 #[.val (.ref ob), .val (.int xk), .val (.int sv), .val (.int hv), .val (.int pv), .val (.int hm), .val (.int y6)] [(.ref ob), (.int hv), (.ref va)])) rfl rfl (hb hby d5y_157)
            refine own_st st19 ?_
            show own_Go p e below _ (T19.setTop (mkF m 160 #[.val (.ref ob), .val (.int xk), .val (.int sv), .val (.int hv), .val (.int pv), .val (.int hm), .val (.int y6)] [(.ref va), (.int hv), (.ref va)]))
            refine own_st (V := T19.setTop (mkF m 163 #[.val (.ref ob), .val (.int xk), .val (.int sv), .val (.int hv), .val (.int pv), .val (.int hm), .val (.int y6)] [(.int (v2 pr)), (.int hv), (.ref va)])) (fun tgt k => ?_) ?_
            · show Steps p.tables e below (T19.setTop (mkF m 160 #[.val (.ref ob), .val (.int xk), .val (.int sv), .val (.int hv), .val (.int pv), .val (.int hm), .val (.int y6)] [(.ref va), (.int hv), (.ref va)])) tgt
              refine XS.iload X19.here hx rfl (hb hby d5y_160) rfl ?_
              show Steps p.tables e below (T19.setTop (mkF m 162 #[.val (.ref ob), .val (.int xk), .val (.int sv), .val (.int hv), .val (.int pv), .val (.int hm), .val (.int y6)] [(.int pv), (.ref va), (.int hv), (.ref va)])) tgt
              refine own_iaload X19 hx hZ e19 A_va_17 (j := pv) (k := pr) hpv hpr (g := (mkF m 162 #[.val (.ref ob), .val (.int xk), .val (.int sv), .val (.int hv), .val (.int pv), .val (.int hm), .val (.int y6)] [(.int pv), (.ref va), (.int hv), (.ref va)])) rfl rfl (hb hby d5y_162) ?_
              exact k
            obtain ⟨T20, h20, X20, e20, W20, A_va_20, st20⟩ := own_iastore X19 hx hZ e19 A_va_17 (j := hv) (k := ho) hhv hho (g := (mkF m 163 #[.val (.ref ob), .val (.int xk), .val (.int sv), .val (.int hv), .val (.int pv), .val (.int hm), .val (.int y6)] [(.int (v2 pr)), (.int hv), (.ref va)])) rfl rfl (hb hby d5y_163)
            have E_ob_20 := E_ob_17.wr W20
            have F_ob_keys_20 := Fld.other W20 F_ob_keys_17 (Or.inl NE3)
            have F_ob_values_20 := Fld.other W20 F_ob_values_17 (Or.inl NE3)
            have A_ka_20 := A_ka_17.other W20 NE1
            have N20 := Fr.snoc X20 N17 G3
            have Zs20 : n0 ≤ h20.size := Nat.le_trans Zs17 (Keep.of_wr W20).1
            have Kp20 := Kp17.wr W20 (Or.inl (List.mem_of_getElem? (i := 2) rfl))
            refine own_st st20 ?_
            show own_Go p e below _ (T20.setTop (mkF m 164 #[.val (.ref ob), .val (.int xk), .val (.int sv), .val (.int hv), .val (.int pv), .val (.int hm), .val (.int y6)] []))
            refine own_st (V := T20.setTop (mkF m 170 #[.val (.ref ob), .val (.int xk), .val (.int sv), .val (.int pv), .val (.int pv), .val (.int hm), .val (.int y6)] [(.int pv), (.ref ob)])) (fun tgt k => ?_) ?_
            · show Steps p.tables e below (T20.setTop (mkF m 164 #[.val (.ref ob), .val (.int xk), .val (.int sv), .val (.int hv), .val (.int pv), .val (.int hm), .val (.int y6)] [])) tgt
              refine XS.iload X20.here hx rfl (hb hby d5y_164) rfl ?_
              show Steps p.tables e below (T20.setTop (mkF m 166 #[.val (.ref ob), .val (.int xk), .val (.int sv), .val (.int hv), .val (.int pv), .val (.int hm), .val (.int y6)] [(.int pv)])) tgt
              refine XS.istoreN X20.here hx rfl (hb hby d5y_166) rfl (l' := #[.val (.ref ob), .val (.int xk), .val (.int sv), .val (.int pv), .val (.int pv), .val (.int hm), .val (.int y6)]) rfl ?_
              show Steps p.tables e below (T20.setTop (mkF m 167 #[.val (.ref ob), .val (.int xk), .val (.int sv), .val (.int pv), .val (.int pv), .val (.int hm), .val (.int y6)] [])) tgt
              refine XS.aloadN X20.here hx rfl (hb hby d5y_167) rfl rfl ?_
              show Steps p.tables e below (T20.setTop (mkF m 168 #[.val (.ref ob), .val (.int xk), .val (.int sv), .val (.int pv), .val (.int pv), .val (.int hm), .val (.int y6)] [(.ref ob)])) tgt
              refine XS.iload X20.here hx rfl (hb hby d5y_168) rfl ?_
              exact k
            obtain ⟨cq21, q21, q21'⟩ := E_ob_20.cell
            obtain ⟨v21, _, ⟨T21, L21, k21, n21⟩, -, Xc21, ⟨Lc21, hQ21, l21, y21, z21⟩, st21⟩ := X20.privateBack hx (y := (⟨"com/example/sigpoint/sigpoint/IntIndex", "next", "(I)I"⟩ : MethodName)) hown (mvT hZ (hw _ (List.mem_of_getElem? (i := 31) rfl))) (mvT hZ (hw _ (List.mem_of_getElem? (i := 32) rfl))) (own_selp (y := (⟨"com/example/sigpoint/sigpoint/IntIndex", "next", "(I)I"⟩ : MethodName)) hZ (hw _ (List.mem_of_getElem? (i := 1) rfl)) (hw _ (List.mem_of_getElem? (i := 33) rfl)) (hw _ (List.mem_of_getElem? (i := 32) rfl)) (by decide)) (Cond.privateMethod_at (mvP hZ (hw _ (List.mem_of_getElem? (i := 33) rfl)) (args := #[]))) (mvT hZ (hw _ (List.mem_of_getElem? (i := 34) rfl))) (by decide) (backOf (W := 0) (rm6 l Z a0 hw [] ob pv ka (own_up k2 ho (k2 pr)) h20 n0 Zs20 F_ob_keys_20 A_ka_20) hZ (hw _ (List.mem_of_getElem? (i := 34) rfl)) (hw _ (List.mem_of_getElem? (i := 2) rfl)) (by decide) (by decide)) (g := (mkF m 170 #[.val (.ref ob), .val (.int xk), .val (.int sv), .val (.int pv), .val (.int pv), .val (.int hm), .val (.int y6)] [(.int pv), (.ref ob)])) rfl (by rw [hml]; rfl) (Steps.refl _) (a := ob) (by rw [e20]; exact q21) q21' (argsL := [(.int pv)]) (rest := []) (lenOf pd_5y_0 rfl) rfl (by show 2 * 0 + _ ≤ _; exact Nat.le_of_eq rfl) (hb hby d5y_170) (fun _ _ => ⟨rfl, e20, (own_z0 (by omega : (cs2 + 0) + 0 = 0)), (own_z0 (by omega : (ss2 + 0) + 0 = 0))⟩)
            dsimp only [Pt.U, Pt.locs, Pt.cells, Pt.slots] at Xc21 l21 y21 z21 st21 hQ21
            have X21 := own_cast Xc21 l21 y21 z21
            obtain ⟨ev21, N21q, K21⟩ := hQ21
            rw [ev21] at st21
            have N21 := Fr.app N20 N21q
            refine own_st (fun tgt k => st21.trans k) ?_
            show own_Go p e below _ (T21.setTop (mkF m 173 #[.val (.ref ob), .val (.int xk), .val (.int sv), .val (.int pv), .val (.int pv), .val (.int hm), .val (.int y6)] [(.int (own_nx pv))]))
            refine own_st (V := T21.setTop (mkF m 63 #[.val (.ref ob), .val (.int xk), .val (.int sv), .val (.int pv), .val (.int (own_nx pv)), .val (.int hm), .val (.int y6)] [])) (fun tgt k => ?_) ?_
            · show Steps p.tables e below (T21.setTop (mkF m 173 #[.val (.ref ob), .val (.int xk), .val (.int sv), .val (.int pv), .val (.int pv), .val (.int hm), .val (.int y6)] [(.int (own_nx pv))])) tgt
              refine XS.istore X21.here hx rfl (hb hby d5y_173) rfl (l' := #[.val (.ref ob), .val (.int xk), .val (.int sv), .val (.int pv), .val (.int (own_nx pv)), .val (.int hm), .val (.int y6)]) rfl ?_
              show Steps p.tables e below (T21.setTop (mkF m 175 #[.val (.ref ob), .val (.int xk), .val (.int sv), .val (.int pv), .val (.int (own_nx pv)), .val (.int hm), .val (.int y6)] [])) tgt
              refine XS.goto X21.here hx rfl (pc0 := 175) (pc' := 63) rfl (hb hby d5y_175) (by decide) (by decide) ?_
              exact k
            exact ih2 (own_up k2 ho (k2 pr)) (own_up v2 ho (v2 pr)) pr ((pr + 1) % 16) _ _ _ _ _ _ _ _ _ (by show ((cs2 + 0) + 0) = 0; omega) (by show ((ss2 + 0) + 0) = 0; omega) (One.val rfl) (One.val rfl) X21 K21 N21 Zs20 Kp20 E_ob_20 F_ob_keys_20 F_ob_values_20 A_ka_20 A_va_20 hpr (Nat.mod_lt _ (by decide)) hpv (own_nx_at hpv hpr) (own_rn_n hst hR) ((own_lp_n hst).symm.trans hE)
          · skip
            refine own_st (V := T14.setTop (mkF m 167 #[.val (.ref ob), .val (.int xk), .val (.int sv), .val (.int hv), .val (.int pv), .val (.int hm), .val (.int y6)] [])) (fun tgt k => ?_) ?_
            · show Steps p.tables e below (T14.setTop (mkF m 135 #[.val (.ref ob), .val (.int xk), .val (.int sv), .val (.int hv), .val (.int pv), .val (.int hm), .val (.int y6)] [(.int y6)])) tgt
              refine XS.ifYes X14.here hx rfl (pc0 := 135) (pc' := 167) rfl (hb hby d5y_135) rfl ((if0 _ _).trans (feq hc135).2) (by decide) (by decide) ?_
              exact k
            have hst : own_stay ho (own_H (k2 pr)) pr := Classical.byContradiction fun z => hc135 (hy6.trans ((own_y6 hhv hmN hpv).mpr z))
            refine own_st (V := T14.setTop (mkF m 170 #[.val (.ref ob), .val (.int xk), .val (.int sv), .val (.int hv), .val (.int pv), .val (.int hm), .val (.int y6)] [(.int pv), (.ref ob)])) (fun tgt k => ?_) ?_
            · show Steps p.tables e below (T14.setTop (mkF m 167 #[.val (.ref ob), .val (.int xk), .val (.int sv), .val (.int hv), .val (.int pv), .val (.int hm), .val (.int y6)] [])) tgt
              refine XS.aloadN X14.here hx rfl (hb hby d5y_167) rfl rfl ?_
              show Steps p.tables e below (T14.setTop (mkF m 168 #[.val (.ref ob), .val (.int xk), .val (.int sv), .val (.int hv), .val (.int pv), .val (.int hm), .val (.int y6)] [(.ref ob)])) tgt
              refine XS.iload X14.here hx rfl (hb hby d5y_168) rfl ?_
              exact k
            obtain ⟨cq22, q22, q22'⟩ := E2.cell
            obtain ⟨v22, _, ⟨T22, L22, k22, n22⟩, -, Xc22, ⟨Lc22, hQ22, l22, y22, z22⟩, st22⟩ := X14.privateBack hx (y := (⟨"com/example/sigpoint/sigpoint/IntIndex", "next", "(I)I"⟩ : MethodName)) hown (mvT hZ (hw _ (List.mem_of_getElem? (i := 31) rfl))) (mvT hZ (hw _ (List.mem_of_getElem? (i := 32) rfl))) (own_selp (y := (⟨"com/example/sigpoint/sigpoint/IntIndex", "next", "(I)I"⟩ : MethodName)) hZ (hw _ (List.mem_of_getElem? (i := 1) rfl)) (hw _ (List.mem_of_getElem? (i := 33) rfl)) (hw _ (List.mem_of_getElem? (i := 32) rfl)) (by decide)) (Cond.privateMethod_at (mvP hZ (hw _ (List.mem_of_getElem? (i := 33) rfl)) (args := #[]))) (mvT hZ (hw _ (List.mem_of_getElem? (i := 34) rfl))) (by decide) (backOf (W := 0) (rm6 l Z a0 hw [] ob pv ka k2 h2 n0 Z2 Fk2 Ak2) hZ (hw _ (List.mem_of_getElem? (i := 34) rfl)) (hw _ (List.mem_of_getElem? (i := 2) rfl)) (by decide) (by decide)) (g := (mkF m 170 #[.val (.ref ob), .val (.int xk), .val (.int sv), .val (.int hv), .val (.int pv), .val (.int hm), .val (.int y6)] [(.int pv), (.ref ob)])) rfl (by rw [hml]; rfl) (Steps.refl _) (a := ob) (by rw [K14]; exact q22) q22' (argsL := [(.int pv)]) (rest := []) (lenOf pd_5y_0 rfl) rfl (by show 2 * 0 + _ ≤ _; exact Nat.le_of_eq rfl) (hb hby d5y_170) (fun _ _ => ⟨rfl, K14, (own_z0 (by omega : (cs2 + 0) + 0 = 0)), (own_z0 (by omega : (ss2 + 0) + 0 = 0))⟩)
            dsimp only [Pt.U, Pt.locs, Pt.cells, Pt.slots] at Xc22 l22 y22 z22 st22 hQ22
            have X22 := own_cast Xc22 l22 y22 z22
            obtain ⟨ev22, N22q, K22⟩ := hQ22
            rw [ev22] at st22
            have N22 := Fr.app N14 N22q
            refine own_st (fun tgt k => st22.trans k) ?_
            show own_Go p e below _ (T22.setTop (mkF m 173 #[.val (.ref ob), .val (.int xk), .val (.int sv), .val (.int hv), .val (.int pv), .val (.int hm), .val (.int y6)] [(.int (own_nx pv))]))
            refine own_st (V := T22.setTop (mkF m 63 #[.val (.ref ob), .val (.int xk), .val (.int sv), .val (.int hv), .val (.int (own_nx pv)), .val (.int hm), .val (.int y6)] [])) (fun tgt k => ?_) ?_
            · show Steps p.tables e below (T22.setTop (mkF m 173 #[.val (.ref ob), .val (.int xk), .val (.int sv), .val (.int hv), .val (.int pv), .val (.int hm), .val (.int y6)] [(.int (own_nx pv))])) tgt
              refine XS.istore X22.here hx rfl (hb hby d5y_173) rfl (l' := #[.val (.ref ob), .val (.int xk), .val (.int sv), .val (.int hv), .val (.int (own_nx pv)), .val (.int hm), .val (.int y6)]) rfl ?_
              show Steps p.tables e below (T22.setTop (mkF m 175 #[.val (.ref ob), .val (.int xk), .val (.int sv), .val (.int hv), .val (.int (own_nx pv)), .val (.int hm), .val (.int y6)] [])) tgt
              refine XS.goto X22.here hx rfl (pc0 := 175) (pc' := 63) rfl (hb hby d5y_175) (by decide) (by decide) ?_
              exact k
            exact ih2 k2 v2 ho ((pr + 1) % 16) _ _ _ _ _ _ _ _ _ (by show ((cs2 + 0) + 0) = 0; omega) (by show ((ss2 + 0) + 0) = 0; omega) (One.val rfl) (One.val rfl) X22 K22 N22 Z2 Kp2 E2 Fk2 Fv2 Ak2 Av2 hho (Nat.mod_lt _ (by decide)) hhv (own_nx_at hpv hpr) (own_rn_y hst hR) ((own_lp_y hst).symm.trans hE)
      exact loop2 uu kf vf _ _ _ _ _ _ _ _ _ _ _ (by show (cs + 0) = 0; omega) (by show (ss + 0) = 0; omega) One.u One.u X7 K7 N7 Zs6 Kp6 E_ob_6 F_ob_keys_6 F_ob_values_6 A_ka_6 A_va_6 (Nat.mod_lt _ (by decide)) (Nat.mod_lt _ (by decide)) hsv (own_nx_at hsv (Nat.mod_lt _ (by decide))) RN rfl
    | succ n ih =>
      intro i T1 locs1 cs ss sv hi hcs hss X1 e1 N1 hsv
      have q := PR.1 i (by omega)
      refine own_st (V := T1.setTop (mkF m 7 #[.val (.ref ob), .val (.int xk), .val (.int sv), .unset, .unset, .unset, .unset] [(.ref ob)])) (fun tgt k => ?_) ?_
      · show Steps p.tables e below (T1.setTop (mkF m 6 #[.val (.ref ob), .val (.int xk), .val (.int sv), .unset, .unset, .unset, .unset] [])) tgt
        refine XS.aloadN X1.here hx rfl (hb hby d5y_6) rfl rfl ?_
        exact k
      obtain ⟨T23, X23, e23, st23⟩ := getF X1 hx hZ hown (host := "") (Or.inl (hw _ (List.mem_of_getElem? (i := 12) rfl))) Via.refl e1 F2 (g := (mkF m 7 #[.val (.ref ob), .val (.int xk), .val (.int sv), .unset, .unset, .unset, .unset] [(.ref ob)])) rfl rfl (hb hby d5y_7)
      refine own_st st23 ?_
      show own_Go p e below _ (T23.setTop (mkF m 10 #[.val (.ref ob), .val (.int xk), .val (.int sv), .unset, .unset, .unset, .unset] [(.ref va)]))
      refine own_st (V := T23.setTop (mkF m 16 #[.val (.ref ob), .val (.int xk), .val (.int sv), .unset, .unset, .unset, .unset] [(.ref ob)])) (fun tgt k => ?_) ?_
      · show Steps p.tables e below (T23.setTop (mkF m 10 #[.val (.ref ob), .val (.int xk), .val (.int sv), .unset, .unset, .unset, .unset] [(.ref va)])) tgt
        refine XS.iloadN X23.here hx rfl (hb hby d5y_10) rfl ?_
        show Steps p.tables e below (T23.setTop (mkF m 11 #[.val (.ref ob), .val (.int xk), .val (.int sv), .unset, .unset, .unset, .unset] [(.int sv), (.ref va)])) tgt
        refine own_iaload X23 hx hZ e23 A2 (j := sv) (k := ((own_H xk + i) % 16)) hsv (Nat.mod_lt _ (by decide)) (g := (mkF m 11 #[.val (.ref ob), .val (.int xk), .val (.int sv), .unset, .unset, .unset, .unset] [(.int sv), (.ref va)])) rfl rfl (hb hby d5y_11) ?_
        show Steps p.tables e below (T23.setTop (mkF m 12 #[.val (.ref ob), .val (.int xk), .val (.int sv), .unset, .unset, .unset, .unset] [(.int (vf ((own_H xk + i) % 16)))])) tgt
        refine XS.ifNo X23.here hx rfl (hb hby d5y_12) rfl ((if0 _ _).trans (feq q.1).1) ?_
        show Steps p.tables e below (T23.setTop (mkF m 15 #[.val (.ref ob), .val (.int xk), .val (.int sv), .unset, .unset, .unset, .unset] [])) tgt
        refine XS.aloadN X23.here hx rfl (hb hby d5y_15) rfl rfl ?_
        exact k
      obtain ⟨T24, X24, e24, st24⟩ := getF X23 hx hZ hown (host := "") (Or.inl (hw _ (List.mem_of_getElem? (i := 10) rfl))) Via.refl e23 F1 (g := (mkF m 16 #[.val (.ref ob), .val (.int xk), .val (.int sv), .unset, .unset, .unset, .unset] [(.ref ob)])) rfl rfl (hb hby d5y_16)
      refine own_st st24 ?_
      show own_Go p e below _ (T24.setTop (mkF m 19 #[.val (.ref ob), .val (.int xk), .val (.int sv), .unset, .unset, .unset, .unset] [(.ref ka)]))
      refine own_st (V := T24.setTop (mkF m 27 #[.val (.ref ob), .val (.int xk), .val (.int sv), .unset, .unset, .unset, .unset] [(.int sv), (.ref ob)])) (fun tgt k => ?_) ?_
      · show Steps p.tables e below (T24.setTop (mkF m 19 #[.val (.ref ob), .val (.int xk), .val (.int sv), .unset, .unset, .unset, .unset] [(.ref ka)])) tgt
        refine XS.iloadN X24.here hx rfl (hb hby d5y_19) rfl ?_
        show Steps p.tables e below (T24.setTop (mkF m 20 #[.val (.ref ob), .val (.int xk), .val (.int sv), .unset, .unset, .unset, .unset] [(.int sv), (.ref ka)])) tgt
        refine own_iaload X24 hx hZ e24 A1 (j := sv) (k := ((own_H xk + i) % 16)) hsv (Nat.mod_lt _ (by decide)) (g := (mkF m 20 #[.val (.ref ob), .val (.int xk), .val (.int sv), .unset, .unset, .unset, .unset] [(.int sv), (.ref ka)])) rfl rfl (hb hby d5y_20) ?_
        show Steps p.tables e below (T24.setTop (mkF m 21 #[.val (.ref ob), .val (.int xk), .val (.int sv), .unset, .unset, .unset, .unset] [(.int (kf ((own_H xk + i) % 16)))])) tgt
        refine XS.iloadN X24.here hx rfl (hb hby d5y_21) rfl ?_
        show Steps p.tables e below (T24.setTop (mkF m 22 #[.val (.ref ob), .val (.int xk), .val (.int sv), .unset, .unset, .unset, .unset] [(.int xk), (.int (kf ((own_H xk + i) % 16)))])) tgt
        refine XS.icmpNo X24.here hx rfl (hb hby d5y_22) rfl (feq q.2).1 ?_
        show Steps p.tables e below (T24.setTop (mkF m 25 #[.val (.ref ob), .val (.int xk), .val (.int sv), .unset, .unset, .unset, .unset] [])) tgt
        refine XS.aloadN X24.here hx rfl (hb hby d5y_25) rfl rfl ?_
        show Steps p.tables e below (T24.setTop (mkF m 26 #[.val (.ref ob), .val (.int xk), .val (.int sv), .unset, .unset, .unset, .unset] [(.ref ob)])) tgt
        refine XS.iloadN X24.here hx rfl (hb hby d5y_26) rfl ?_
        exact k
      obtain ⟨cq25, q25, q25'⟩ := E1.cell
      obtain ⟨v25, _, ⟨T25, L25, k25, n25⟩, -, Xc25, ⟨Lc25, hQ25, l25, y25, z25⟩, st25⟩ := X24.privateBack hx (y := (⟨"com/example/sigpoint/sigpoint/IntIndex", "next", "(I)I"⟩ : MethodName)) hown (mvT hZ (hw _ (List.mem_of_getElem? (i := 31) rfl))) (mvT hZ (hw _ (List.mem_of_getElem? (i := 32) rfl))) (own_selp (y := (⟨"com/example/sigpoint/sigpoint/IntIndex", "next", "(I)I"⟩ : MethodName)) hZ (hw _ (List.mem_of_getElem? (i := 1) rfl)) (hw _ (List.mem_of_getElem? (i := 33) rfl)) (hw _ (List.mem_of_getElem? (i := 32) rfl)) (by decide)) (Cond.privateMethod_at (mvP hZ (hw _ (List.mem_of_getElem? (i := 33) rfl)) (args := #[]))) (mvT hZ (hw _ (List.mem_of_getElem? (i := 34) rfl))) (by decide) (backOf (W := 0) (rm6 l Z a0 hw [] ob sv ka kf h0 n0 Z0 F1 A1) hZ (hw _ (List.mem_of_getElem? (i := 34) rfl)) (hw _ (List.mem_of_getElem? (i := 2) rfl)) (by decide) (by decide)) (g := (mkF m 27 #[.val (.ref ob), .val (.int xk), .val (.int sv), .unset, .unset, .unset, .unset] [(.int sv), (.ref ob)])) rfl (by rw [hml]; rfl) (Steps.refl _) (a := ob) (by rw [e24]; exact q25) q25' (argsL := [(.int sv)]) (rest := []) (lenOf pd_5y_0 rfl) rfl (by show 2 * 0 + _ ≤ _; exact Nat.le_of_eq rfl) (hb hby d5y_27) (fun _ _ => ⟨rfl, e24, (own_z0 (by omega : cs + 0 = 0)), (own_z0 (by omega : ss + 0 = 0))⟩)
      dsimp only [Pt.U, Pt.locs, Pt.cells, Pt.slots] at Xc25 l25 y25 z25 st25 hQ25
      have X25 := own_cast Xc25 l25 y25 z25
      obtain ⟨ev25, N25q, K25⟩ := hQ25
      rw [ev25] at st25
      have N25 := Fr.app N1 N25q
      refine own_st (fun tgt k => st25.trans k) ?_
      show own_Go p e below _ (T25.setTop (mkF m 30 #[.val (.ref ob), .val (.int xk), .val (.int sv), .unset, .unset, .unset, .unset] [(.int (own_nx sv))]))
      refine own_st (V := T25.setTop (mkF m 6 #[.val (.ref ob), .val (.int xk), .val (.int (own_nx sv)), .unset, .unset, .unset, .unset] [])) (fun tgt k => ?_) ?_
      · show Steps p.tables e below (T25.setTop (mkF m 30 #[.val (.ref ob), .val (.int xk), .val (.int sv), .unset, .unset, .unset, .unset] [(.int (own_nx sv))])) tgt
        refine XS.istoreN X25.here hx rfl (hb hby d5y_30) rfl (l' := #[.val (.ref ob), .val (.int xk), .val (.int (own_nx sv)), .unset, .unset, .unset, .unset]) rfl ?_
        show Steps p.tables e below (T25.setTop (mkF m 31 #[.val (.ref ob), .val (.int xk), .val (.int (own_nx sv)), .unset, .unset, .unset, .unset] [])) tgt
        refine XS.goto X25.here hx rfl (pc0 := 31) (pc' := 6) rfl (hb hby d5y_31) (by decide) (by decide) ?_
        exact k
      exact ih (i + 1) _ _ _ _ _ (by omega) (by show (cs + 0) = 0; omega) (by show (ss + 0) = 0; omega) X25 K25 N25 (own_nxm hsv)
  exact loop tt 0 _ _ _ _ _ (by omega) rfl rfl X1 K1 N1 (own_h0 xk)
theorem d8_0 : decode method_3_code 0 = .ok (.iload_n 0, 1) := by decide +kernel
theorem d8_1 : decode method_3_code 1 = .ok (.iload_n 1, 1) := by decide +kernel
theorem d8_2 : decode method_3_code 2 = .ok (.if_icmp .ne 5, 3) := by decide +kernel
theorem d8_5 : decode method_3_code 5 = .ok (.iconst (-1), 1) := by decide +kernel
theorem d8_6 : decode method_3_code 6 = .ok (.ireturn, 1) := by decide +kernel
theorem d8_7 : decode method_3_code 7 = .ok (.iload_n 0, 1) := by decide +kernel
theorem d8_8 : decode method_3_code 8 = .ok (.iload 5, 2) := by decide +kernel
theorem d8_10 : decode method_3_code 10 = .ok (.if_icmp .ne 5, 3) := by decide +kernel
theorem d8_13 : decode method_3_code 13 = .ok (.iconst 4, 1) := by decide +kernel
theorem d8_14 : decode method_3_code 14 = .ok (.ireturn, 1) := by decide +kernel
theorem d8_15 : decode method_3_code 15 = .ok (.iload_n 0, 1) := by decide +kernel
theorem d8_16 : decode method_3_code 16 = .ok (.iload 4, 2) := by decide +kernel
theorem d8_18 : decode method_3_code 18 = .ok (.if_icmp .ne 5, 3) := by decide +kernel
theorem d8_21 : decode method_3_code 21 = .ok (.iconst 3, 1) := by decide +kernel
theorem d8_22 : decode method_3_code 22 = .ok (.ireturn, 1) := by decide +kernel
theorem d8_23 : decode method_3_code 23 = .ok (.iload_n 0, 1) := by decide +kernel
theorem d8_24 : decode method_3_code 24 = .ok (.iload_n 3, 1) := by decide +kernel
theorem d8_25 : decode method_3_code 25 = .ok (.if_icmp .ne 5, 3) := by decide +kernel
theorem d8_28 : decode method_3_code 28 = .ok (.iconst 2, 1) := by decide +kernel
theorem d8_29 : decode method_3_code 29 = .ok (.ireturn, 1) := by decide +kernel
theorem d8_30 : decode method_3_code 30 = .ok (.iload_n 0, 1) := by decide +kernel
theorem d8_31 : decode method_3_code 31 = .ok (.iload_n 2, 1) := by decide +kernel
theorem d8_32 : decode method_3_code 32 = .ok (.if_icmp .ne 5, 3) := by decide +kernel
theorem d8_35 : decode method_3_code 35 = .ok (.iconst 1, 1) := by decide +kernel
theorem d8_36 : decode method_3_code 36 = .ok (.ireturn, 1) := by decide +kernel
theorem d8_37 : decode method_3_code 37 = .ok (.iconst 0, 1) := by decide +kernel
theorem d8_38 : decode method_3_code 38 = .ok (.ireturn, 1) := by decide +kernel
theorem pn_8 : plainName "com/example/sigpoint/sigpoint/IntIndexRemovePinLaw" = true := by first | (simp [plainName, overriddenIn]; done) | decide +kernel
theorem ef_8 (m : MethodId) (x0 : Int32) (x1 : Int32) (x2 : Int32) (x3 : Int32) (x4 : Int32) (x5 : Int32) : entryFrame m #[(.int x0), (.int x1), (.int x2), (.int x3), (.int x4), (.int x5)] 6 = mkF m 0 #[.val (.int x0), .val (.int x1), .val (.int x2), .val (.int x3), .val (.int x4), .val (.int x5)] [] := by first | (simp [entryFrame, mkF, argsToLocals, Value.category]; done) | rfl
def Q8 (Z : State) (xx : Int32) (xr : Int32) (xb : Int32) (xc : Int32) (xd : Int32) (xe : Int32) (h0 : Heap) (n0 : Nat) (v : Option Value) (h : Heap) (L : List Loc) : Prop := v = some (.int (own_xp xx xr xb xc xd xe)) ∧ Fr n0 L ∧ h = h0
set_option maxRecDepth 65536 in
set_option maxHeartbeats 40000000 in
theorem rm8 (l : Launch) (Z : State) (a0 : Array Value) (hw : ∀ d ∈ tables_1, d.before a0 Z = true) (ws : List Jvm.Cond) (xx : Int32) (xr : Int32) (xb : Int32) (xc : Int32) (xd : Int32) (xe : Int32) (h0 : Heap) (n0 : Nat) (Z0 : n0 ≤ h0.size) :
    MetFree l (⟨"com/example/sigpoint/sigpoint/IntIndexRemovePinLaw", "expect", "(IIIIII)I"⟩ : MethodName) (head1 (Jvm.Cond.code (⟨"com/example/sigpoint/sigpoint/IntIndexRemovePinLaw", "expect", "(IIIIII)I"⟩ : MethodName) method_3_code 6 (some .int) :: ws) ({ frames := 0, cells := 0, slots := 0, locals := 0 } : Room)) (fun a U => a = #[(.int xx), (.int xr), (.int xb), (.int xc), (.int xd), (.int xe)] ∧ Z.Warmed39 U.vm ∧ U.heap = h0) (fun _ _ _ _ _ => True) (fun _ U o U' => ∃ v L, o = .returned v ∧ Q8 Z xx xr xb xc xd xe h0 n0 v U'.heap L ∧ FrameEnd U o U' L ({ frames := 0, cells := 0, slots := 0, locals := 0 } : Room).cells ({ frames := 0, cells := 0, slots := 0, locals := 0 } : Room).slots) := by
  refine MetFree.of_bodySF (plainFor_of_name pn_8) hisR ?_
  intro p e s m args below meth c s₁ Bd hml0 hP hK
  obtain ⟨rfl, hZ, hh⟩ := hP
  have hx := Bd.exec
  have hby := Bd.bytes
  have hlk : meth.locks = false := BodyLoose.notSynchronized Bd
  have hml : c.maxLocals = 6 := hml0
  have hown : s.vm.findClass "com/example/sigpoint/sigpoint/IntIndexRemovePinLaw" = some m.cls := findClass_of_methodNamed Bd.named
  have hnm := (name_of_methodNamed Bd.named Bd.method).1
  have X0 : Stand p l e ({ frames := 0, cells := 0, slots := 0, locals := 0 } : Room) s m #[(.int xx), (.int xr), (.int xb), (.int xc), (.int xd), (.int xe)] below meth c s₁ [] 0 0 := Stand.of_body Bd
  have e0 : s₁.heap = h0 := by rw [← hh, Bd.state]; rfl
  have N0 := Fr.nil n0
  show own_Go p e below (own_G s (Q8 Z xx xr xb xc xd xe h0 n0) ({ frames := 0, cells := 0, slots := 0, locals := 0 } : Room).cells ({ frames := 0, cells := 0, slots := 0, locals := 0 } : Room).slots) (s₁.setTop (entryFrame m #[(.int xx), (.int xr), (.int xb), (.int xc), (.int xd), (.int xe)] 6))
  refine own_st (fun tgt k => castTop (ef_8 m xx xr xb xc xd xe) k) ?_
  show own_Go p e below _ (s₁.setTop (mkF m 0 #[.val (.int xx), .val (.int xr), .val (.int xb), .val (.int xc), .val (.int xd), .val (.int xe)] []))
  refine own_st (V := s₁.setTop (mkF m 2 #[.val (.int xx), .val (.int xr), .val (.int xb), .val (.int xc), .val (.int xd), .val (.int xe)] [(.int xr), (.int xx)])) (fun tgt k => ?_) ?_
  · show Steps p.tables e below (s₁.setTop (mkF m 0 #[.val (.int xx), .val (.int xr), .val (.int xb), .val (.int xc), .val (.int xd), .val (.int xe)] [])) tgt
    refine XS.iloadN X0.here hx rfl (hb hby d8_0) rfl ?_
    show Steps p.tables e below (s₁.setTop (mkF m 1 #[.val (.int xx), .val (.int xr), .val (.int xb), .val (.int xc), .val (.int xd), .val (.int xe)] [(.int xx)])) tgt
    refine XS.iloadN X0.here hx rfl (hb hby d8_1) rfl ?_
    exact k
  by_cases hc2 : xx = xr
  · skip
    refine own_st (V := s₁.setTop (mkF m 6 #[.val (.int xx), .val (.int xr), .val (.int xb), .val (.int xc), .val (.int xd), .val (.int xe)] [(.int (-1 : Int32))])) (fun tgt k => ?_) ?_
    · show Steps p.tables e below (s₁.setTop (mkF m 2 #[.val (.int xx), .val (.int xr), .val (.int xb), .val (.int xc), .val (.int xd), .val (.int xe)] [(.int xr), (.int xx)])) tgt
      refine XS.icmpNo X0.here hx rfl (hb hby d8_2) rfl (teq hc2).2 ?_
      show Steps p.tables e below (s₁.setTop (mkF m 5 #[.val (.int xx), .val (.int xr), .val (.int xb), .val (.int xc), .val (.int xd), .val (.int xe)] [])) tgt
      refine XS.iconst X0.here hx rfl (hb hby d8_5) ?_
      exact k
    refine own_retI X0 hx hlk Bd.returns (hb hby d8_6) ?_ (by decide) (by decide)
    show Q8 Z xx xr xb xc xd xe h0 n0 (some (.int (-1 : Int32))) s₁.heap _
    rw [e0]
    refine ⟨?_, N0, rfl⟩
    exact congrArg (fun q => some (Value.int q)) (by unfold own_xp; rw [if_pos hc2])
  · skip
    refine own_st (V := s₁.setTop (mkF m 10 #[.val (.int xx), .val (.int xr), .val (.int xb), .val (.int xc), .val (.int xd), .val (.int xe)] [(.int xe), (.int xx)])) (fun tgt k => ?_) ?_
    · show Steps p.tables e below (s₁.setTop (mkF m 2 #[.val (.int xx), .val (.int xr), .val (.int xb), .val (.int xc), .val (.int xd), .val (.int xe)] [(.int xr), (.int xx)])) tgt
      refine XS.icmpYes X0.here hx rfl (pc0 := 2) (pc' := 7) rfl (hb hby d8_2) rfl (feq hc2).2 (by decide) (by decide) ?_
      show Steps p.tables e below (s₁.setTop (mkF m 7 #[.val (.int xx), .val (.int xr), .val (.int xb), .val (.int xc), .val (.int xd), .val (.int xe)] [])) tgt
      refine XS.iloadN X0.here hx rfl (hb hby d8_7) rfl ?_
      show Steps p.tables e below (s₁.setTop (mkF m 8 #[.val (.int xx), .val (.int xr), .val (.int xb), .val (.int xc), .val (.int xd), .val (.int xe)] [(.int xx)])) tgt
      refine XS.iload X0.here hx rfl (hb hby d8_8) rfl ?_
      exact k
    by_cases hc10 : xx = xe
    · skip
      refine own_st (V := s₁.setTop (mkF m 14 #[.val (.int xx), .val (.int xr), .val (.int xb), .val (.int xc), .val (.int xd), .val (.int xe)] [(.int (4 : Int32))])) (fun tgt k => ?_) ?_
      · show Steps p.tables e below (s₁.setTop (mkF m 10 #[.val (.int xx), .val (.int xr), .val (.int xb), .val (.int xc), .val (.int xd), .val (.int xe)] [(.int xe), (.int xx)])) tgt
        refine XS.icmpNo X0.here hx rfl (hb hby d8_10) rfl (teq hc10).2 ?_
        show Steps p.tables e below (s₁.setTop (mkF m 13 #[.val (.int xx), .val (.int xr), .val (.int xb), .val (.int xc), .val (.int xd), .val (.int xe)] [])) tgt
        refine XS.iconst X0.here hx rfl (hb hby d8_13) ?_
        exact k
      refine own_retI X0 hx hlk Bd.returns (hb hby d8_14) ?_ (by decide) (by decide)
      show Q8 Z xx xr xb xc xd xe h0 n0 (some (.int (4 : Int32))) s₁.heap _
      rw [e0]
      refine ⟨?_, N0, rfl⟩
      exact congrArg (fun q => some (Value.int q)) (by unfold own_xp; rw [if_neg hc2, if_pos hc10])
    · skip
      refine own_st (V := s₁.setTop (mkF m 18 #[.val (.int xx), .val (.int xr), .val (.int xb), .val (.int xc), .val (.int xd), .val (.int xe)] [(.int xd), (.int xx)])) (fun tgt k => ?_) ?_
      · show Steps p.tables e below (s₁.setTop (mkF m 10 #[.val (.int xx), .val (.int xr), .val (.int xb), .val (.int xc), .val (.int xd), .val (.int xe)] [(.int xe), (.int xx)])) tgt
        refine XS.icmpYes X0.here hx rfl (pc0 := 10) (pc' := 15) rfl (hb hby d8_10) rfl (feq hc10).2 (by decide) (by decide) ?_
        show Steps p.tables e below (s₁.setTop (mkF m 15 #[.val (.int xx), .val (.int xr), .val (.int xb), .val (.int xc), .val (.int xd), .val (.int xe)] [])) tgt
        refine XS.iloadN X0.here hx rfl (hb hby d8_15) rfl ?_
        show Steps p.tables e below (s₁.setTop (mkF m 16 #[.val (.int xx), .val (.int xr), .val (.int xb), .val (.int xc), .val (.int xd), .val (.int xe)] [(.int xx)])) tgt
        refine XS.iload X0.here hx rfl (hb hby d8_16) rfl ?_
        exact k
      by_cases hc18 : xx = xd
      · skip
        refine own_st (V := s₁.setTop (mkF m 22 #[.val (.int xx), .val (.int xr), .val (.int xb), .val (.int xc), .val (.int xd), .val (.int xe)] [(.int (3 : Int32))])) (fun tgt k => ?_) ?_
        · show Steps p.tables e below (s₁.setTop (mkF m 18 #[.val (.int xx), .val (.int xr), .val (.int xb), .val (.int xc), .val (.int xd), .val (.int xe)] [(.int xd), (.int xx)])) tgt
          refine XS.icmpNo X0.here hx rfl (hb hby d8_18) rfl (teq hc18).2 ?_
          show Steps p.tables e below (s₁.setTop (mkF m 21 #[.val (.int xx), .val (.int xr), .val (.int xb), .val (.int xc), .val (.int xd), .val (.int xe)] [])) tgt
          refine XS.iconst X0.here hx rfl (hb hby d8_21) ?_
          exact k
        refine own_retI X0 hx hlk Bd.returns (hb hby d8_22) ?_ (by decide) (by decide)
        show Q8 Z xx xr xb xc xd xe h0 n0 (some (.int (3 : Int32))) s₁.heap _
        rw [e0]
        refine ⟨?_, N0, rfl⟩
        exact congrArg (fun q => some (Value.int q)) (by unfold own_xp; rw [if_neg hc2, if_neg hc10, if_pos hc18])
      · skip
        refine own_st (V := s₁.setTop (mkF m 25 #[.val (.int xx), .val (.int xr), .val (.int xb), .val (.int xc), .val (.int xd), .val (.int xe)] [(.int xc), (.int xx)])) (fun tgt k => ?_) ?_
        · show Steps p.tables e below (s₁.setTop (mkF m 18 #[.val (.int xx), .val (.int xr), .val (.int xb), .val (.int xc), .val (.int xd), .val (.int xe)] [(.int xd), (.int xx)])) tgt
          refine XS.icmpYes X0.here hx rfl (pc0 := 18) (pc' := 23) rfl (hb hby d8_18) rfl (feq hc18).2 (by decide) (by decide) ?_
          show Steps p.tables e below (s₁.setTop (mkF m 23 #[.val (.int xx), .val (.int xr), .val (.int xb), .val (.int xc), .val (.int xd), .val (.int xe)] [])) tgt
          refine XS.iloadN X0.here hx rfl (hb hby d8_23) rfl ?_
          show Steps p.tables e below (s₁.setTop (mkF m 24 #[.val (.int xx), .val (.int xr), .val (.int xb), .val (.int xc), .val (.int xd), .val (.int xe)] [(.int xx)])) tgt
          refine XS.iloadN X0.here hx rfl (hb hby d8_24) rfl ?_
          exact k
        by_cases hc25 : xx = xc
        · skip
          refine own_st (V := s₁.setTop (mkF m 29 #[.val (.int xx), .val (.int xr), .val (.int xb), .val (.int xc), .val (.int xd), .val (.int xe)] [(.int (2 : Int32))])) (fun tgt k => ?_) ?_
          · show Steps p.tables e below (s₁.setTop (mkF m 25 #[.val (.int xx), .val (.int xr), .val (.int xb), .val (.int xc), .val (.int xd), .val (.int xe)] [(.int xc), (.int xx)])) tgt
            refine XS.icmpNo X0.here hx rfl (hb hby d8_25) rfl (teq hc25).2 ?_
            show Steps p.tables e below (s₁.setTop (mkF m 28 #[.val (.int xx), .val (.int xr), .val (.int xb), .val (.int xc), .val (.int xd), .val (.int xe)] [])) tgt
            refine XS.iconst X0.here hx rfl (hb hby d8_28) ?_
            exact k
          refine own_retI X0 hx hlk Bd.returns (hb hby d8_29) ?_ (by decide) (by decide)
          show Q8 Z xx xr xb xc xd xe h0 n0 (some (.int (2 : Int32))) s₁.heap _
          rw [e0]
          refine ⟨?_, N0, rfl⟩
          exact congrArg (fun q => some (Value.int q)) (by unfold own_xp; rw [if_neg hc2, if_neg hc10, if_neg hc18, if_pos hc25])
        · skip
          refine own_st (V := s₁.setTop (mkF m 32 #[.val (.int xx), .val (.int xr), .val (.int xb), .val (.int xc), .val (.int xd), .val (.int xe)] [(.int xb), (.int xx)])) (fun tgt k => ?_) ?_
          · show Steps p.tables e below (s₁.setTop (mkF m 25 #[.val (.int xx), .val (.int xr), .val (.int xb), .val (.int xc), .val (.int xd), .val (.int xe)] [(.int xc), (.int xx)])) tgt
            refine XS.icmpYes X0.here hx rfl (pc0 := 25) (pc' := 30) rfl (hb hby d8_25) rfl (feq hc25).2 (by decide) (by decide) ?_
            show Steps p.tables e below (s₁.setTop (mkF m 30 #[.val (.int xx), .val (.int xr), .val (.int xb), .val (.int xc), .val (.int xd), .val (.int xe)] [])) tgt
            refine XS.iloadN X0.here hx rfl (hb hby d8_30) rfl ?_
            show Steps p.tables e below (s₁.setTop (mkF m 31 #[.val (.int xx), .val (.int xr), .val (.int xb), .val (.int xc), .val (.int xd), .val (.int xe)] [(.int xx)])) tgt
            refine XS.iloadN X0.here hx rfl (hb hby d8_31) rfl ?_
            exact k
          by_cases hc32 : xx = xb
          · skip
            refine own_st (V := s₁.setTop (mkF m 36 #[.val (.int xx), .val (.int xr), .val (.int xb), .val (.int xc), .val (.int xd), .val (.int xe)] [(.int (1 : Int32))])) (fun tgt k => ?_) ?_
            · show Steps p.tables e below (s₁.setTop (mkF m 32 #[.val (.int xx), .val (.int xr), .val (.int xb), .val (.int xc), .val (.int xd), .val (.int xe)] [(.int xb), (.int xx)])) tgt
              refine XS.icmpNo X0.here hx rfl (hb hby d8_32) rfl (teq hc32).2 ?_
              show Steps p.tables e below (s₁.setTop (mkF m 35 #[.val (.int xx), .val (.int xr), .val (.int xb), .val (.int xc), .val (.int xd), .val (.int xe)] [])) tgt
              refine XS.iconst X0.here hx rfl (hb hby d8_35) ?_
              exact k
            refine own_retI X0 hx hlk Bd.returns (hb hby d8_36) ?_ (by decide) (by decide)
            show Q8 Z xx xr xb xc xd xe h0 n0 (some (.int (1 : Int32))) s₁.heap _
            rw [e0]
            refine ⟨?_, N0, rfl⟩
            exact congrArg (fun q => some (Value.int q)) (by unfold own_xp; rw [if_neg hc2, if_neg hc10, if_neg hc18, if_neg hc25, if_pos hc32])
          · skip
            refine own_st (V := s₁.setTop (mkF m 38 #[.val (.int xx), .val (.int xr), .val (.int xb), .val (.int xc), .val (.int xd), .val (.int xe)] [(.int (0 : Int32))])) (fun tgt k => ?_) ?_
            · show Steps p.tables e below (s₁.setTop (mkF m 32 #[.val (.int xx), .val (.int xr), .val (.int xb), .val (.int xc), .val (.int xd), .val (.int xe)] [(.int xb), (.int xx)])) tgt
              refine XS.icmpYes X0.here hx rfl (pc0 := 32) (pc' := 37) rfl (hb hby d8_32) rfl (feq hc32).2 (by decide) (by decide) ?_
              show Steps p.tables e below (s₁.setTop (mkF m 37 #[.val (.int xx), .val (.int xr), .val (.int xb), .val (.int xc), .val (.int xd), .val (.int xe)] [])) tgt
              refine XS.iconst X0.here hx rfl (hb hby d8_37) ?_
              exact k
            refine own_retI X0 hx hlk Bd.returns (hb hby d8_38) ?_ (by decide) (by decide)
            show Q8 Z xx xr xb xc xd xe h0 n0 (some (.int (0 : Int32))) s₁.heap _
            rw [e0]
            refine ⟨?_, N0, rfl⟩
            exact congrArg (fun q => some (Value.int q)) (by unfold own_xp; rw [if_neg hc2, if_neg hc10, if_neg hc18, if_neg hc25, if_neg hc32])
theorem pn_0 : plainName "com/example/sigpoint/sigpoint/IntIndexRemovePinLaw" = true := by first | (simp [plainName, overriddenIn]; done) | decide +kernel
theorem pd_0_0 : parseMethodDescriptor "()V" = some ⟨[], none⟩ := by decide +kernel
theorem pd_0_1 : parseMethodDescriptor "(II)V" = some ⟨[.int, .int], none⟩ := by decide +kernel
theorem pd_0_2 : parseMethodDescriptor "(I)V" = some ⟨[.int], none⟩ := by decide +kernel
theorem pd_0_3 : parseMethodDescriptor "(I)I" = some ⟨[.int], some .int⟩ := by decide +kernel
theorem pd_0_4 : parseMethodDescriptor "(IIIIII)I" = some ⟨[.int, .int, .int, .int, .int, .int], some .int⟩ := by decide +kernel
theorem ef_0 (m : MethodId) (x0 : Int32) (x1 : Int32) (x2 : Int32) (x3 : Int32) (x4 : Int32) (x5 : Int32) : entryFrame m #[(.int x0), (.int x1), (.int x2), (.int x3), (.int x4), (.int x5)] maxLocals = mkF m 0 #[.val (.int x0), .val (.int x1), .val (.int x2), .val (.int x3), .val (.int x4), .val (.int x5), .unset, .unset, .unset, .unset] [] := by first | (simp [entryFrame, mkF, argsToLocals, Value.category, maxLocals]; done) | rfl
def Q0 (Z : State) (aa : Int32) (bb : Int32) (cc : Int32) (dd : Int32) (ee : Int32) (sl : Int32) (h0 : Heap) (n0 : Nat) (v : Option Value) (h : Heap) (L : List Loc) : Prop := v = some (.int (1 : Int32)) ∧ Fr n0 L
set_option maxRecDepth 65536 in
set_option maxHeartbeats 40000000 in
theorem rm0 (l : Launch) (Z : State) (a0 : Array Value) (hw : ∀ d ∈ tables_1, d.before a0 Z = true) (ws : List Jvm.Cond) (aa : Int32) (bb : Int32) (cc : Int32) (dd : Int32) (ee : Int32) (sl : Int32) (h0 : Heap) (n0 : Nat) (Z0 : n0 ≤ h0.size) :
    MetFree l x (head1 (Jvm.Cond.code x code maxLocals ret :: ws) room_1) (fun a U => a = #[(.int aa), (.int bb), (.int cc), (.int dd), (.int ee), (.int sl)] ∧ Z.Warmed39 U.vm ∧ U.heap = h0) (fun _ _ _ _ _ => True) (fun _ U o U' => ∃ v L, o = .returned v ∧ Q0 Z aa bb cc dd ee sl h0 n0 v U'.heap L ∧ FrameEnd U o U' L 16 192) := by
  refine MetFree.of_bodySF (plainFor_of_name pn_0) hisR ?_
  intro p e s m args below meth c s₁ Bd hml0 hP hK
  obtain ⟨rfl, hZ, hh⟩ := hP
  have hx := Bd.exec
  have hby := Bd.bytes
  have hlk : meth.locks = false := BodyLoose.notSynchronized Bd
  have hml : c.maxLocals = 10 := hml0
  have hown : s.vm.findClass "com/example/sigpoint/sigpoint/IntIndexRemovePinLaw" = some m.cls := findClass_of_methodNamed Bd.named
  have hnm := (name_of_methodNamed Bd.named Bd.method).1
  have X0 : Stand p l e room_1 s m #[(.int aa), (.int bb), (.int cc), (.int dd), (.int ee), (.int sl)] below meth c s₁ [] 0 0 := Stand.of_body Bd
  have e0 : s₁.heap = h0 := by rw [← hh, Bd.state]; rfl
  have N0 := Fr.nil n0
  show own_Go p e below (own_G s (Q0 Z aa bb cc dd ee sl h0 n0) 16 192) (s₁.setTop (entryFrame m #[(.int aa), (.int bb), (.int cc), (.int dd), (.int ee), (.int sl)] maxLocals))
  refine own_st (fun tgt k => castTop (ef_0 m aa bb cc dd ee sl) k) ?_
  show own_Go p e below _ (s₁.setTop (mkF m 0 #[.val (.int aa), .val (.int bb), .val (.int cc), .val (.int dd), .val (.int ee), .val (.int sl), .unset, .unset, .unset, .unset] []))
  obtain ⟨T1, h1, X1, e1, E1, A1, D1, -, st1⟩ := newO X0 hx hZ hown (hw _ (List.mem_of_getElem? (i := 0) rfl)) (hw _ (List.mem_of_getElem? (i := 1) rfl)) (hw _ (List.mem_of_getElem? (i := 2) rfl)) e0 (g := (mkF m 0 #[.val (.int aa), .val (.int bb), .val (.int cc), .val (.int dd), .val (.int ee), .val (.int sl), .unset, .unset, .unset, .unset] [])) rfl (hb hby at_0) (by decide) (by decide)
  obtain ⟨ix, g1⟩ : ∃ z, z = h0.size := ⟨_, rfl⟩
  rw [← g1] at A1 D1 st1
  have g_ix : n0 ≤ ix := Nat.le_trans Z0 (Nat.le_of_eq g1.symm)
  have Zs1 : n0 ≤ h1.size := Nat.le_trans Z0 E1.1
  have F_ix_keys_1 : Fld Z h1 ix "com/example/sigpoint/sigpoint/IntIndex" "keys" "[I" .null := D1 (Or.inl (hw _ (List.mem_of_getElem? (i := 11) rfl))) (ty := (.array .int)) (by decide)
  have F_ix_values_1 : Fld Z h1 ix "com/example/sigpoint/sigpoint/IntIndex" "values" "[I" .null := D1 (Or.inl (hw _ (List.mem_of_getElem? (i := 13) rfl))) (ty := (.array .int)) (by decide)
  have F_ix_size_1 : Fld Z h1 ix "com/example/sigpoint/sigpoint/IntIndex" "size" "I" (.int (0 : Int32)) := D1 (Or.inl (hw _ (List.mem_of_getElem? (i := 20) rfl))) (ty := .int) (by decide)
  refine own_st st1 ?_
  show own_Go p e below _ (T1.setTop (mkF m 3 #[.val (.int aa), .val (.int bb), .val (.int cc), .val (.int dd), .val (.int ee), .val (.int sl), .unset, .unset, .unset, .unset] [(.ref ix)]))
  refine own_st (V := T1.setTop (mkF m 4 #[.val (.int aa), .val (.int bb), .val (.int cc), .val (.int dd), .val (.int ee), .val (.int sl), .unset, .unset, .unset, .unset] [(.ref ix), (.ref ix)])) (fun tgt k => ?_) ?_
  · show Steps p.tables e below (T1.setTop (mkF m 3 #[.val (.int aa), .val (.int bb), .val (.int cc), .val (.int dd), .val (.int ee), .val (.int sl), .unset, .unset, .unset, .unset] [(.ref ix)])) tgt
    refine XS.dup X1.here hx rfl (hb hby at_3) rfl rfl ?_
    exact k
  obtain ⟨v2, _, ⟨T2, L2, k2, n2⟩, -, Xc2, ⟨Lc2, hQ2, l2, y2, z2⟩, st2⟩ := X1.specialBack hx (y := (⟨"com/example/sigpoint/sigpoint/IntIndex", "<init>", "()V"⟩ : MethodName)) rfl hown (mvT hZ (hw _ (List.mem_of_getElem? (i := 3) rfl))) (mvT hZ (hw _ (List.mem_of_getElem? (i := 4) rfl))) (mvT hZ (hw _ (List.mem_of_getElem? (i := 5) rfl))) (by decide) (backOf (W := 1) (rm1 l Z a0 hw [] ix h1 n0 Zs1 A1 F_ix_keys_1 F_ix_values_1 F_ix_size_1 g_ix) hZ (hw _ (List.mem_of_getElem? (i := 5) rfl)) (hw _ (List.mem_of_getElem? (i := 2) rfl)) (by decide) (by decide)) (g := (mkF m 4 #[.val (.int aa), .val (.int bb), .val (.int cc), .val (.int dd), .val (.int ee), .val (.int sl), .unset, .unset, .unset, .unset] [(.ref ix), (.ref ix)])) rfl (by rw [hml]; rfl) (Steps.refl _) (a := ix) (argsL := []) (rest := [(.ref ix)]) (lenOf pd_0_0 rfl) rfl (by show 2 * 0 + _ ≤ _; exact Nat.le_of_eq rfl) (hb hby at_4) (fun _ _ => ⟨rfl, e1, (by decide : 1 + 2 ≤ _), (by decide : 3 + 32 ≤ _)⟩)
  dsimp only [Pt.U, Pt.locs, Pt.cells, Pt.slots] at Xc2 l2 y2 z2 st2 hQ2
  have X2 := own_cast Xc2 l2 y2 z2
  obtain ⟨ev2, N2q, K2, ka_2, va_2, g2_0, g2_1, g2_2, g2_3, g2_4, g2_5, g2_6, g2_7, g2_8, g2_9, g2_10⟩ := hQ2
  rw [ev2] at st2
  have N2 := Fr.app N0 N2q
  have ne_ix_ka_2 : ix ≠ ka_2 := Nat.ne_of_lt (Nat.lt_of_lt_of_le A1.lt g2_0)
  have ne_ix_va_2 : ix ≠ va_2 := Nat.ne_of_lt (Nat.lt_of_lt_of_le A1.lt g2_1)
  have E_ix_2 := A1.keep K2
  have Zs2 : n0 ≤ T2.heap.size := Nat.le_trans Zs1 K2.1
  refine own_st (fun tgt k => st2.trans k) ?_
  show own_Go p e below _ (T2.setTop (mkF m 7 #[.val (.int aa), .val (.int bb), .val (.int cc), .val (.int dd), .val (.int ee), .val (.int sl), .unset, .unset, .unset, .unset] [(.ref ix)]))
  refine own_st (V := T2.setTop (mkF m 13 #[.val (.int aa), .val (.int bb), .val (.int cc), .val (.int dd), .val (.int ee), .val (.int sl), .val (.ref ix), .unset, .unset, .unset] [(.int (0 : Int32)), (.int aa), (.ref ix)])) (fun tgt k => ?_) ?_
  · show Steps p.tables e below (T2.setTop (mkF m 7 #[.val (.int aa), .val (.int bb), .val (.int cc), .val (.int dd), .val (.int ee), .val (.int sl), .unset, .unset, .unset, .unset] [(.ref ix)])) tgt
    refine XS.astore X2.here hx rfl (hb hby at_7) rfl rfl (l' := #[.val (.int aa), .val (.int bb), .val (.int cc), .val (.int dd), .val (.int ee), .val (.int sl), .val (.ref ix), .unset, .unset, .unset]) rfl ?_
    show Steps p.tables e below (T2.setTop (mkF m 9 #[.val (.int aa), .val (.int bb), .val (.int cc), .val (.int dd), .val (.int ee), .val (.int sl), .val (.ref ix), .unset, .unset, .unset] [])) tgt
    refine XS.aload X2.here hx rfl (hb hby at_9) rfl rfl ?_
    show Steps p.tables e below (T2.setTop (mkF m 11 #[.val (.int aa), .val (.int bb), .val (.int cc), .val (.int dd), .val (.int ee), .val (.int sl), .val (.ref ix), .unset, .unset, .unset] [(.ref ix)])) tgt
    refine XS.iloadN X2.here hx rfl (hb hby at_11) rfl ?_
    show Steps p.tables e below (T2.setTop (mkF m 12 #[.val (.int aa), .val (.int bb), .val (.int cc), .val (.int dd), .val (.int ee), .val (.int sl), .val (.ref ix), .unset, .unset, .unset] [(.int aa), (.ref ix)])) tgt
    refine XS.iconst X2.here hx rfl (hb hby at_12) ?_
    exact k
  obtain ⟨zz0, hz0, hv0⟩ := own_free (fun _ => (0 : Int32)) 16 (by have := own_cnt0; omega)
  obtain ⟨t0, ht0, hp0⟩ := own_find (fun _ => (0 : Int32)) (fun _ => (0 : Int32)) aa zz0 hz0 hv0
  obtain ⟨cq3, kq3, q3a, q3b, q3c⟩ := isOf hZ rfl g2_5
  obtain ⟨v3, _, ⟨T3, L3, k3, n3⟩, -, Xc3, ⟨Lc3, hQ3, l3, y3, z3⟩, st3⟩ := X2.virtualBack hx (y := (⟨"com/example/sigpoint/sigpoint/IntIndex", "put", "(II)V"⟩ : MethodName)) (z := (⟨"com/example/sigpoint/sigpoint/IntIndex", "put", "(II)V"⟩ : MethodName)) hown (mvT hZ (hw _ (List.mem_of_getElem? (i := 14) rfl))) (mvT hZ (hw _ (List.mem_of_getElem? (i := 15) rfl))) (notFace_of_selects (args := #[]) (mvT hZ (hw _ (List.mem_of_getElem? (i := 17) rfl)))) (mvT hZ (hw _ (List.mem_of_getElem? (i := 17) rfl))) (mvT hZ (hw _ (List.mem_of_getElem? (i := 16) rfl))) (by decide) (backOf (W := 0) (rm3 l Z a0 hw [] ix aa (0 : Int32) ka_2 va_2 (fun _ => (0 : Int32)) (fun _ => (0 : Int32)) (0 : Int32) t0 T2.heap n0 Zs2 g2_5 g2_6 g2_7 g2_8 g2_9 g2_10 g_ix g2_2 g2_3 g2_4 ne_ix_ka_2 ne_ix_va_2 (by decide) (by decide : 0 ≤ (0 : Int32).toInt ∧ (0 : Int32).toInt ≤ 6) ht0 hp0) hZ (hw _ (List.mem_of_getElem? (i := 18) rfl)) (hw _ (List.mem_of_getElem? (i := 2) rfl)) (by decide) (by decide)) q3a q3c (g := (mkF m 13 #[.val (.int aa), .val (.int bb), .val (.int cc), .val (.int dd), .val (.int ee), .val (.int sl), .val (.ref ix), .unset, .unset, .unset] [(.int (0 : Int32)), (.int aa), (.ref ix)])) rfl (by rw [hml]; rfl) (Steps.refl _) (argsL := [(.int aa), (.int (0 : Int32))]) (rest := []) (lenOf pd_0_1 rfl) rfl (by show 2 * 0 + _ ≤ _; exact Nat.le_of_eq rfl) (hb hby at_13) (fun _ _ => ⟨rfl, rfl, (by decide : 3 + 0 ≤ _), (by decide : 35 + 0 ≤ _)⟩)
  dsimp only [Pt.U, Pt.locs, Pt.cells, Pt.slots] at Xc3 l3 y3 z3 st3 hQ3
  have X3 := own_cast Xc3 l3 y3 z3
  obtain ⟨ev3, N3q, K3, g3_0, g3_1, g3_2, g3_3, g3_4, g3_5⟩ := hQ3
  rw [ev3] at st3
  have N3 := Fr.app N2 N3q
  have E_ix_3 := g2_5.keep K3
  have Zs3 : n0 ≤ T3.heap.size := Nat.le_trans Zs2 K3.1
  refine own_st (fun tgt k => st3.trans k) ?_
  show own_Go p e below _ (T3.setTop (mkF m 16 #[.val (.int aa), .val (.int bb), .val (.int cc), .val (.int dd), .val (.int ee), .val (.int sl), .val (.ref ix), .unset, .unset, .unset] []))
  obtain ⟨sq1, hsq1⟩ : ∃ z : Int32, z = (if (fun _ => (0 : Int32)) ((own_H aa + t0) % 16) = 0 then (0 : Int32) + (1 : Int32) else (0 : Int32)) := ⟨_, rfl⟩
  have Fg_ix_4 := g3_3
  rw [← hsq1] at Fg_ix_4
  have S1 : 0 ≤ sq1.toInt ∧ sq1.toInt ≤ 1 := by rw [hsq1]; exact own_szup (by decide : 0 ≤ (0 : Int32).toInt ∧ (0 : Int32).toInt ≤ 0) (by decide) _
  obtain ⟨kq1, hkq1⟩ : ∃ f : Nat → Int32, f = (own_up (fun _ => (0 : Int32)) ((own_H aa + t0) % 16) aa) := ⟨_, rfl⟩
  have Ag_ka_2_5 := g3_4
  rw [← hkq1] at Ag_ka_2_5
  obtain ⟨vq1, hvq1⟩ : ∃ f : Nat → Int32, f = (own_up (fun _ => (0 : Int32)) ((own_H aa + t0) % 16) ((0 : Int32) + (1 : Int32))) := ⟨_, rfl⟩
  have Ag_va_2_6 := g3_5
  rw [← hvq1] at Ag_va_2_6
  obtain ⟨I1, la1, lb1⟩ := own_put_ok own_inv0 ht0 hp0 ((0 : Int32) + (1 : Int32)) (by decide)
  rw [← hkq1, ← hvq1] at I1 la1 lb1
  rw [show ((0 : Int32) + (1 : Int32)) - 1 = (0 : Int32) from by decide] at la1
  have C1 : own_cnt vq1 16 ≤ 1 := by rw [hvq1]; exact Nat.le_trans (own_cnt_up _ _ _ 16) (Nat.succ_le_succ own_cnt0)
  have L1 : ∀ w, w = aa → own_look kq1 vq1 w (0 : Int32) := fun w q => by rw [q]; exact la1
  refine own_st (V := T3.setTop (mkF m 20 #[.val (.int aa), .val (.int bb), .val (.int cc), .val (.int dd), .val (.int ee), .val (.int sl), .val (.ref ix), .unset, .unset, .unset] [(.int (1 : Int32)), (.int bb), (.ref ix)])) (fun tgt k => ?_) ?_
  · show Steps p.tables e below (T3.setTop (mkF m 16 #[.val (.int aa), .val (.int bb), .val (.int cc), .val (.int dd), .val (.int ee), .val (.int sl), .val (.ref ix), .unset, .unset, .unset] [])) tgt
    refine XS.aload X3.here hx rfl (hb hby at_16) rfl rfl ?_
    show Steps p.tables e below (T3.setTop (mkF m 18 #[.val (.int aa), .val (.int bb), .val (.int cc), .val (.int dd), .val (.int ee), .val (.int sl), .val (.ref ix), .unset, .unset, .unset] [(.ref ix)])) tgt
    refine XS.iloadN X3.here hx rfl (hb hby at_18) rfl ?_
    show Steps p.tables e below (T3.setTop (mkF m 19 #[.val (.int aa), .val (.int bb), .val (.int cc), .val (.int dd), .val (.int ee), .val (.int sl), .val (.ref ix), .unset, .unset, .unset] [(.int bb), (.ref ix)])) tgt
    refine XS.iconst X3.here hx rfl (hb hby at_19) ?_
    exact k
  obtain ⟨zz1, hz1, hv1⟩ := own_free vq1 16 (by have := C1; omega)
  obtain ⟨t1, ht1, hp1⟩ := own_find kq1 vq1 bb zz1 hz1 hv1
  obtain ⟨cq7, kq7, q7a, q7b, q7c⟩ := isOf hZ rfl g3_0
  obtain ⟨v7, _, ⟨T7, L7, k7, n7⟩, -, Xc7, ⟨Lc7, hQ7, l7, y7, z7⟩, st7⟩ := X3.virtualBack hx (y := (⟨"com/example/sigpoint/sigpoint/IntIndex", "put", "(II)V"⟩ : MethodName)) (z := (⟨"com/example/sigpoint/sigpoint/IntIndex", "put", "(II)V"⟩ : MethodName)) hown (mvT hZ (hw _ (List.mem_of_getElem? (i := 14) rfl))) (mvT hZ (hw _ (List.mem_of_getElem? (i := 15) rfl))) (notFace_of_selects (args := #[]) (mvT hZ (hw _ (List.mem_of_getElem? (i := 17) rfl)))) (mvT hZ (hw _ (List.mem_of_getElem? (i := 17) rfl))) (mvT hZ (hw _ (List.mem_of_getElem? (i := 16) rfl))) (by decide) (backOf (W := 0) (rm3 l Z a0 hw [] ix bb (1 : Int32) ka_2 va_2 kq1 vq1 sq1 t1 T3.heap n0 Zs3 g3_0 g3_1 g3_2 Fg_ix_4 Ag_ka_2_5 Ag_va_2_6 g_ix g2_2 g2_3 g2_4 ne_ix_ka_2 ne_ix_va_2 (by decide) ⟨S1.1, by have := S1.2; omega⟩ ht1 hp1) hZ (hw _ (List.mem_of_getElem? (i := 18) rfl)) (hw _ (List.mem_of_getElem? (i := 2) rfl)) (by decide) (by decide)) q7a q7c (g := (mkF m 20 #[.val (.int aa), .val (.int bb), .val (.int cc), .val (.int dd), .val (.int ee), .val (.int sl), .val (.ref ix), .unset, .unset, .unset] [(.int (1 : Int32)), (.int bb), (.ref ix)])) rfl (by rw [hml]; rfl) (Steps.refl _) (argsL := [(.int bb), (.int (1 : Int32))]) (rest := []) (lenOf pd_0_1 rfl) rfl (by show 2 * 0 + _ ≤ _; exact Nat.le_of_eq rfl) (hb hby at_20) (fun _ _ => ⟨rfl, rfl, (by decide : 3 + 0 ≤ _), (by decide : 35 + 0 ≤ _)⟩)
  dsimp only [Pt.U, Pt.locs, Pt.cells, Pt.slots] at Xc7 l7 y7 z7 st7 hQ7
  have X7 := own_cast Xc7 l7 y7 z7
  obtain ⟨ev7, N7q, K7, g7_0, g7_1, g7_2, g7_3, g7_4, g7_5⟩ := hQ7
  rw [ev7] at st7
  have N7 := Fr.app N3 N7q
  have E_ix_7 := g3_0.keep K7
  have Zs7 : n0 ≤ T7.heap.size := Nat.le_trans Zs3 K7.1
  refine own_st (fun tgt k => st7.trans k) ?_
  show own_Go p e below _ (T7.setTop (mkF m 23 #[.val (.int aa), .val (.int bb), .val (.int cc), .val (.int dd), .val (.int ee), .val (.int sl), .val (.ref ix), .unset, .unset, .unset] []))
  obtain ⟨sq2, hsq2⟩ : ∃ z : Int32, z = (if vq1 ((own_H bb + t1) % 16) = 0 then sq1 + (1 : Int32) else sq1) := ⟨_, rfl⟩
  have Fg_ix_8 := g7_3
  rw [← hsq2] at Fg_ix_8
  have S2 : 0 ≤ sq2.toInt ∧ sq2.toInt ≤ 2 := by rw [hsq2]; exact own_szup S1 (by decide) _
  obtain ⟨kq2, hkq2⟩ : ∃ f : Nat → Int32, f = (own_up kq1 ((own_H bb + t1) % 16) bb) := ⟨_, rfl⟩
  have Ag_ka_2_9 := g7_4
  rw [← hkq2] at Ag_ka_2_9
  obtain ⟨vq2, hvq2⟩ : ∃ f : Nat → Int32, f = (own_up vq1 ((own_H bb + t1) % 16) ((1 : Int32) + (1 : Int32))) := ⟨_, rfl⟩
  have Ag_va_2_10 := g7_5
  rw [← hvq2] at Ag_va_2_10
  obtain ⟨I2, la2, lb2⟩ := own_put_ok I1 ht1 hp1 ((1 : Int32) + (1 : Int32)) (by decide)
  rw [← hkq2, ← hvq2] at I2 la2 lb2
  rw [show ((1 : Int32) + (1 : Int32)) - 1 = (1 : Int32) from by decide] at la2
  have C2 : own_cnt vq2 16 ≤ 2 := by rw [hvq2]; exact Nat.le_trans (own_cnt_up _ _ _ 16) (Nat.succ_le_succ C1)
  have L2 : ∀ w, (w = aa) ∨ w = bb → own_look kq2 vq2 w (if w = bb then (1 : Int32) else (0 : Int32)) := by
    intro w hw
    by_cases q : w = bb
    · rw [if_pos q, q]; exact la2
    · rw [if_neg q]; exact lb2 w _ q (L1 w (hw.resolve_right q))
  refine own_st (V := T7.setTop (mkF m 27 #[.val (.int aa), .val (.int bb), .val (.int cc), .val (.int dd), .val (.int ee), .val (.int sl), .val (.ref ix), .unset, .unset, .unset] [(.int (2 : Int32)), (.int cc), (.ref ix)])) (fun tgt k => ?_) ?_
  · show Steps p.tables e below (T7.setTop (mkF m 23 #[.val (.int aa), .val (.int bb), .val (.int cc), .val (.int dd), .val (.int ee), .val (.int sl), .val (.ref ix), .unset, .unset, .unset] [])) tgt
    refine XS.aload X7.here hx rfl (hb hby at_23) rfl rfl ?_
    show Steps p.tables e below (T7.setTop (mkF m 25 #[.val (.int aa), .val (.int bb), .val (.int cc), .val (.int dd), .val (.int ee), .val (.int sl), .val (.ref ix), .unset, .unset, .unset] [(.ref ix)])) tgt
    refine XS.iloadN X7.here hx rfl (hb hby at_25) rfl ?_
    show Steps p.tables e below (T7.setTop (mkF m 26 #[.val (.int aa), .val (.int bb), .val (.int cc), .val (.int dd), .val (.int ee), .val (.int sl), .val (.ref ix), .unset, .unset, .unset] [(.int cc), (.ref ix)])) tgt
    refine XS.iconst X7.here hx rfl (hb hby at_26) ?_
    exact k
  obtain ⟨zz2, hz2, hv2⟩ := own_free vq2 16 (by have := C2; omega)
  obtain ⟨t2, ht2, hp2⟩ := own_find kq2 vq2 cc zz2 hz2 hv2
  obtain ⟨cq11, kq11, q11a, q11b, q11c⟩ := isOf hZ rfl g7_0
  obtain ⟨v11, _, ⟨T11, L11, k11, n11⟩, -, Xc11, ⟨Lc11, hQ11, l11, y11, z11⟩, st11⟩ := X7.virtualBack hx (y := (⟨"com/example/sigpoint/sigpoint/IntIndex", "put", "(II)V"⟩ : MethodName)) (z := (⟨"com/example/sigpoint/sigpoint/IntIndex", "put", "(II)V"⟩ : MethodName)) hown (mvT hZ (hw _ (List.mem_of_getElem? (i := 14) rfl))) (mvT hZ (hw _ (List.mem_of_getElem? (i := 15) rfl))) (notFace_of_selects (args := #[]) (mvT hZ (hw _ (List.mem_of_getElem? (i := 17) rfl)))) (mvT hZ (hw _ (List.mem_of_getElem? (i := 17) rfl))) (mvT hZ (hw _ (List.mem_of_getElem? (i := 16) rfl))) (by decide) (backOf (W := 0) (rm3 l Z a0 hw [] ix cc (2 : Int32) ka_2 va_2 kq2 vq2 sq2 t2 T7.heap n0 Zs7 g7_0 g7_1 g7_2 Fg_ix_8 Ag_ka_2_9 Ag_va_2_10 g_ix g2_2 g2_3 g2_4 ne_ix_ka_2 ne_ix_va_2 (by decide) ⟨S2.1, by have := S2.2; omega⟩ ht2 hp2) hZ (hw _ (List.mem_of_getElem? (i := 18) rfl)) (hw _ (List.mem_of_getElem? (i := 2) rfl)) (by decide) (by decide)) q11a q11c (g := (mkF m 27 #[.val (.int aa), .val (.int bb), .val (.int cc), .val (.int dd), .val (.int ee), .val (.int sl), .val (.ref ix), .unset, .unset, .unset] [(.int (2 : Int32)), (.int cc), (.ref ix)])) rfl (by rw [hml]; rfl) (Steps.refl _) (argsL := [(.int cc), (.int (2 : Int32))]) (rest := []) (lenOf pd_0_1 rfl) rfl (by show 2 * 0 + _ ≤ _; exact Nat.le_of_eq rfl) (hb hby at_27) (fun _ _ => ⟨rfl, rfl, (by decide : 3 + 0 ≤ _), (by decide : 35 + 0 ≤ _)⟩)
  dsimp only [Pt.U, Pt.locs, Pt.cells, Pt.slots] at Xc11 l11 y11 z11 st11 hQ11
  have X11 := own_cast Xc11 l11 y11 z11
  obtain ⟨ev11, N11q, K11, g11_0, g11_1, g11_2, g11_3, g11_4, g11_5⟩ := hQ11
  rw [ev11] at st11
  have N11 := Fr.app N7 N11q
  have E_ix_11 := g7_0.keep K11
  have Zs11 : n0 ≤ T11.heap.size := Nat.le_trans Zs7 K11.1
  refine own_st (fun tgt k => st11.trans k) ?_
  show own_Go p e below _ (T11.setTop (mkF m 30 #[.val (.int aa), .val (.int bb), .val (.int cc), .val (.int dd), .val (.int ee), .val (.int sl), .val (.ref ix), .unset, .unset, .unset] []))
  obtain ⟨sq3, hsq3⟩ : ∃ z : Int32, z = (if vq2 ((own_H cc + t2) % 16) = 0 then sq2 + (1 : Int32) else sq2) := ⟨_, rfl⟩
  have Fg_ix_12 := g11_3
  rw [← hsq3] at Fg_ix_12
  have S3 : 0 ≤ sq3.toInt ∧ sq3.toInt ≤ 3 := by rw [hsq3]; exact own_szup S2 (by decide) _
  obtain ⟨kq3, hkq3⟩ : ∃ f : Nat → Int32, f = (own_up kq2 ((own_H cc + t2) % 16) cc) := ⟨_, rfl⟩
  have Ag_ka_2_13 := g11_4
  rw [← hkq3] at Ag_ka_2_13
  obtain ⟨vq3, hvq3⟩ : ∃ f : Nat → Int32, f = (own_up vq2 ((own_H cc + t2) % 16) ((2 : Int32) + (1 : Int32))) := ⟨_, rfl⟩
  have Ag_va_2_14 := g11_5
  rw [← hvq3] at Ag_va_2_14
  obtain ⟨I3, la3, lb3⟩ := own_put_ok I2 ht2 hp2 ((2 : Int32) + (1 : Int32)) (by decide)
  rw [← hkq3, ← hvq3] at I3 la3 lb3
  rw [show ((2 : Int32) + (1 : Int32)) - 1 = (2 : Int32) from by decide] at la3
  have C3 : own_cnt vq3 16 ≤ 3 := by rw [hvq3]; exact Nat.le_trans (own_cnt_up _ _ _ 16) (Nat.succ_le_succ C2)
  have L3 : ∀ w, ((w = aa) ∨ w = bb) ∨ w = cc → own_look kq3 vq3 w (if w = cc then (2 : Int32) else (if w = bb then (1 : Int32) else (0 : Int32))) := by
    intro w hw
    by_cases q : w = cc
    · rw [if_pos q, q]; exact la3
    · rw [if_neg q]; exact lb3 w _ q (L2 w (hw.resolve_right q))
  refine own_st (V := T11.setTop (mkF m 34 #[.val (.int aa), .val (.int bb), .val (.int cc), .val (.int dd), .val (.int ee), .val (.int sl), .val (.ref ix), .unset, .unset, .unset] [(.int (3 : Int32)), (.int dd), (.ref ix)])) (fun tgt k => ?_) ?_
  · show Steps p.tables e below (T11.setTop (mkF m 30 #[.val (.int aa), .val (.int bb), .val (.int cc), .val (.int dd), .val (.int ee), .val (.int sl), .val (.ref ix), .unset, .unset, .unset] [])) tgt
    refine XS.aload X11.here hx rfl (hb hby at_30) rfl rfl ?_
    show Steps p.tables e below (T11.setTop (mkF m 32 #[.val (.int aa), .val (.int bb), .val (.int cc), .val (.int dd), .val (.int ee), .val (.int sl), .val (.ref ix), .unset, .unset, .unset] [(.ref ix)])) tgt
    refine XS.iloadN X11.here hx rfl (hb hby at_32) rfl ?_
    show Steps p.tables e below (T11.setTop (mkF m 33 #[.val (.int aa), .val (.int bb), .val (.int cc), .val (.int dd), .val (.int ee), .val (.int sl), .val (.ref ix), .unset, .unset, .unset] [(.int dd), (.ref ix)])) tgt
    refine XS.iconst X11.here hx rfl (hb hby at_33) ?_
    exact k
  obtain ⟨zz3, hz3, hv3⟩ := own_free vq3 16 (by have := C3; omega)
  obtain ⟨t3, ht3, hp3⟩ := own_find kq3 vq3 dd zz3 hz3 hv3
  obtain ⟨cq15, kq15, q15a, q15b, q15c⟩ := isOf hZ rfl g11_0
  obtain ⟨v15, _, ⟨T15, L15, k15, n15⟩, -, Xc15, ⟨Lc15, hQ15, l15, y15, z15⟩, st15⟩ := X11.virtualBack hx (y := (⟨"com/example/sigpoint/sigpoint/IntIndex", "put", "(II)V"⟩ : MethodName)) (z := (⟨"com/example/sigpoint/sigpoint/IntIndex", "put", "(II)V"⟩ : MethodName)) hown (mvT hZ (hw _ (List.mem_of_getElem? (i := 14) rfl))) (mvT hZ (hw _ (List.mem_of_getElem? (i := 15) rfl))) (notFace_of_selects (args := #[]) (mvT hZ (hw _ (List.mem_of_getElem? (i := 17) rfl)))) (mvT hZ (hw _ (List.mem_of_getElem? (i := 17) rfl))) (mvT hZ (hw _ (List.mem_of_getElem? (i := 16) rfl))) (by decide) (backOf (W := 0) (rm3 l Z a0 hw [] ix dd (3 : Int32) ka_2 va_2 kq3 vq3 sq3 t3 T11.heap n0 Zs11 g11_0 g11_1 g11_2 Fg_ix_12 Ag_ka_2_13 Ag_va_2_14 g_ix g2_2 g2_3 g2_4 ne_ix_ka_2 ne_ix_va_2 (by decide) ⟨S3.1, by have := S3.2; omega⟩ ht3 hp3) hZ (hw _ (List.mem_of_getElem? (i := 18) rfl)) (hw _ (List.mem_of_getElem? (i := 2) rfl)) (by decide) (by decide)) q15a q15c (g := (mkF m 34 #[.val (.int aa), .val (.int bb), .val (.int cc), .val (.int dd), .val (.int ee), .val (.int sl), .val (.ref ix), .unset, .unset, .unset] [(.int (3 : Int32)), (.int dd), (.ref ix)])) rfl (by rw [hml]; rfl) (Steps.refl _) (argsL := [(.int dd), (.int (3 : Int32))]) (rest := []) (lenOf pd_0_1 rfl) rfl (by show 2 * 0 + _ ≤ _; exact Nat.le_of_eq rfl) (hb hby at_34) (fun _ _ => ⟨rfl, rfl, (by decide : 3 + 0 ≤ _), (by decide : 35 + 0 ≤ _)⟩)
  dsimp only [Pt.U, Pt.locs, Pt.cells, Pt.slots] at Xc15 l15 y15 z15 st15 hQ15
  have X15 := own_cast Xc15 l15 y15 z15
  obtain ⟨ev15, N15q, K15, g15_0, g15_1, g15_2, g15_3, g15_4, g15_5⟩ := hQ15
  rw [ev15] at st15
  have N15 := Fr.app N11 N15q
  have E_ix_15 := g11_0.keep K15
  have Zs15 : n0 ≤ T15.heap.size := Nat.le_trans Zs11 K15.1
  refine own_st (fun tgt k => st15.trans k) ?_
  show own_Go p e below _ (T15.setTop (mkF m 37 #[.val (.int aa), .val (.int bb), .val (.int cc), .val (.int dd), .val (.int ee), .val (.int sl), .val (.ref ix), .unset, .unset, .unset] []))
  obtain ⟨sq4, hsq4⟩ : ∃ z : Int32, z = (if vq3 ((own_H dd + t3) % 16) = 0 then sq3 + (1 : Int32) else sq3) := ⟨_, rfl⟩
  have Fg_ix_16 := g15_3
  rw [← hsq4] at Fg_ix_16
  have S4 : 0 ≤ sq4.toInt ∧ sq4.toInt ≤ 4 := by rw [hsq4]; exact own_szup S3 (by decide) _
  obtain ⟨kq4, hkq4⟩ : ∃ f : Nat → Int32, f = (own_up kq3 ((own_H dd + t3) % 16) dd) := ⟨_, rfl⟩
  have Ag_ka_2_17 := g15_4
  rw [← hkq4] at Ag_ka_2_17
  obtain ⟨vq4, hvq4⟩ : ∃ f : Nat → Int32, f = (own_up vq3 ((own_H dd + t3) % 16) ((3 : Int32) + (1 : Int32))) := ⟨_, rfl⟩
  have Ag_va_2_18 := g15_5
  rw [← hvq4] at Ag_va_2_18
  obtain ⟨I4, la4, lb4⟩ := own_put_ok I3 ht3 hp3 ((3 : Int32) + (1 : Int32)) (by decide)
  rw [← hkq4, ← hvq4] at I4 la4 lb4
  rw [show ((3 : Int32) + (1 : Int32)) - 1 = (3 : Int32) from by decide] at la4
  have C4 : own_cnt vq4 16 ≤ 4 := by rw [hvq4]; exact Nat.le_trans (own_cnt_up _ _ _ 16) (Nat.succ_le_succ C3)
  have L4 : ∀ w, (((w = aa) ∨ w = bb) ∨ w = cc) ∨ w = dd → own_look kq4 vq4 w (if w = dd then (3 : Int32) else (if w = cc then (2 : Int32) else (if w = bb then (1 : Int32) else (0 : Int32)))) := by
    intro w hw
    by_cases q : w = dd
    · rw [if_pos q, q]; exact la4
    · rw [if_neg q]; exact lb4 w _ q (L3 w (hw.resolve_right q))
  refine own_st (V := T15.setTop (mkF m 42 #[.val (.int aa), .val (.int bb), .val (.int cc), .val (.int dd), .val (.int ee), .val (.int sl), .val (.ref ix), .unset, .unset, .unset] [(.int (4 : Int32)), (.int ee), (.ref ix)])) (fun tgt k => ?_) ?_
  · show Steps p.tables e below (T15.setTop (mkF m 37 #[.val (.int aa), .val (.int bb), .val (.int cc), .val (.int dd), .val (.int ee), .val (.int sl), .val (.ref ix), .unset, .unset, .unset] [])) tgt
    refine XS.aload X15.here hx rfl (hb hby at_37) rfl rfl ?_
    show Steps p.tables e below (T15.setTop (mkF m 39 #[.val (.int aa), .val (.int bb), .val (.int cc), .val (.int dd), .val (.int ee), .val (.int sl), .val (.ref ix), .unset, .unset, .unset] [(.ref ix)])) tgt
    refine XS.iload X15.here hx rfl (hb hby at_39) rfl ?_
    show Steps p.tables e below (T15.setTop (mkF m 41 #[.val (.int aa), .val (.int bb), .val (.int cc), .val (.int dd), .val (.int ee), .val (.int sl), .val (.ref ix), .unset, .unset, .unset] [(.int ee), (.ref ix)])) tgt
    refine XS.iconst X15.here hx rfl (hb hby at_41) ?_
    exact k
  obtain ⟨zz4, hz4, hv4⟩ := own_free vq4 16 (by have := C4; omega)
  obtain ⟨t4, ht4, hp4⟩ := own_find kq4 vq4 ee zz4 hz4 hv4
  obtain ⟨cq19, kq19, q19a, q19b, q19c⟩ := isOf hZ rfl g15_0
  obtain ⟨v19, _, ⟨T19, L19, k19, n19⟩, -, Xc19, ⟨Lc19, hQ19, l19, y19, z19⟩, st19⟩ := X15.virtualBack hx (y := (⟨"com/example/sigpoint/sigpoint/IntIndex", "put", "(II)V"⟩ : MethodName)) (z := (⟨"com/example/sigpoint/sigpoint/IntIndex", "put", "(II)V"⟩ : MethodName)) hown (mvT hZ (hw _ (List.mem_of_getElem? (i := 14) rfl))) (mvT hZ (hw _ (List.mem_of_getElem? (i := 15) rfl))) (notFace_of_selects (args := #[]) (mvT hZ (hw _ (List.mem_of_getElem? (i := 17) rfl)))) (mvT hZ (hw _ (List.mem_of_getElem? (i := 17) rfl))) (mvT hZ (hw _ (List.mem_of_getElem? (i := 16) rfl))) (by decide) (backOf (W := 0) (rm3 l Z a0 hw [] ix ee (4 : Int32) ka_2 va_2 kq4 vq4 sq4 t4 T15.heap n0 Zs15 g15_0 g15_1 g15_2 Fg_ix_16 Ag_ka_2_17 Ag_va_2_18 g_ix g2_2 g2_3 g2_4 ne_ix_ka_2 ne_ix_va_2 (by decide) ⟨S4.1, by have := S4.2; omega⟩ ht4 hp4) hZ (hw _ (List.mem_of_getElem? (i := 18) rfl)) (hw _ (List.mem_of_getElem? (i := 2) rfl)) (by decide) (by decide)) q19a q19c (g := (mkF m 42 #[.val (.int aa), .val (.int bb), .val (.int cc), .val (.int dd), .val (.int ee), .val (.int sl), .val (.ref ix), .unset, .unset, .unset] [(.int (4 : Int32)), (.int ee), (.ref ix)])) rfl (by rw [hml]; rfl) (Steps.refl _) (argsL := [(.int ee), (.int (4 : Int32))]) (rest := []) (lenOf pd_0_1 rfl) rfl (by show 2 * 0 + _ ≤ _; exact Nat.le_of_eq rfl) (hb hby at_42) (fun _ _ => ⟨rfl, rfl, (by decide : 3 + 0 ≤ _), (by decide : 35 + 0 ≤ _)⟩)
  dsimp only [Pt.U, Pt.locs, Pt.cells, Pt.slots] at Xc19 l19 y19 z19 st19 hQ19
  have X19 := own_cast Xc19 l19 y19 z19
  obtain ⟨ev19, N19q, K19, g19_0, g19_1, g19_2, g19_3, g19_4, g19_5⟩ := hQ19
  rw [ev19] at st19
  have N19 := Fr.app N15 N19q
  have E_ix_19 := g15_0.keep K19
  have Zs19 : n0 ≤ T19.heap.size := Nat.le_trans Zs15 K19.1
  refine own_st (fun tgt k => st19.trans k) ?_
  show own_Go p e below _ (T19.setTop (mkF m 45 #[.val (.int aa), .val (.int bb), .val (.int cc), .val (.int dd), .val (.int ee), .val (.int sl), .val (.ref ix), .unset, .unset, .unset] []))
  obtain ⟨sq5, hsq5⟩ : ∃ z : Int32, z = (if vq4 ((own_H ee + t4) % 16) = 0 then sq4 + (1 : Int32) else sq4) := ⟨_, rfl⟩
  have Fg_ix_20 := g19_3
  rw [← hsq5] at Fg_ix_20
  have S5 : 0 ≤ sq5.toInt ∧ sq5.toInt ≤ 5 := by rw [hsq5]; exact own_szup S4 (by decide) _
  obtain ⟨kq5, hkq5⟩ : ∃ f : Nat → Int32, f = (own_up kq4 ((own_H ee + t4) % 16) ee) := ⟨_, rfl⟩
  have Ag_ka_2_21 := g19_4
  rw [← hkq5] at Ag_ka_2_21
  obtain ⟨vq5, hvq5⟩ : ∃ f : Nat → Int32, f = (own_up vq4 ((own_H ee + t4) % 16) ((4 : Int32) + (1 : Int32))) := ⟨_, rfl⟩
  have Ag_va_2_22 := g19_5
  rw [← hvq5] at Ag_va_2_22
  obtain ⟨I5, la5, lb5⟩ := own_put_ok I4 ht4 hp4 ((4 : Int32) + (1 : Int32)) (by decide)
  rw [← hkq5, ← hvq5] at I5 la5 lb5
  rw [show ((4 : Int32) + (1 : Int32)) - 1 = (4 : Int32) from by decide] at la5
  have C5 : own_cnt vq5 16 ≤ 5 := by rw [hvq5]; exact Nat.le_trans (own_cnt_up _ _ _ 16) (Nat.succ_le_succ C4)
  have L5 : ∀ w, ((((w = aa) ∨ w = bb) ∨ w = cc) ∨ w = dd) ∨ w = ee → own_look kq5 vq5 w (if w = ee then (4 : Int32) else (if w = dd then (3 : Int32) else (if w = cc then (2 : Int32) else (if w = bb then (1 : Int32) else (0 : Int32))))) := by
    intro w hw
    by_cases q : w = ee
    · rw [if_pos q, q]; exact la5
    · rw [if_neg q]; exact lb5 w _ q (L4 w (hw.resolve_right q))
  refine own_st (V := T19.setTop (mkF m 54 #[.val (.int aa), .val (.int bb), .val (.int cc), .val (.int dd), .val (.int ee), .val (.int sl), .val (.ref ix), .val (.int (sl &&& (7 : Int32))), .unset, .unset] [(.int (sl &&& (7 : Int32)))])) (fun tgt k => ?_) ?_
  · show Steps p.tables e below (T19.setTop (mkF m 45 #[.val (.int aa), .val (.int bb), .val (.int cc), .val (.int dd), .val (.int ee), .val (.int sl), .val (.ref ix), .unset, .unset, .unset] [])) tgt
    refine XS.iload X19.here hx rfl (hb hby at_45) rfl ?_
    show Steps p.tables e below (T19.setTop (mkF m 47 #[.val (.int aa), .val (.int bb), .val (.int cc), .val (.int dd), .val (.int ee), .val (.int sl), .val (.ref ix), .unset, .unset, .unset] [(.int sl)])) tgt
    refine XS.bipush X19.here hx rfl (hb hby at_47) ?_
    show Steps p.tables e below (T19.setTop (mkF m 49 #[.val (.int aa), .val (.int bb), .val (.int cc), .val (.int dd), .val (.int ee), .val (.int sl), .val (.ref ix), .unset, .unset, .unset] [(.int (7 : Int32)), (.int sl)])) tgt
    refine XS.iand X19.here hx rfl (hb hby at_49) rfl ?_
    show Steps p.tables e below (T19.setTop (mkF m 50 #[.val (.int aa), .val (.int bb), .val (.int cc), .val (.int dd), .val (.int ee), .val (.int sl), .val (.ref ix), .unset, .unset, .unset] [(.int (sl &&& (7 : Int32)))])) tgt
    refine XS.istore X19.here hx rfl (hb hby at_50) rfl (l' := #[.val (.int aa), .val (.int bb), .val (.int cc), .val (.int dd), .val (.int ee), .val (.int sl), .val (.ref ix), .val (.int (sl &&& (7 : Int32))), .unset, .unset]) rfl ?_
    show Steps p.tables e below (T19.setTop (mkF m 52 #[.val (.int aa), .val (.int bb), .val (.int cc), .val (.int dd), .val (.int ee), .val (.int sl), .val (.ref ix), .val (.int (sl &&& (7 : Int32))), .unset, .unset] [])) tgt
    refine XS.iload X19.here hx rfl (hb hby at_52) rfl ?_
    exact k
  obtain ⟨rv, hrv⟩ : ∃ z : Int32, z = (if (sl &&& (7 : Int32)) = (0 : Int32) then aa else (if (sl &&& (7 : Int32)) = (1 : Int32) then bb else (if (sl &&& (7 : Int32)) = (2 : Int32) then cc else (if (sl &&& (7 : Int32)) = (3 : Int32) then dd else (if (sl &&& (7 : Int32)) = (4 : Int32) then ee else sl))))) := ⟨_, rfl⟩
  refine own_st (V := T19.setTop (mkF m 116 #[.val (.int aa), .val (.int bb), .val (.int cc), .val (.int dd), .val (.int ee), .val (.int sl), .val (.ref ix), .val (.int (sl &&& (7 : Int32))), .val (.int rv), .unset] [])) (fun tgt k => ?_) ?_
  · skip
    by_cases hc54_2 : (sl &&& (7 : Int32)) = (0 : Int32)
    · skip
      rw [if_pos hc54_2] at hrv
      show Steps p.tables e below (T19.setTop (mkF m 54 #[.val (.int aa), .val (.int bb), .val (.int cc), .val (.int dd), .val (.int ee), .val (.int sl), .val (.ref ix), .val (.int (sl &&& (7 : Int32))), .unset, .unset] [(.int (sl &&& (7 : Int32)))])) tgt
      refine XS.ifNo X19.here hx rfl (hb hby at_54) rfl ((if0 _ _).trans (teq hc54_2).2) ?_
      show Steps p.tables e below (T19.setTop (mkF m 57 #[.val (.int aa), .val (.int bb), .val (.int cc), .val (.int dd), .val (.int ee), .val (.int sl), .val (.ref ix), .val (.int (sl &&& (7 : Int32))), .unset, .unset] [])) tgt
      refine XS.iloadN X19.here hx rfl (hb hby at_57) rfl ?_
      show Steps p.tables e below (T19.setTop (mkF m 58 #[.val (.int aa), .val (.int bb), .val (.int cc), .val (.int dd), .val (.int ee), .val (.int sl), .val (.ref ix), .val (.int (sl &&& (7 : Int32))), .unset, .unset] [(.int aa)])) tgt
      refine XS.istore X19.here hx rfl (hb hby at_58) rfl (l' := #[.val (.int aa), .val (.int bb), .val (.int cc), .val (.int dd), .val (.int ee), .val (.int sl), .val (.ref ix), .val (.int (sl &&& (7 : Int32))), .val (.int aa), .unset]) rfl ?_
      show Steps p.tables e below (T19.setTop (mkF m 60 #[.val (.int aa), .val (.int bb), .val (.int cc), .val (.int dd), .val (.int ee), .val (.int sl), .val (.ref ix), .val (.int (sl &&& (7 : Int32))), .val (.int aa), .unset] [])) tgt
      refine XS.goto X19.here hx rfl (pc0 := 60) (pc' := 116) rfl (hb hby at_60) (by decide) (by decide) ?_
      rw [hrv] at k
      exact k
    · skip
      rw [if_neg hc54_2] at hrv
      show Steps p.tables e below (T19.setTop (mkF m 54 #[.val (.int aa), .val (.int bb), .val (.int cc), .val (.int dd), .val (.int ee), .val (.int sl), .val (.ref ix), .val (.int (sl &&& (7 : Int32))), .unset, .unset] [(.int (sl &&& (7 : Int32)))])) tgt
      refine XS.ifYes X19.here hx rfl (pc0 := 54) (pc' := 63) rfl (hb hby at_54) rfl ((if0 _ _).trans (feq hc54_2).2) (by decide) (by decide) ?_
      show Steps p.tables e below (T19.setTop (mkF m 63 #[.val (.int aa), .val (.int bb), .val (.int cc), .val (.int dd), .val (.int ee), .val (.int sl), .val (.ref ix), .val (.int (sl &&& (7 : Int32))), .unset, .unset] [])) tgt
      refine XS.iload X19.here hx rfl (hb hby at_63) rfl ?_
      show Steps p.tables e below (T19.setTop (mkF m 65 #[.val (.int aa), .val (.int bb), .val (.int cc), .val (.int dd), .val (.int ee), .val (.int sl), .val (.ref ix), .val (.int (sl &&& (7 : Int32))), .unset, .unset] [(.int (sl &&& (7 : Int32)))])) tgt
      refine XS.iconst X19.here hx rfl (hb hby at_65) ?_
      by_cases hc66 : (sl &&& (7 : Int32)) = (1 : Int32)
      · skip
        rw [if_pos hc66] at hrv
        show Steps p.tables e below (T19.setTop (mkF m 66 #[.val (.int aa), .val (.int bb), .val (.int cc), .val (.int dd), .val (.int ee), .val (.int sl), .val (.ref ix), .val (.int (sl &&& (7 : Int32))), .unset, .unset] [(.int (1 : Int32)), (.int (sl &&& (7 : Int32)))])) tgt
        refine XS.icmpNo X19.here hx rfl (hb hby at_66) rfl (teq hc66).2 ?_
        show Steps p.tables e below (T19.setTop (mkF m 69 #[.val (.int aa), .val (.int bb), .val (.int cc), .val (.int dd), .val (.int ee), .val (.int sl), .val (.ref ix), .val (.int (sl &&& (7 : Int32))), .unset, .unset] [])) tgt
        refine XS.iloadN X19.here hx rfl (hb hby at_69) rfl ?_
        show Steps p.tables e below (T19.setTop (mkF m 70 #[.val (.int aa), .val (.int bb), .val (.int cc), .val (.int dd), .val (.int ee), .val (.int sl), .val (.ref ix), .val (.int (sl &&& (7 : Int32))), .unset, .unset] [(.int bb)])) tgt
        refine XS.istore X19.here hx rfl (hb hby at_70) rfl (l' := #[.val (.int aa), .val (.int bb), .val (.int cc), .val (.int dd), .val (.int ee), .val (.int sl), .val (.ref ix), .val (.int (sl &&& (7 : Int32))), .val (.int bb), .unset]) rfl ?_
        show Steps p.tables e below (T19.setTop (mkF m 72 #[.val (.int aa), .val (.int bb), .val (.int cc), .val (.int dd), .val (.int ee), .val (.int sl), .val (.ref ix), .val (.int (sl &&& (7 : Int32))), .val (.int bb), .unset] [])) tgt
        refine XS.goto X19.here hx rfl (pc0 := 72) (pc' := 116) rfl (hb hby at_72) (by decide) (by decide) ?_
        rw [hrv] at k
        exact k
      · skip
        rw [if_neg hc66] at hrv
        show Steps p.tables e below (T19.setTop (mkF m 66 #[.val (.int aa), .val (.int bb), .val (.int cc), .val (.int dd), .val (.int ee), .val (.int sl), .val (.ref ix), .val (.int (sl &&& (7 : Int32))), .unset, .unset] [(.int (1 : Int32)), (.int (sl &&& (7 : Int32)))])) tgt
        refine XS.icmpYes X19.here hx rfl (pc0 := 66) (pc' := 75) rfl (hb hby at_66) rfl (feq hc66).2 (by decide) (by decide) ?_
        show Steps p.tables e below (T19.setTop (mkF m 75 #[.val (.int aa), .val (.int bb), .val (.int cc), .val (.int dd), .val (.int ee), .val (.int sl), .val (.ref ix), .val (.int (sl &&& (7 : Int32))), .unset, .unset] [])) tgt
        refine XS.iload X19.here hx rfl (hb hby at_75) rfl ?_
        show Steps p.tables e below (T19.setTop (mkF m 77 #[.val (.int aa), .val (.int bb), .val (.int cc), .val (.int dd), .val (.int ee), .val (.int sl), .val (.ref ix), .val (.int (sl &&& (7 : Int32))), .unset, .unset] [(.int (sl &&& (7 : Int32)))])) tgt
        refine XS.iconst X19.here hx rfl (hb hby at_77) ?_
        by_cases hc78 : (sl &&& (7 : Int32)) = (2 : Int32)
        · skip
          rw [if_pos hc78] at hrv
          show Steps p.tables e below (T19.setTop (mkF m 78 #[.val (.int aa), .val (.int bb), .val (.int cc), .val (.int dd), .val (.int ee), .val (.int sl), .val (.ref ix), .val (.int (sl &&& (7 : Int32))), .unset, .unset] [(.int (2 : Int32)), (.int (sl &&& (7 : Int32)))])) tgt
          refine XS.icmpNo X19.here hx rfl (hb hby at_78) rfl (teq hc78).2 ?_
          show Steps p.tables e below (T19.setTop (mkF m 81 #[.val (.int aa), .val (.int bb), .val (.int cc), .val (.int dd), .val (.int ee), .val (.int sl), .val (.ref ix), .val (.int (sl &&& (7 : Int32))), .unset, .unset] [])) tgt
          refine XS.iloadN X19.here hx rfl (hb hby at_81) rfl ?_
          show Steps p.tables e below (T19.setTop (mkF m 82 #[.val (.int aa), .val (.int bb), .val (.int cc), .val (.int dd), .val (.int ee), .val (.int sl), .val (.ref ix), .val (.int (sl &&& (7 : Int32))), .unset, .unset] [(.int cc)])) tgt
          refine XS.istore X19.here hx rfl (hb hby at_82) rfl (l' := #[.val (.int aa), .val (.int bb), .val (.int cc), .val (.int dd), .val (.int ee), .val (.int sl), .val (.ref ix), .val (.int (sl &&& (7 : Int32))), .val (.int cc), .unset]) rfl ?_
          show Steps p.tables e below (T19.setTop (mkF m 84 #[.val (.int aa), .val (.int bb), .val (.int cc), .val (.int dd), .val (.int ee), .val (.int sl), .val (.ref ix), .val (.int (sl &&& (7 : Int32))), .val (.int cc), .unset] [])) tgt
          refine XS.goto X19.here hx rfl (pc0 := 84) (pc' := 116) rfl (hb hby at_84) (by decide) (by decide) ?_
          rw [hrv] at k
          exact k
        · skip
          rw [if_neg hc78] at hrv
          show Steps p.tables e below (T19.setTop (mkF m 78 #[.val (.int aa), .val (.int bb), .val (.int cc), .val (.int dd), .val (.int ee), .val (.int sl), .val (.ref ix), .val (.int (sl &&& (7 : Int32))), .unset, .unset] [(.int (2 : Int32)), (.int (sl &&& (7 : Int32)))])) tgt
          refine XS.icmpYes X19.here hx rfl (pc0 := 78) (pc' := 87) rfl (hb hby at_78) rfl (feq hc78).2 (by decide) (by decide) ?_
          show Steps p.tables e below (T19.setTop (mkF m 87 #[.val (.int aa), .val (.int bb), .val (.int cc), .val (.int dd), .val (.int ee), .val (.int sl), .val (.ref ix), .val (.int (sl &&& (7 : Int32))), .unset, .unset] [])) tgt
          refine XS.iload X19.here hx rfl (hb hby at_87) rfl ?_
          show Steps p.tables e below (T19.setTop (mkF m 89 #[.val (.int aa), .val (.int bb), .val (.int cc), .val (.int dd), .val (.int ee), .val (.int sl), .val (.ref ix), .val (.int (sl &&& (7 : Int32))), .unset, .unset] [(.int (sl &&& (7 : Int32)))])) tgt
          refine XS.iconst X19.here hx rfl (hb hby at_89) ?_
          by_cases hc90 : (sl &&& (7 : Int32)) = (3 : Int32)
          · skip
            rw [if_pos hc90] at hrv
            show Steps p.tables e below (T19.setTop (mkF m 90 #[.val (.int aa), .val (.int bb), .val (.int cc), .val (.int dd), .val (.int ee), .val (.int sl), .val (.ref ix), .val (.int (sl &&& (7 : Int32))), .unset, .unset] [(.int (3 : Int32)), (.int (sl &&& (7 : Int32)))])) tgt
            refine XS.icmpNo X19.here hx rfl (hb hby at_90) rfl (teq hc90).2 ?_
            show Steps p.tables e below (T19.setTop (mkF m 93 #[.val (.int aa), .val (.int bb), .val (.int cc), .val (.int dd), .val (.int ee), .val (.int sl), .val (.ref ix), .val (.int (sl &&& (7 : Int32))), .unset, .unset] [])) tgt
            refine XS.iloadN X19.here hx rfl (hb hby at_93) rfl ?_
            show Steps p.tables e below (T19.setTop (mkF m 94 #[.val (.int aa), .val (.int bb), .val (.int cc), .val (.int dd), .val (.int ee), .val (.int sl), .val (.ref ix), .val (.int (sl &&& (7 : Int32))), .unset, .unset] [(.int dd)])) tgt
            refine XS.istore X19.here hx rfl (hb hby at_94) rfl (l' := #[.val (.int aa), .val (.int bb), .val (.int cc), .val (.int dd), .val (.int ee), .val (.int sl), .val (.ref ix), .val (.int (sl &&& (7 : Int32))), .val (.int dd), .unset]) rfl ?_
            show Steps p.tables e below (T19.setTop (mkF m 96 #[.val (.int aa), .val (.int bb), .val (.int cc), .val (.int dd), .val (.int ee), .val (.int sl), .val (.ref ix), .val (.int (sl &&& (7 : Int32))), .val (.int dd), .unset] [])) tgt
            refine XS.goto X19.here hx rfl (pc0 := 96) (pc' := 116) rfl (hb hby at_96) (by decide) (by decide) ?_
            rw [hrv] at k
            exact k
          · skip
            rw [if_neg hc90] at hrv
            show Steps p.tables e below (T19.setTop (mkF m 90 #[.val (.int aa), .val (.int bb), .val (.int cc), .val (.int dd), .val (.int ee), .val (.int sl), .val (.ref ix), .val (.int (sl &&& (7 : Int32))), .unset, .unset] [(.int (3 : Int32)), (.int (sl &&& (7 : Int32)))])) tgt
            refine XS.icmpYes X19.here hx rfl (pc0 := 90) (pc' := 99) rfl (hb hby at_90) rfl (feq hc90).2 (by decide) (by decide) ?_
            show Steps p.tables e below (T19.setTop (mkF m 99 #[.val (.int aa), .val (.int bb), .val (.int cc), .val (.int dd), .val (.int ee), .val (.int sl), .val (.ref ix), .val (.int (sl &&& (7 : Int32))), .unset, .unset] [])) tgt
            refine XS.iload X19.here hx rfl (hb hby at_99) rfl ?_
            show Steps p.tables e below (T19.setTop (mkF m 101 #[.val (.int aa), .val (.int bb), .val (.int cc), .val (.int dd), .val (.int ee), .val (.int sl), .val (.ref ix), .val (.int (sl &&& (7 : Int32))), .unset, .unset] [(.int (sl &&& (7 : Int32)))])) tgt
            refine XS.iconst X19.here hx rfl (hb hby at_101) ?_
            by_cases hc102 : (sl &&& (7 : Int32)) = (4 : Int32)
            · skip
              rw [if_pos hc102] at hrv
              show Steps p.tables e below (T19.setTop (mkF m 102 #[.val (.int aa), .val (.int bb), .val (.int cc), .val (.int dd), .val (.int ee), .val (.int sl), .val (.ref ix), .val (.int (sl &&& (7 : Int32))), .unset, .unset] [(.int (4 : Int32)), (.int (sl &&& (7 : Int32)))])) tgt
              refine XS.icmpNo X19.here hx rfl (hb hby at_102) rfl (teq hc102).2 ?_
              show Steps p.tables e below (T19.setTop (mkF m 105 #[.val (.int aa), .val (.int bb), .val (.int cc), .val (.int dd), .val (.int ee), .val (.int sl), .val (.ref ix), .val (.int (sl &&& (7 : Int32))), .unset, .unset] [])) tgt
              refine XS.iload X19.here hx rfl (hb hby at_105) rfl ?_
              show Steps p.tables e below (T19.setTop (mkF m 107 #[.val (.int aa), .val (.int bb), .val (.int cc), .val (.int dd), .val (.int ee), .val (.int sl), .val (.ref ix), .val (.int (sl &&& (7 : Int32))), .unset, .unset] [(.int ee)])) tgt
              refine XS.istore X19.here hx rfl (hb hby at_107) rfl (l' := #[.val (.int aa), .val (.int bb), .val (.int cc), .val (.int dd), .val (.int ee), .val (.int sl), .val (.ref ix), .val (.int (sl &&& (7 : Int32))), .val (.int ee), .unset]) rfl ?_
              show Steps p.tables e below (T19.setTop (mkF m 109 #[.val (.int aa), .val (.int bb), .val (.int cc), .val (.int dd), .val (.int ee), .val (.int sl), .val (.ref ix), .val (.int (sl &&& (7 : Int32))), .val (.int ee), .unset] [])) tgt
              refine XS.goto X19.here hx rfl (pc0 := 109) (pc' := 116) rfl (hb hby at_109) (by decide) (by decide) ?_
              rw [hrv] at k
              exact k
            · skip
              rw [if_neg hc102] at hrv
              show Steps p.tables e below (T19.setTop (mkF m 102 #[.val (.int aa), .val (.int bb), .val (.int cc), .val (.int dd), .val (.int ee), .val (.int sl), .val (.ref ix), .val (.int (sl &&& (7 : Int32))), .unset, .unset] [(.int (4 : Int32)), (.int (sl &&& (7 : Int32)))])) tgt
              refine XS.icmpYes X19.here hx rfl (pc0 := 102) (pc' := 112) rfl (hb hby at_102) rfl (feq hc102).2 (by decide) (by decide) ?_
              show Steps p.tables e below (T19.setTop (mkF m 112 #[.val (.int aa), .val (.int bb), .val (.int cc), .val (.int dd), .val (.int ee), .val (.int sl), .val (.ref ix), .val (.int (sl &&& (7 : Int32))), .unset, .unset] [])) tgt
              refine XS.iload X19.here hx rfl (hb hby at_112) rfl ?_
              show Steps p.tables e below (T19.setTop (mkF m 114 #[.val (.int aa), .val (.int bb), .val (.int cc), .val (.int dd), .val (.int ee), .val (.int sl), .val (.ref ix), .val (.int (sl &&& (7 : Int32))), .unset, .unset] [(.int sl)])) tgt
              refine XS.istore X19.here hx rfl (hb hby at_114) rfl (l' := #[.val (.int aa), .val (.int bb), .val (.int cc), .val (.int dd), .val (.int ee), .val (.int sl), .val (.ref ix), .val (.int (sl &&& (7 : Int32))), .val (.int sl), .unset]) rfl ?_
              rw [hrv] at k
              exact k
  obtain ⟨zz5, hz5, hv5⟩ := own_free vq5 16 (by omega)
  obtain ⟨t5, ht5, hp5⟩ := own_find kq5 vq5 rv zz5 hz5 hv5
  by_cases hab : vq5 ((own_H rv + t5) % 16) = 0
  · skip
    have Lr : own_look kq5 vq5 rv (-1) := Or.inr ⟨own_absent I5 ht5 hp5 hab, rfl⟩
    have LX : ∀ w, ((((w = aa) ∨ w = bb) ∨ w = cc) ∨ w = dd) ∨ w = ee → own_look kq5 vq5 w (own_xp w rv bb cc dd ee) := by
      intro w hw
      unfold own_xp
      by_cases q : w = rv
      · rw [if_pos q, q]; exact Lr
      · rw [if_neg q]; exact L5 w hw
    have zX := hz5
    have vX := hv5
    have IX := I5
    refine own_st (V := T19.setTop (mkF m 120 #[.val (.int aa), .val (.int bb), .val (.int cc), .val (.int dd), .val (.int ee), .val (.int sl), .val (.ref ix), .val (.int (sl &&& (7 : Int32))), .val (.int rv), .unset] [(.int rv), (.ref ix)])) (fun tgt k => ?_) ?_
    · show Steps p.tables e below (T19.setTop (mkF m 116 #[.val (.int aa), .val (.int bb), .val (.int cc), .val (.int dd), .val (.int ee), .val (.int sl), .val (.ref ix), .val (.int (sl &&& (7 : Int32))), .val (.int rv), .unset] [])) tgt
      refine XS.aload X19.here hx rfl (hb hby at_116) rfl rfl ?_
      show Steps p.tables e below (T19.setTop (mkF m 118 #[.val (.int aa), .val (.int bb), .val (.int cc), .val (.int dd), .val (.int ee), .val (.int sl), .val (.ref ix), .val (.int (sl &&& (7 : Int32))), .val (.int rv), .unset] [(.ref ix)])) tgt
      refine XS.iload X19.here hx rfl (hb hby at_118) rfl ?_
      exact k
    obtain ⟨cq23, kq23, q23a, q23b, q23c⟩ := isOf hZ rfl g19_0
    obtain ⟨v23, _, ⟨T23, L23, k23, n23⟩, -, Xc23, ⟨Lc23, hQ23, l23, y23, z23⟩, st23⟩ := X19.virtualBack hx (y := (⟨"com/example/sigpoint/sigpoint/IntIndex", "remove", "(I)V"⟩ : MethodName)) (z := (⟨"com/example/sigpoint/sigpoint/IntIndex", "remove", "(I)V"⟩ : MethodName)) hown (mvT hZ (hw _ (List.mem_of_getElem? (i := 26) rfl))) (mvT hZ (hw _ (List.mem_of_getElem? (i := 27) rfl))) (notFace_of_selects (args := #[]) (mvT hZ (hw _ (List.mem_of_getElem? (i := 29) rfl)))) (mvT hZ (hw _ (List.mem_of_getElem? (i := 29) rfl))) (mvT hZ (hw _ (List.mem_of_getElem? (i := 28) rfl))) (by decide) (backOf (W := 0) (rm5n l Z a0 hw [] ix rv ka_2 va_2 kq5 vq5 sq5 t5 T19.heap n0 Zs19 g19_0 g19_1 g19_2 Fg_ix_20 Ag_ka_2_21 Ag_va_2_22 g_ix g2_2 g2_3 g2_4 ne_ix_ka_2 ne_ix_va_2 ht5 hp5 hab) hZ (hw _ (List.mem_of_getElem? (i := 30) rfl)) (hw _ (List.mem_of_getElem? (i := 2) rfl)) (by decide) (by decide)) q23a q23c (g := (mkF m 120 #[.val (.int aa), .val (.int bb), .val (.int cc), .val (.int dd), .val (.int ee), .val (.int sl), .val (.ref ix), .val (.int (sl &&& (7 : Int32))), .val (.int rv), .unset] [(.int rv), (.ref ix)])) rfl (by rw [hml]; rfl) (Steps.refl _) (argsL := [(.int rv)]) (rest := []) (lenOf pd_0_2 rfl) rfl (by show 2 * 0 + _ ≤ _; exact Nat.le_of_eq rfl) (hb hby at_120) (fun _ _ => ⟨rfl, rfl, (by decide : 3 + 0 ≤ _), (by decide : 35 + 0 ≤ _)⟩)
    dsimp only [Pt.U, Pt.locs, Pt.cells, Pt.slots] at Xc23 l23 y23 z23 st23 hQ23
    have X23 := own_cast Xc23 l23 y23 z23
    obtain ⟨ev23, N23q, K23⟩ := hQ23
    rw [ev23] at st23
    have N23 := Fr.app N19 N23q
    refine own_st (fun tgt k => st23.trans k) ?_
    show own_Go p e below _ (T23.setTop (mkF m 123 #[.val (.int aa), .val (.int bb), .val (.int cc), .val (.int dd), .val (.int ee), .val (.int sl), .val (.ref ix), .val (.int (sl &&& (7 : Int32))), .val (.int rv), .unset] []))
    refine own_st (V := T23.setTop (mkF m 127 #[.val (.int aa), .val (.int bb), .val (.int cc), .val (.int dd), .val (.int ee), .val (.int sl), .val (.ref ix), .val (.int (sl &&& (7 : Int32))), .val (.int rv), .unset] [(.int rv), (.ref ix)])) (fun tgt k => ?_) ?_
    · show Steps p.tables e below (T23.setTop (mkF m 123 #[.val (.int aa), .val (.int bb), .val (.int cc), .val (.int dd), .val (.int ee), .val (.int sl), .val (.ref ix), .val (.int (sl &&& (7 : Int32))), .val (.int rv), .unset] [])) tgt
      refine XS.aload X23.here hx rfl (hb hby at_123) rfl rfl ?_
      show Steps p.tables e below (T23.setTop (mkF m 125 #[.val (.int aa), .val (.int bb), .val (.int cc), .val (.int dd), .val (.int ee), .val (.int sl), .val (.ref ix), .val (.int (sl &&& (7 : Int32))), .val (.int rv), .unset] [(.ref ix)])) tgt
      refine XS.iload X23.here hx rfl (hb hby at_125) rfl ?_
      exact k
    obtain ⟨tg0, hg0, pg0⟩ := own_find kq5 vq5 rv zz5 zX vX
    obtain ⟨cq24, kq24, q24a, q24b, q24c⟩ := isOf hZ K23 g19_0
    obtain ⟨v24, _, ⟨T24, L24, k24, n24⟩, -, Xc24, ⟨Lc24, hQ24, l24, y24, z24⟩, st24⟩ := X23.virtualBack hx (y := (⟨"com/example/sigpoint/sigpoint/IntIndex", "get", "(I)I"⟩ : MethodName)) (z := (⟨"com/example/sigpoint/sigpoint/IntIndex", "get", "(I)I"⟩ : MethodName)) hown (mvT hZ (hw _ (List.mem_of_getElem? (i := 35) rfl))) (mvT hZ (hw _ (List.mem_of_getElem? (i := 36) rfl))) (notFace_of_selects (args := #[]) (mvT hZ (hw _ (List.mem_of_getElem? (i := 38) rfl)))) (mvT hZ (hw _ (List.mem_of_getElem? (i := 38) rfl))) (mvT hZ (hw _ (List.mem_of_getElem? (i := 37) rfl))) (by decide) (backOf (W := 0) (rm7 l Z a0 hw [] ix rv ka_2 va_2 kq5 vq5 tg0 T19.heap n0 Zs19 g19_0 g19_1 g19_2 Ag_ka_2_21 Ag_va_2_22 hg0 pg0) hZ (hw _ (List.mem_of_getElem? (i := 39) rfl)) (hw _ (List.mem_of_getElem? (i := 2) rfl)) (by decide) (by decide)) q24a q24c (g := (mkF m 127 #[.val (.int aa), .val (.int bb), .val (.int cc), .val (.int dd), .val (.int ee), .val (.int sl), .val (.ref ix), .val (.int (sl &&& (7 : Int32))), .val (.int rv), .unset] [(.int rv), (.ref ix)])) rfl (by rw [hml]; rfl) (Steps.refl _) (argsL := [(.int rv)]) (rest := []) (lenOf pd_0_3 rfl) rfl (by show 2 * 0 + _ ≤ _; exact Nat.le_of_eq rfl) (hb hby at_127) (fun _ _ => ⟨rfl, K23, (by decide : 3 + 0 ≤ _), (by decide : 35 + 0 ≤ _)⟩)
    dsimp only [Pt.U, Pt.locs, Pt.cells, Pt.slots] at Xc24 l24 y24 z24 st24 hQ24
    have X24 := own_cast Xc24 l24 y24 z24
    obtain ⟨ev24, N24q, K24⟩ := hQ24
    rw [ev24] at st24
    have N24 := Fr.app N23 N24q
    refine own_st (fun tgt k => st24.trans k) ?_
    show own_Go p e below _ (T24.setTop (mkF m 130 #[.val (.int aa), .val (.int bb), .val (.int cc), .val (.int dd), .val (.int ee), .val (.int sl), .val (.ref ix), .val (.int (sl &&& (7 : Int32))), .val (.int rv), .unset] [(.int (if vq5 ((own_H rv + tg0) % 16) = 0 then (-1 : Int32) else (vq5 ((own_H rv + tg0) % 16)) - (1 : Int32)))]))
    refine own_st (V := T24.setTop (mkF m 149 #[.val (.int aa), .val (.int bb), .val (.int cc), .val (.int dd), .val (.int ee), .val (.int sl), .val (.ref ix), .val (.int (sl &&& (7 : Int32))), .val (.int rv), .val (.int (1 : Int32))] [(.int aa), (.ref ix)])) (fun tgt k => ?_) ?_
    · show Steps p.tables e below (T24.setTop (mkF m 130 #[.val (.int aa), .val (.int bb), .val (.int cc), .val (.int dd), .val (.int ee), .val (.int sl), .val (.ref ix), .val (.int (sl &&& (7 : Int32))), .val (.int rv), .unset] [(.int (if vq5 ((own_H rv + tg0) % 16) = 0 then (-1 : Int32) else (vq5 ((own_H rv + tg0) % 16)) - (1 : Int32)))])) tgt
      refine XS.iconst X24.here hx rfl (hb hby at_130) ?_
      show Steps p.tables e below (T24.setTop (mkF m 131 #[.val (.int aa), .val (.int bb), .val (.int cc), .val (.int dd), .val (.int ee), .val (.int sl), .val (.ref ix), .val (.int (sl &&& (7 : Int32))), .val (.int rv), .unset] [(.int (-1 : Int32)), (.int (if vq5 ((own_H rv + tg0) % 16) = 0 then (-1 : Int32) else (vq5 ((own_H rv + tg0) % 16)) - (1 : Int32)))])) tgt
      refine XS.icmpNo X24.here hx rfl (hb hby at_131) rfl (teq (own_look_fun IX (own_look_pr IX hg0 pg0) Lr)).2 ?_
      show Steps p.tables e below (T24.setTop (mkF m 134 #[.val (.int aa), .val (.int bb), .val (.int cc), .val (.int dd), .val (.int ee), .val (.int sl), .val (.ref ix), .val (.int (sl &&& (7 : Int32))), .val (.int rv), .unset] [])) tgt
      refine XS.iconst X24.here hx rfl (hb hby at_134) ?_
      show Steps p.tables e below (T24.setTop (mkF m 135 #[.val (.int aa), .val (.int bb), .val (.int cc), .val (.int dd), .val (.int ee), .val (.int sl), .val (.ref ix), .val (.int (sl &&& (7 : Int32))), .val (.int rv), .unset] [(.int (1 : Int32))])) tgt
      refine XS.goto X24.here hx rfl (pc0 := 135) (pc' := 139) rfl (hb hby at_135) (by decide) (by decide) ?_
      show Steps p.tables e below (T24.setTop (mkF m 139 #[.val (.int aa), .val (.int bb), .val (.int cc), .val (.int dd), .val (.int ee), .val (.int sl), .val (.ref ix), .val (.int (sl &&& (7 : Int32))), .val (.int rv), .unset] [(.int (1 : Int32))])) tgt
      refine XS.istore X24.here hx rfl (hb hby at_139) rfl (l' := #[.val (.int aa), .val (.int bb), .val (.int cc), .val (.int dd), .val (.int ee), .val (.int sl), .val (.ref ix), .val (.int (sl &&& (7 : Int32))), .val (.int rv), .val (.int (1 : Int32))]) rfl ?_
      show Steps p.tables e below (T24.setTop (mkF m 141 #[.val (.int aa), .val (.int bb), .val (.int cc), .val (.int dd), .val (.int ee), .val (.int sl), .val (.ref ix), .val (.int (sl &&& (7 : Int32))), .val (.int rv), .val (.int (1 : Int32))] [])) tgt
      refine XS.iload X24.here hx rfl (hb hby at_141) rfl ?_
      show Steps p.tables e below (T24.setTop (mkF m 143 #[.val (.int aa), .val (.int bb), .val (.int cc), .val (.int dd), .val (.int ee), .val (.int sl), .val (.ref ix), .val (.int (sl &&& (7 : Int32))), .val (.int rv), .val (.int (1 : Int32))] [(.int (1 : Int32))])) tgt
      refine XS.ifNo X24.here hx rfl (hb hby at_143) rfl ((if0 _ _).trans (feq (by decide : ¬ ((1 : Int32) = (0 : Int32)))).1) ?_
      show Steps p.tables e below (T24.setTop (mkF m 146 #[.val (.int aa), .val (.int bb), .val (.int cc), .val (.int dd), .val (.int ee), .val (.int sl), .val (.ref ix), .val (.int (sl &&& (7 : Int32))), .val (.int rv), .val (.int (1 : Int32))] [])) tgt
      refine XS.aload X24.here hx rfl (hb hby at_146) rfl rfl ?_
      show Steps p.tables e below (T24.setTop (mkF m 148 #[.val (.int aa), .val (.int bb), .val (.int cc), .val (.int dd), .val (.int ee), .val (.int sl), .val (.ref ix), .val (.int (sl &&& (7 : Int32))), .val (.int rv), .val (.int (1 : Int32))] [(.ref ix)])) tgt
      refine XS.iloadN X24.here hx rfl (hb hby at_148) rfl ?_
      exact k
    obtain ⟨tg1, hg1, pg1⟩ := own_find kq5 vq5 aa zz5 zX vX
    obtain ⟨cq25, kq25, q25a, q25b, q25c⟩ := isOf hZ K24 g19_0
    obtain ⟨v25, _, ⟨T25, L25, k25, n25⟩, -, Xc25, ⟨Lc25, hQ25, l25, y25, z25⟩, st25⟩ := X24.virtualBack hx (y := (⟨"com/example/sigpoint/sigpoint/IntIndex", "get", "(I)I"⟩ : MethodName)) (z := (⟨"com/example/sigpoint/sigpoint/IntIndex", "get", "(I)I"⟩ : MethodName)) hown (mvT hZ (hw _ (List.mem_of_getElem? (i := 35) rfl))) (mvT hZ (hw _ (List.mem_of_getElem? (i := 36) rfl))) (notFace_of_selects (args := #[]) (mvT hZ (hw _ (List.mem_of_getElem? (i := 38) rfl)))) (mvT hZ (hw _ (List.mem_of_getElem? (i := 38) rfl))) (mvT hZ (hw _ (List.mem_of_getElem? (i := 37) rfl))) (by decide) (backOf (W := 0) (rm7 l Z a0 hw [] ix aa ka_2 va_2 kq5 vq5 tg1 T19.heap n0 Zs19 g19_0 g19_1 g19_2 Ag_ka_2_21 Ag_va_2_22 hg1 pg1) hZ (hw _ (List.mem_of_getElem? (i := 39) rfl)) (hw _ (List.mem_of_getElem? (i := 2) rfl)) (by decide) (by decide)) q25a q25c (g := (mkF m 149 #[.val (.int aa), .val (.int bb), .val (.int cc), .val (.int dd), .val (.int ee), .val (.int sl), .val (.ref ix), .val (.int (sl &&& (7 : Int32))), .val (.int rv), .val (.int (1 : Int32))] [(.int aa), (.ref ix)])) rfl (by rw [hml]; rfl) (Steps.refl _) (argsL := [(.int aa)]) (rest := []) (lenOf pd_0_3 rfl) rfl (by show 2 * 0 + _ ≤ _; exact Nat.le_of_eq rfl) (hb hby at_149) (fun _ _ => ⟨rfl, K24, (by decide : 3 + 0 ≤ _), (by decide : 35 + 0 ≤ _)⟩)
    dsimp only [Pt.U, Pt.locs, Pt.cells, Pt.slots] at Xc25 l25 y25 z25 st25 hQ25
    have X25 := own_cast Xc25 l25 y25 z25
    obtain ⟨ev25, N25q, K25⟩ := hQ25
    rw [ev25] at st25
    have N25 := Fr.app N24 N25q
    refine own_st (fun tgt k => st25.trans k) ?_
    show own_Go p e below _ (T25.setTop (mkF m 152 #[.val (.int aa), .val (.int bb), .val (.int cc), .val (.int dd), .val (.int ee), .val (.int sl), .val (.ref ix), .val (.int (sl &&& (7 : Int32))), .val (.int rv), .val (.int (1 : Int32))] [(.int (if vq5 ((own_H aa + tg1) % 16) = 0 then (-1 : Int32) else (vq5 ((own_H aa + tg1) % 16)) - (1 : Int32)))]))
    refine own_st (V := T25.setTop (mkF m 160 #[.val (.int aa), .val (.int bb), .val (.int cc), .val (.int dd), .val (.int ee), .val (.int sl), .val (.ref ix), .val (.int (sl &&& (7 : Int32))), .val (.int rv), .val (.int (1 : Int32))] [(.int ee), (.int dd), (.int cc), (.int bb), (.int rv), (.int aa), (.int (if vq5 ((own_H aa + tg1) % 16) = 0 then (-1 : Int32) else (vq5 ((own_H aa + tg1) % 16)) - (1 : Int32)))])) (fun tgt k => ?_) ?_
    · show Steps p.tables e below (T25.setTop (mkF m 152 #[.val (.int aa), .val (.int bb), .val (.int cc), .val (.int dd), .val (.int ee), .val (.int sl), .val (.ref ix), .val (.int (sl &&& (7 : Int32))), .val (.int rv), .val (.int (1 : Int32))] [(.int (if vq5 ((own_H aa + tg1) % 16) = 0 then (-1 : Int32) else (vq5 ((own_H aa + tg1) % 16)) - (1 : Int32)))])) tgt
      refine XS.iloadN X25.here hx rfl (hb hby at_152) rfl ?_
      show Steps p.tables e below (T25.setTop (mkF m 153 #[.val (.int aa), .val (.int bb), .val (.int cc), .val (.int dd), .val (.int ee), .val (.int sl), .val (.ref ix), .val (.int (sl &&& (7 : Int32))), .val (.int rv), .val (.int (1 : Int32))] [(.int aa), (.int (if vq5 ((own_H aa + tg1) % 16) = 0 then (-1 : Int32) else (vq5 ((own_H aa + tg1) % 16)) - (1 : Int32)))])) tgt
      refine XS.iload X25.here hx rfl (hb hby at_153) rfl ?_
      show Steps p.tables e below (T25.setTop (mkF m 155 #[.val (.int aa), .val (.int bb), .val (.int cc), .val (.int dd), .val (.int ee), .val (.int sl), .val (.ref ix), .val (.int (sl &&& (7 : Int32))), .val (.int rv), .val (.int (1 : Int32))] [(.int rv), (.int aa), (.int (if vq5 ((own_H aa + tg1) % 16) = 0 then (-1 : Int32) else (vq5 ((own_H aa + tg1) % 16)) - (1 : Int32)))])) tgt
      refine XS.iloadN X25.here hx rfl (hb hby at_155) rfl ?_
      show Steps p.tables e below (T25.setTop (mkF m 156 #[.val (.int aa), .val (.int bb), .val (.int cc), .val (.int dd), .val (.int ee), .val (.int sl), .val (.ref ix), .val (.int (sl &&& (7 : Int32))), .val (.int rv), .val (.int (1 : Int32))] [(.int bb), (.int rv), (.int aa), (.int (if vq5 ((own_H aa + tg1) % 16) = 0 then (-1 : Int32) else (vq5 ((own_H aa + tg1) % 16)) - (1 : Int32)))])) tgt
      refine XS.iloadN X25.here hx rfl (hb hby at_156) rfl ?_
      show Steps p.tables e below (T25.setTop (mkF m 157 #[.val (.int aa), .val (.int bb), .val (.int cc), .val (.int dd), .val (.int ee), .val (.int sl), .val (.ref ix), .val (.int (sl &&& (7 : Int32))), .val (.int rv), .val (.int (1 : Int32))] [(.int cc), (.int bb), (.int rv), (.int aa), (.int (if vq5 ((own_H aa + tg1) % 16) = 0 then (-1 : Int32) else (vq5 ((own_H aa + tg1) % 16)) - (1 : Int32)))])) tgt
      refine XS.iloadN X25.here hx rfl (hb hby at_157) rfl ?_
      show Steps p.tables e below (T25.setTop (mkF m 158 #[.val (.int aa), .val (.int bb), .val (.int cc), .val (.int dd), .val (.int ee), .val (.int sl), .val (.ref ix), .val (.int (sl &&& (7 : Int32))), .val (.int rv), .val (.int (1 : Int32))] [(.int dd), (.int cc), (.int bb), (.int rv), (.int aa), (.int (if vq5 ((own_H aa + tg1) % 16) = 0 then (-1 : Int32) else (vq5 ((own_H aa + tg1) % 16)) - (1 : Int32)))])) tgt
      refine XS.iload X25.here hx rfl (hb hby at_158) rfl ?_
      exact k
    obtain ⟨v26, _, ⟨T26, L26, k26, n26⟩, -, Xc26, ⟨Lc26, hQ26, l26, y26, z26⟩, st26⟩ := Jvm.LawKit.callS X25 hx (y := (⟨"com/example/sigpoint/sigpoint/IntIndexRemovePinLaw", "expect", "(IIIIII)I"⟩ : MethodName)) hown (mvT hZ (hw _ (List.mem_of_getElem? (i := 40) rfl))) (mvT hZ (hw _ (List.mem_of_getElem? (i := 41) rfl))) (mvT hZ (hw _ (List.mem_of_getElem? (i := 42) rfl))) (mvT hZ (hw _ (List.mem_of_getElem? (i := 43) rfl))) (by decide) (backOf (W := 1) (rm8 l Z a0 hw [] aa rv bb cc dd ee T19.heap n0 Zs19 ) hZ (hw _ (List.mem_of_getElem? (i := 43) rfl)) (hw _ (List.mem_of_getElem? (i := 42) rfl)) (by decide) (by decide)) (g := (mkF m 160 #[.val (.int aa), .val (.int bb), .val (.int cc), .val (.int dd), .val (.int ee), .val (.int sl), .val (.ref ix), .val (.int (sl &&& (7 : Int32))), .val (.int rv), .val (.int (1 : Int32))] [(.int ee), (.int dd), (.int cc), (.int bb), (.int rv), (.int aa), (.int (if vq5 ((own_H aa + tg1) % 16) = 0 then (-1 : Int32) else (vq5 ((own_H aa + tg1) % 16)) - (1 : Int32)))])) rfl (by rw [hml]; rfl) (argsL := [(.int aa), (.int rv), (.int bb), (.int cc), (.int dd), (.int ee)]) (rest := [(.int (if vq5 ((own_H aa + tg1) % 16) = 0 then (-1 : Int32) else (vq5 ((own_H aa + tg1) % 16)) - (1 : Int32)))]) (lenOf pd_0_4 rfl) rfl (by show 2 * 0 + _ ≤ _; exact Nat.le_of_eq rfl) (hb hby at_160) (fun _ _ => ⟨rfl, K25, (by decide : 3 + 0 ≤ _), (by decide : 35 + 0 ≤ _)⟩)
    dsimp only [Pt.U, Pt.locs, Pt.cells, Pt.slots] at Xc26 l26 y26 z26 st26 hQ26
    have X26 := own_cast Xc26 l26 y26 z26
    obtain ⟨ev26, N26q, K26⟩ := hQ26
    rw [ev26] at st26
    have N26 := Fr.app N25 N26q
    refine own_st st26 ?_
    show own_Go p e below _ (T26.setTop (mkF m 163 #[.val (.int aa), .val (.int bb), .val (.int cc), .val (.int dd), .val (.int ee), .val (.int sl), .val (.ref ix), .val (.int (sl &&& (7 : Int32))), .val (.int rv), .val (.int (1 : Int32))] [(.int (own_xp aa rv bb cc dd ee)), (.int (if vq5 ((own_H aa + tg1) % 16) = 0 then (-1 : Int32) else (vq5 ((own_H aa + tg1) % 16)) - (1 : Int32)))]))
    refine own_st (V := T26.setTop (mkF m 181 #[.val (.int aa), .val (.int bb), .val (.int cc), .val (.int dd), .val (.int ee), .val (.int sl), .val (.ref ix), .val (.int (sl &&& (7 : Int32))), .val (.int rv), .val (.int (1 : Int32))] [(.int bb), (.ref ix)])) (fun tgt k => ?_) ?_
    · show Steps p.tables e below (T26.setTop (mkF m 163 #[.val (.int aa), .val (.int bb), .val (.int cc), .val (.int dd), .val (.int ee), .val (.int sl), .val (.ref ix), .val (.int (sl &&& (7 : Int32))), .val (.int rv), .val (.int (1 : Int32))] [(.int (own_xp aa rv bb cc dd ee)), (.int (if vq5 ((own_H aa + tg1) % 16) = 0 then (-1 : Int32) else (vq5 ((own_H aa + tg1) % 16)) - (1 : Int32)))])) tgt
      refine XS.icmpNo X26.here hx rfl (hb hby at_163) rfl (teq (own_look_fun IX (own_look_pr IX hg1 pg1) (LX aa (Or.inl (Or.inl (Or.inl (Or.inl rfl))))))).2 ?_
      show Steps p.tables e below (T26.setTop (mkF m 166 #[.val (.int aa), .val (.int bb), .val (.int cc), .val (.int dd), .val (.int ee), .val (.int sl), .val (.ref ix), .val (.int (sl &&& (7 : Int32))), .val (.int rv), .val (.int (1 : Int32))] [])) tgt
      refine XS.iconst X26.here hx rfl (hb hby at_166) ?_
      show Steps p.tables e below (T26.setTop (mkF m 167 #[.val (.int aa), .val (.int bb), .val (.int cc), .val (.int dd), .val (.int ee), .val (.int sl), .val (.ref ix), .val (.int (sl &&& (7 : Int32))), .val (.int rv), .val (.int (1 : Int32))] [(.int (1 : Int32))])) tgt
      refine XS.goto X26.here hx rfl (pc0 := 167) (pc' := 171) rfl (hb hby at_167) (by decide) (by decide) ?_
      show Steps p.tables e below (T26.setTop (mkF m 171 #[.val (.int aa), .val (.int bb), .val (.int cc), .val (.int dd), .val (.int ee), .val (.int sl), .val (.ref ix), .val (.int (sl &&& (7 : Int32))), .val (.int rv), .val (.int (1 : Int32))] [(.int (1 : Int32))])) tgt
      refine XS.istore X26.here hx rfl (hb hby at_171) rfl (l' := #[.val (.int aa), .val (.int bb), .val (.int cc), .val (.int dd), .val (.int ee), .val (.int sl), .val (.ref ix), .val (.int (sl &&& (7 : Int32))), .val (.int rv), .val (.int (1 : Int32))]) rfl ?_
      show Steps p.tables e below (T26.setTop (mkF m 173 #[.val (.int aa), .val (.int bb), .val (.int cc), .val (.int dd), .val (.int ee), .val (.int sl), .val (.ref ix), .val (.int (sl &&& (7 : Int32))), .val (.int rv), .val (.int (1 : Int32))] [])) tgt
      refine XS.iload X26.here hx rfl (hb hby at_173) rfl ?_
      show Steps p.tables e below (T26.setTop (mkF m 175 #[.val (.int aa), .val (.int bb), .val (.int cc), .val (.int dd), .val (.int ee), .val (.int sl), .val (.ref ix), .val (.int (sl &&& (7 : Int32))), .val (.int rv), .val (.int (1 : Int32))] [(.int (1 : Int32))])) tgt
      refine XS.ifNo X26.here hx rfl (hb hby at_175) rfl ((if0 _ _).trans (feq (by decide : ¬ ((1 : Int32) = (0 : Int32)))).1) ?_
      show Steps p.tables e below (T26.setTop (mkF m 178 #[.val (.int aa), .val (.int bb), .val (.int cc), .val (.int dd), .val (.int ee), .val (.int sl), .val (.ref ix), .val (.int (sl &&& (7 : Int32))), .val (.int rv), .val (.int (1 : Int32))] [])) tgt
      refine XS.aload X26.here hx rfl (hb hby at_178) rfl rfl ?_
      show Steps p.tables e below (T26.setTop (mkF m 180 #[.val (.int aa), .val (.int bb), .val (.int cc), .val (.int dd), .val (.int ee), .val (.int sl), .val (.ref ix), .val (.int (sl &&& (7 : Int32))), .val (.int rv), .val (.int (1 : Int32))] [(.ref ix)])) tgt
      refine XS.iloadN X26.here hx rfl (hb hby at_180) rfl ?_
      exact k
    obtain ⟨tg2, hg2, pg2⟩ := own_find kq5 vq5 bb zz5 zX vX
    obtain ⟨cq27, kq27, q27a, q27b, q27c⟩ := isOf hZ K26 g19_0
    obtain ⟨v27, _, ⟨T27, L27, k27, n27⟩, -, Xc27, ⟨Lc27, hQ27, l27, y27, z27⟩, st27⟩ := X26.virtualBack hx (y := (⟨"com/example/sigpoint/sigpoint/IntIndex", "get", "(I)I"⟩ : MethodName)) (z := (⟨"com/example/sigpoint/sigpoint/IntIndex", "get", "(I)I"⟩ : MethodName)) hown (mvT hZ (hw _ (List.mem_of_getElem? (i := 35) rfl))) (mvT hZ (hw _ (List.mem_of_getElem? (i := 36) rfl))) (notFace_of_selects (args := #[]) (mvT hZ (hw _ (List.mem_of_getElem? (i := 38) rfl)))) (mvT hZ (hw _ (List.mem_of_getElem? (i := 38) rfl))) (mvT hZ (hw _ (List.mem_of_getElem? (i := 37) rfl))) (by decide) (backOf (W := 0) (rm7 l Z a0 hw [] ix bb ka_2 va_2 kq5 vq5 tg2 T19.heap n0 Zs19 g19_0 g19_1 g19_2 Ag_ka_2_21 Ag_va_2_22 hg2 pg2) hZ (hw _ (List.mem_of_getElem? (i := 39) rfl)) (hw _ (List.mem_of_getElem? (i := 2) rfl)) (by decide) (by decide)) q27a q27c (g := (mkF m 181 #[.val (.int aa), .val (.int bb), .val (.int cc), .val (.int dd), .val (.int ee), .val (.int sl), .val (.ref ix), .val (.int (sl &&& (7 : Int32))), .val (.int rv), .val (.int (1 : Int32))] [(.int bb), (.ref ix)])) rfl (by rw [hml]; rfl) (Steps.refl _) (argsL := [(.int bb)]) (rest := []) (lenOf pd_0_3 rfl) rfl (by show 2 * 0 + _ ≤ _; exact Nat.le_of_eq rfl) (hb hby at_181) (fun _ _ => ⟨rfl, K26, (by decide : 3 + 0 ≤ _), (by decide : 35 + 0 ≤ _)⟩)
    dsimp only [Pt.U, Pt.locs, Pt.cells, Pt.slots] at Xc27 l27 y27 z27 st27 hQ27
    have X27 := own_cast Xc27 l27 y27 z27
    obtain ⟨ev27, N27q, K27⟩ := hQ27
    rw [ev27] at st27
    have N27 := Fr.app N26 N27q
    refine own_st (fun tgt k => st27.trans k) ?_
    show own_Go p e below _ (T27.setTop (mkF m 184 #[.val (.int aa), .val (.int bb), .val (.int cc), .val (.int dd), .val (.int ee), .val (.int sl), .val (.ref ix), .val (.int (sl &&& (7 : Int32))), .val (.int rv), .val (.int (1 : Int32))] [(.int (if vq5 ((own_H bb + tg2) % 16) = 0 then (-1 : Int32) else (vq5 ((own_H bb + tg2) % 16)) - (1 : Int32)))]))
    refine own_st (V := T27.setTop (mkF m 192 #[.val (.int aa), .val (.int bb), .val (.int cc), .val (.int dd), .val (.int ee), .val (.int sl), .val (.ref ix), .val (.int (sl &&& (7 : Int32))), .val (.int rv), .val (.int (1 : Int32))] [(.int ee), (.int dd), (.int cc), (.int bb), (.int rv), (.int bb), (.int (if vq5 ((own_H bb + tg2) % 16) = 0 then (-1 : Int32) else (vq5 ((own_H bb + tg2) % 16)) - (1 : Int32)))])) (fun tgt k => ?_) ?_
    · show Steps p.tables e below (T27.setTop (mkF m 184 #[.val (.int aa), .val (.int bb), .val (.int cc), .val (.int dd), .val (.int ee), .val (.int sl), .val (.ref ix), .val (.int (sl &&& (7 : Int32))), .val (.int rv), .val (.int (1 : Int32))] [(.int (if vq5 ((own_H bb + tg2) % 16) = 0 then (-1 : Int32) else (vq5 ((own_H bb + tg2) % 16)) - (1 : Int32)))])) tgt
      refine XS.iloadN X27.here hx rfl (hb hby at_184) rfl ?_
      show Steps p.tables e below (T27.setTop (mkF m 185 #[.val (.int aa), .val (.int bb), .val (.int cc), .val (.int dd), .val (.int ee), .val (.int sl), .val (.ref ix), .val (.int (sl &&& (7 : Int32))), .val (.int rv), .val (.int (1 : Int32))] [(.int bb), (.int (if vq5 ((own_H bb + tg2) % 16) = 0 then (-1 : Int32) else (vq5 ((own_H bb + tg2) % 16)) - (1 : Int32)))])) tgt
      refine XS.iload X27.here hx rfl (hb hby at_185) rfl ?_
      show Steps p.tables e below (T27.setTop (mkF m 187 #[.val (.int aa), .val (.int bb), .val (.int cc), .val (.int dd), .val (.int ee), .val (.int sl), .val (.ref ix), .val (.int (sl &&& (7 : Int32))), .val (.int rv), .val (.int (1 : Int32))] [(.int rv), (.int bb), (.int (if vq5 ((own_H bb + tg2) % 16) = 0 then (-1 : Int32) else (vq5 ((own_H bb + tg2) % 16)) - (1 : Int32)))])) tgt
      refine XS.iloadN X27.here hx rfl (hb hby at_187) rfl ?_
      show Steps p.tables e below (T27.setTop (mkF m 188 #[.val (.int aa), .val (.int bb), .val (.int cc), .val (.int dd), .val (.int ee), .val (.int sl), .val (.ref ix), .val (.int (sl &&& (7 : Int32))), .val (.int rv), .val (.int (1 : Int32))] [(.int bb), (.int rv), (.int bb), (.int (if vq5 ((own_H bb + tg2) % 16) = 0 then (-1 : Int32) else (vq5 ((own_H bb + tg2) % 16)) - (1 : Int32)))])) tgt
      refine XS.iloadN X27.here hx rfl (hb hby at_188) rfl ?_
      show Steps p.tables e below (T27.setTop (mkF m 189 #[.val (.int aa), .val (.int bb), .val (.int cc), .val (.int dd), .val (.int ee), .val (.int sl), .val (.ref ix), .val (.int (sl &&& (7 : Int32))), .val (.int rv), .val (.int (1 : Int32))] [(.int cc), (.int bb), (.int rv), (.int bb), (.int (if vq5 ((own_H bb + tg2) % 16) = 0 then (-1 : Int32) else (vq5 ((own_H bb + tg2) % 16)) - (1 : Int32)))])) tgt
      refine XS.iloadN X27.here hx rfl (hb hby at_189) rfl ?_
      show Steps p.tables e below (T27.setTop (mkF m 190 #[.val (.int aa), .val (.int bb), .val (.int cc), .val (.int dd), .val (.int ee), .val (.int sl), .val (.ref ix), .val (.int (sl &&& (7 : Int32))), .val (.int rv), .val (.int (1 : Int32))] [(.int dd), (.int cc), (.int bb), (.int rv), (.int bb), (.int (if vq5 ((own_H bb + tg2) % 16) = 0 then (-1 : Int32) else (vq5 ((own_H bb + tg2) % 16)) - (1 : Int32)))])) tgt
      refine XS.iload X27.here hx rfl (hb hby at_190) rfl ?_
      exact k
    obtain ⟨v28, _, ⟨T28, L28, k28, n28⟩, -, Xc28, ⟨Lc28, hQ28, l28, y28, z28⟩, st28⟩ := Jvm.LawKit.callS X27 hx (y := (⟨"com/example/sigpoint/sigpoint/IntIndexRemovePinLaw", "expect", "(IIIIII)I"⟩ : MethodName)) hown (mvT hZ (hw _ (List.mem_of_getElem? (i := 40) rfl))) (mvT hZ (hw _ (List.mem_of_getElem? (i := 41) rfl))) (mvT hZ (hw _ (List.mem_of_getElem? (i := 42) rfl))) (mvT hZ (hw _ (List.mem_of_getElem? (i := 43) rfl))) (by decide) (backOf (W := 1) (rm8 l Z a0 hw [] bb rv bb cc dd ee T19.heap n0 Zs19 ) hZ (hw _ (List.mem_of_getElem? (i := 43) rfl)) (hw _ (List.mem_of_getElem? (i := 42) rfl)) (by decide) (by decide)) (g := (mkF m 192 #[.val (.int aa), .val (.int bb), .val (.int cc), .val (.int dd), .val (.int ee), .val (.int sl), .val (.ref ix), .val (.int (sl &&& (7 : Int32))), .val (.int rv), .val (.int (1 : Int32))] [(.int ee), (.int dd), (.int cc), (.int bb), (.int rv), (.int bb), (.int (if vq5 ((own_H bb + tg2) % 16) = 0 then (-1 : Int32) else (vq5 ((own_H bb + tg2) % 16)) - (1 : Int32)))])) rfl (by rw [hml]; rfl) (argsL := [(.int bb), (.int rv), (.int bb), (.int cc), (.int dd), (.int ee)]) (rest := [(.int (if vq5 ((own_H bb + tg2) % 16) = 0 then (-1 : Int32) else (vq5 ((own_H bb + tg2) % 16)) - (1 : Int32)))]) (lenOf pd_0_4 rfl) rfl (by show 2 * 0 + _ ≤ _; exact Nat.le_of_eq rfl) (hb hby at_192) (fun _ _ => ⟨rfl, K27, (by decide : 3 + 0 ≤ _), (by decide : 35 + 0 ≤ _)⟩)
    dsimp only [Pt.U, Pt.locs, Pt.cells, Pt.slots] at Xc28 l28 y28 z28 st28 hQ28
    have X28 := own_cast Xc28 l28 y28 z28
    obtain ⟨ev28, N28q, K28⟩ := hQ28
    rw [ev28] at st28
    have N28 := Fr.app N27 N28q
    refine own_st st28 ?_
    show own_Go p e below _ (T28.setTop (mkF m 195 #[.val (.int aa), .val (.int bb), .val (.int cc), .val (.int dd), .val (.int ee), .val (.int sl), .val (.ref ix), .val (.int (sl &&& (7 : Int32))), .val (.int rv), .val (.int (1 : Int32))] [(.int (own_xp bb rv bb cc dd ee)), (.int (if vq5 ((own_H bb + tg2) % 16) = 0 then (-1 : Int32) else (vq5 ((own_H bb + tg2) % 16)) - (1 : Int32)))]))
    refine own_st (V := T28.setTop (mkF m 213 #[.val (.int aa), .val (.int bb), .val (.int cc), .val (.int dd), .val (.int ee), .val (.int sl), .val (.ref ix), .val (.int (sl &&& (7 : Int32))), .val (.int rv), .val (.int (1 : Int32))] [(.int cc), (.ref ix)])) (fun tgt k => ?_) ?_
    · show Steps p.tables e below (T28.setTop (mkF m 195 #[.val (.int aa), .val (.int bb), .val (.int cc), .val (.int dd), .val (.int ee), .val (.int sl), .val (.ref ix), .val (.int (sl &&& (7 : Int32))), .val (.int rv), .val (.int (1 : Int32))] [(.int (own_xp bb rv bb cc dd ee)), (.int (if vq5 ((own_H bb + tg2) % 16) = 0 then (-1 : Int32) else (vq5 ((own_H bb + tg2) % 16)) - (1 : Int32)))])) tgt
      refine XS.icmpNo X28.here hx rfl (hb hby at_195) rfl (teq (own_look_fun IX (own_look_pr IX hg2 pg2) (LX bb (Or.inl (Or.inl (Or.inl (Or.inr rfl))))))).2 ?_
      show Steps p.tables e below (T28.setTop (mkF m 198 #[.val (.int aa), .val (.int bb), .val (.int cc), .val (.int dd), .val (.int ee), .val (.int sl), .val (.ref ix), .val (.int (sl &&& (7 : Int32))), .val (.int rv), .val (.int (1 : Int32))] [])) tgt
      refine XS.iconst X28.here hx rfl (hb hby at_198) ?_
      show Steps p.tables e below (T28.setTop (mkF m 199 #[.val (.int aa), .val (.int bb), .val (.int cc), .val (.int dd), .val (.int ee), .val (.int sl), .val (.ref ix), .val (.int (sl &&& (7 : Int32))), .val (.int rv), .val (.int (1 : Int32))] [(.int (1 : Int32))])) tgt
      refine XS.goto X28.here hx rfl (pc0 := 199) (pc' := 203) rfl (hb hby at_199) (by decide) (by decide) ?_
      show Steps p.tables e below (T28.setTop (mkF m 203 #[.val (.int aa), .val (.int bb), .val (.int cc), .val (.int dd), .val (.int ee), .val (.int sl), .val (.ref ix), .val (.int (sl &&& (7 : Int32))), .val (.int rv), .val (.int (1 : Int32))] [(.int (1 : Int32))])) tgt
      refine XS.istore X28.here hx rfl (hb hby at_203) rfl (l' := #[.val (.int aa), .val (.int bb), .val (.int cc), .val (.int dd), .val (.int ee), .val (.int sl), .val (.ref ix), .val (.int (sl &&& (7 : Int32))), .val (.int rv), .val (.int (1 : Int32))]) rfl ?_
      show Steps p.tables e below (T28.setTop (mkF m 205 #[.val (.int aa), .val (.int bb), .val (.int cc), .val (.int dd), .val (.int ee), .val (.int sl), .val (.ref ix), .val (.int (sl &&& (7 : Int32))), .val (.int rv), .val (.int (1 : Int32))] [])) tgt
      refine XS.iload X28.here hx rfl (hb hby at_205) rfl ?_
      show Steps p.tables e below (T28.setTop (mkF m 207 #[.val (.int aa), .val (.int bb), .val (.int cc), .val (.int dd), .val (.int ee), .val (.int sl), .val (.ref ix), .val (.int (sl &&& (7 : Int32))), .val (.int rv), .val (.int (1 : Int32))] [(.int (1 : Int32))])) tgt
      refine XS.ifNo X28.here hx rfl (hb hby at_207) rfl ((if0 _ _).trans (feq (by decide : ¬ ((1 : Int32) = (0 : Int32)))).1) ?_
      show Steps p.tables e below (T28.setTop (mkF m 210 #[.val (.int aa), .val (.int bb), .val (.int cc), .val (.int dd), .val (.int ee), .val (.int sl), .val (.ref ix), .val (.int (sl &&& (7 : Int32))), .val (.int rv), .val (.int (1 : Int32))] [])) tgt
      refine XS.aload X28.here hx rfl (hb hby at_210) rfl rfl ?_
      show Steps p.tables e below (T28.setTop (mkF m 212 #[.val (.int aa), .val (.int bb), .val (.int cc), .val (.int dd), .val (.int ee), .val (.int sl), .val (.ref ix), .val (.int (sl &&& (7 : Int32))), .val (.int rv), .val (.int (1 : Int32))] [(.ref ix)])) tgt
      refine XS.iloadN X28.here hx rfl (hb hby at_212) rfl ?_
      exact k
    obtain ⟨tg3, hg3, pg3⟩ := own_find kq5 vq5 cc zz5 zX vX
    obtain ⟨cq29, kq29, q29a, q29b, q29c⟩ := isOf hZ K28 g19_0
    obtain ⟨v29, _, ⟨T29, L29, k29, n29⟩, -, Xc29, ⟨Lc29, hQ29, l29, y29, z29⟩, st29⟩ := X28.virtualBack hx (y := (⟨"com/example/sigpoint/sigpoint/IntIndex", "get", "(I)I"⟩ : MethodName)) (z := (⟨"com/example/sigpoint/sigpoint/IntIndex", "get", "(I)I"⟩ : MethodName)) hown (mvT hZ (hw _ (List.mem_of_getElem? (i := 35) rfl))) (mvT hZ (hw _ (List.mem_of_getElem? (i := 36) rfl))) (notFace_of_selects (args := #[]) (mvT hZ (hw _ (List.mem_of_getElem? (i := 38) rfl)))) (mvT hZ (hw _ (List.mem_of_getElem? (i := 38) rfl))) (mvT hZ (hw _ (List.mem_of_getElem? (i := 37) rfl))) (by decide) (backOf (W := 0) (rm7 l Z a0 hw [] ix cc ka_2 va_2 kq5 vq5 tg3 T19.heap n0 Zs19 g19_0 g19_1 g19_2 Ag_ka_2_21 Ag_va_2_22 hg3 pg3) hZ (hw _ (List.mem_of_getElem? (i := 39) rfl)) (hw _ (List.mem_of_getElem? (i := 2) rfl)) (by decide) (by decide)) q29a q29c (g := (mkF m 213 #[.val (.int aa), .val (.int bb), .val (.int cc), .val (.int dd), .val (.int ee), .val (.int sl), .val (.ref ix), .val (.int (sl &&& (7 : Int32))), .val (.int rv), .val (.int (1 : Int32))] [(.int cc), (.ref ix)])) rfl (by rw [hml]; rfl) (Steps.refl _) (argsL := [(.int cc)]) (rest := []) (lenOf pd_0_3 rfl) rfl (by show 2 * 0 + _ ≤ _; exact Nat.le_of_eq rfl) (hb hby at_213) (fun _ _ => ⟨rfl, K28, (by decide : 3 + 0 ≤ _), (by decide : 35 + 0 ≤ _)⟩)
    dsimp only [Pt.U, Pt.locs, Pt.cells, Pt.slots] at Xc29 l29 y29 z29 st29 hQ29
    have X29 := own_cast Xc29 l29 y29 z29
    obtain ⟨ev29, N29q, K29⟩ := hQ29
    rw [ev29] at st29
    have N29 := Fr.app N28 N29q
    refine own_st (fun tgt k => st29.trans k) ?_
    show own_Go p e below _ (T29.setTop (mkF m 216 #[.val (.int aa), .val (.int bb), .val (.int cc), .val (.int dd), .val (.int ee), .val (.int sl), .val (.ref ix), .val (.int (sl &&& (7 : Int32))), .val (.int rv), .val (.int (1 : Int32))] [(.int (if vq5 ((own_H cc + tg3) % 16) = 0 then (-1 : Int32) else (vq5 ((own_H cc + tg3) % 16)) - (1 : Int32)))]))
    refine own_st (V := T29.setTop (mkF m 224 #[.val (.int aa), .val (.int bb), .val (.int cc), .val (.int dd), .val (.int ee), .val (.int sl), .val (.ref ix), .val (.int (sl &&& (7 : Int32))), .val (.int rv), .val (.int (1 : Int32))] [(.int ee), (.int dd), (.int cc), (.int bb), (.int rv), (.int cc), (.int (if vq5 ((own_H cc + tg3) % 16) = 0 then (-1 : Int32) else (vq5 ((own_H cc + tg3) % 16)) - (1 : Int32)))])) (fun tgt k => ?_) ?_
    · show Steps p.tables e below (T29.setTop (mkF m 216 #[.val (.int aa), .val (.int bb), .val (.int cc), .val (.int dd), .val (.int ee), .val (.int sl), .val (.ref ix), .val (.int (sl &&& (7 : Int32))), .val (.int rv), .val (.int (1 : Int32))] [(.int (if vq5 ((own_H cc + tg3) % 16) = 0 then (-1 : Int32) else (vq5 ((own_H cc + tg3) % 16)) - (1 : Int32)))])) tgt
      refine XS.iloadN X29.here hx rfl (hb hby at_216) rfl ?_
      show Steps p.tables e below (T29.setTop (mkF m 217 #[.val (.int aa), .val (.int bb), .val (.int cc), .val (.int dd), .val (.int ee), .val (.int sl), .val (.ref ix), .val (.int (sl &&& (7 : Int32))), .val (.int rv), .val (.int (1 : Int32))] [(.int cc), (.int (if vq5 ((own_H cc + tg3) % 16) = 0 then (-1 : Int32) else (vq5 ((own_H cc + tg3) % 16)) - (1 : Int32)))])) tgt
      refine XS.iload X29.here hx rfl (hb hby at_217) rfl ?_
      show Steps p.tables e below (T29.setTop (mkF m 219 #[.val (.int aa), .val (.int bb), .val (.int cc), .val (.int dd), .val (.int ee), .val (.int sl), .val (.ref ix), .val (.int (sl &&& (7 : Int32))), .val (.int rv), .val (.int (1 : Int32))] [(.int rv), (.int cc), (.int (if vq5 ((own_H cc + tg3) % 16) = 0 then (-1 : Int32) else (vq5 ((own_H cc + tg3) % 16)) - (1 : Int32)))])) tgt
      refine XS.iloadN X29.here hx rfl (hb hby at_219) rfl ?_
      show Steps p.tables e below (T29.setTop (mkF m 220 #[.val (.int aa), .val (.int bb), .val (.int cc), .val (.int dd), .val (.int ee), .val (.int sl), .val (.ref ix), .val (.int (sl &&& (7 : Int32))), .val (.int rv), .val (.int (1 : Int32))] [(.int bb), (.int rv), (.int cc), (.int (if vq5 ((own_H cc + tg3) % 16) = 0 then (-1 : Int32) else (vq5 ((own_H cc + tg3) % 16)) - (1 : Int32)))])) tgt
      refine XS.iloadN X29.here hx rfl (hb hby at_220) rfl ?_
      show Steps p.tables e below (T29.setTop (mkF m 221 #[.val (.int aa), .val (.int bb), .val (.int cc), .val (.int dd), .val (.int ee), .val (.int sl), .val (.ref ix), .val (.int (sl &&& (7 : Int32))), .val (.int rv), .val (.int (1 : Int32))] [(.int cc), (.int bb), (.int rv), (.int cc), (.int (if vq5 ((own_H cc + tg3) % 16) = 0 then (-1 : Int32) else (vq5 ((own_H cc + tg3) % 16)) - (1 : Int32)))])) tgt
      refine XS.iloadN X29.here hx rfl (hb hby at_221) rfl ?_
      show Steps p.tables e below (T29.setTop (mkF m 222 #[.val (.int aa), .val (.int bb), .val (.int cc), .val (.int dd), .val (.int ee), .val (.int sl), .val (.ref ix), .val (.int (sl &&& (7 : Int32))), .val (.int rv), .val (.int (1 : Int32))] [(.int dd), (.int cc), (.int bb), (.int rv), (.int cc), (.int (if vq5 ((own_H cc + tg3) % 16) = 0 then (-1 : Int32) else (vq5 ((own_H cc + tg3) % 16)) - (1 : Int32)))])) tgt
      refine XS.iload X29.here hx rfl (hb hby at_222) rfl ?_
      exact k
    obtain ⟨v30, _, ⟨T30, L30, k30, n30⟩, -, Xc30, ⟨Lc30, hQ30, l30, y30, z30⟩, st30⟩ := Jvm.LawKit.callS X29 hx (y := (⟨"com/example/sigpoint/sigpoint/IntIndexRemovePinLaw", "expect", "(IIIIII)I"⟩ : MethodName)) hown (mvT hZ (hw _ (List.mem_of_getElem? (i := 40) rfl))) (mvT hZ (hw _ (List.mem_of_getElem? (i := 41) rfl))) (mvT hZ (hw _ (List.mem_of_getElem? (i := 42) rfl))) (mvT hZ (hw _ (List.mem_of_getElem? (i := 43) rfl))) (by decide) (backOf (W := 1) (rm8 l Z a0 hw [] cc rv bb cc dd ee T19.heap n0 Zs19 ) hZ (hw _ (List.mem_of_getElem? (i := 43) rfl)) (hw _ (List.mem_of_getElem? (i := 42) rfl)) (by decide) (by decide)) (g := (mkF m 224 #[.val (.int aa), .val (.int bb), .val (.int cc), .val (.int dd), .val (.int ee), .val (.int sl), .val (.ref ix), .val (.int (sl &&& (7 : Int32))), .val (.int rv), .val (.int (1 : Int32))] [(.int ee), (.int dd), (.int cc), (.int bb), (.int rv), (.int cc), (.int (if vq5 ((own_H cc + tg3) % 16) = 0 then (-1 : Int32) else (vq5 ((own_H cc + tg3) % 16)) - (1 : Int32)))])) rfl (by rw [hml]; rfl) (argsL := [(.int cc), (.int rv), (.int bb), (.int cc), (.int dd), (.int ee)]) (rest := [(.int (if vq5 ((own_H cc + tg3) % 16) = 0 then (-1 : Int32) else (vq5 ((own_H cc + tg3) % 16)) - (1 : Int32)))]) (lenOf pd_0_4 rfl) rfl (by show 2 * 0 + _ ≤ _; exact Nat.le_of_eq rfl) (hb hby at_224) (fun _ _ => ⟨rfl, K29, (by decide : 3 + 0 ≤ _), (by decide : 35 + 0 ≤ _)⟩)
    dsimp only [Pt.U, Pt.locs, Pt.cells, Pt.slots] at Xc30 l30 y30 z30 st30 hQ30
    have X30 := own_cast Xc30 l30 y30 z30
    obtain ⟨ev30, N30q, K30⟩ := hQ30
    rw [ev30] at st30
    have N30 := Fr.app N29 N30q
    refine own_st st30 ?_
    show own_Go p e below _ (T30.setTop (mkF m 227 #[.val (.int aa), .val (.int bb), .val (.int cc), .val (.int dd), .val (.int ee), .val (.int sl), .val (.ref ix), .val (.int (sl &&& (7 : Int32))), .val (.int rv), .val (.int (1 : Int32))] [(.int (own_xp cc rv bb cc dd ee)), (.int (if vq5 ((own_H cc + tg3) % 16) = 0 then (-1 : Int32) else (vq5 ((own_H cc + tg3) % 16)) - (1 : Int32)))]))
    refine own_st (V := T30.setTop (mkF m 245 #[.val (.int aa), .val (.int bb), .val (.int cc), .val (.int dd), .val (.int ee), .val (.int sl), .val (.ref ix), .val (.int (sl &&& (7 : Int32))), .val (.int rv), .val (.int (1 : Int32))] [(.int dd), (.ref ix)])) (fun tgt k => ?_) ?_
    · show Steps p.tables e below (T30.setTop (mkF m 227 #[.val (.int aa), .val (.int bb), .val (.int cc), .val (.int dd), .val (.int ee), .val (.int sl), .val (.ref ix), .val (.int (sl &&& (7 : Int32))), .val (.int rv), .val (.int (1 : Int32))] [(.int (own_xp cc rv bb cc dd ee)), (.int (if vq5 ((own_H cc + tg3) % 16) = 0 then (-1 : Int32) else (vq5 ((own_H cc + tg3) % 16)) - (1 : Int32)))])) tgt
      refine XS.icmpNo X30.here hx rfl (hb hby at_227) rfl (teq (own_look_fun IX (own_look_pr IX hg3 pg3) (LX cc (Or.inl (Or.inl (Or.inr rfl)))))).2 ?_
      show Steps p.tables e below (T30.setTop (mkF m 230 #[.val (.int aa), .val (.int bb), .val (.int cc), .val (.int dd), .val (.int ee), .val (.int sl), .val (.ref ix), .val (.int (sl &&& (7 : Int32))), .val (.int rv), .val (.int (1 : Int32))] [])) tgt
      refine XS.iconst X30.here hx rfl (hb hby at_230) ?_
      show Steps p.tables e below (T30.setTop (mkF m 231 #[.val (.int aa), .val (.int bb), .val (.int cc), .val (.int dd), .val (.int ee), .val (.int sl), .val (.ref ix), .val (.int (sl &&& (7 : Int32))), .val (.int rv), .val (.int (1 : Int32))] [(.int (1 : Int32))])) tgt
      refine XS.goto X30.here hx rfl (pc0 := 231) (pc' := 235) rfl (hb hby at_231) (by decide) (by decide) ?_
      show Steps p.tables e below (T30.setTop (mkF m 235 #[.val (.int aa), .val (.int bb), .val (.int cc), .val (.int dd), .val (.int ee), .val (.int sl), .val (.ref ix), .val (.int (sl &&& (7 : Int32))), .val (.int rv), .val (.int (1 : Int32))] [(.int (1 : Int32))])) tgt
      refine XS.istore X30.here hx rfl (hb hby at_235) rfl (l' := #[.val (.int aa), .val (.int bb), .val (.int cc), .val (.int dd), .val (.int ee), .val (.int sl), .val (.ref ix), .val (.int (sl &&& (7 : Int32))), .val (.int rv), .val (.int (1 : Int32))]) rfl ?_
      show Steps p.tables e below (T30.setTop (mkF m 237 #[.val (.int aa), .val (.int bb), .val (.int cc), .val (.int dd), .val (.int ee), .val (.int sl), .val (.ref ix), .val (.int (sl &&& (7 : Int32))), .val (.int rv), .val (.int (1 : Int32))] [])) tgt
      refine XS.iload X30.here hx rfl (hb hby at_237) rfl ?_
      show Steps p.tables e below (T30.setTop (mkF m 239 #[.val (.int aa), .val (.int bb), .val (.int cc), .val (.int dd), .val (.int ee), .val (.int sl), .val (.ref ix), .val (.int (sl &&& (7 : Int32))), .val (.int rv), .val (.int (1 : Int32))] [(.int (1 : Int32))])) tgt
      refine XS.ifNo X30.here hx rfl (hb hby at_239) rfl ((if0 _ _).trans (feq (by decide : ¬ ((1 : Int32) = (0 : Int32)))).1) ?_
      show Steps p.tables e below (T30.setTop (mkF m 242 #[.val (.int aa), .val (.int bb), .val (.int cc), .val (.int dd), .val (.int ee), .val (.int sl), .val (.ref ix), .val (.int (sl &&& (7 : Int32))), .val (.int rv), .val (.int (1 : Int32))] [])) tgt
      refine XS.aload X30.here hx rfl (hb hby at_242) rfl rfl ?_
      show Steps p.tables e below (T30.setTop (mkF m 244 #[.val (.int aa), .val (.int bb), .val (.int cc), .val (.int dd), .val (.int ee), .val (.int sl), .val (.ref ix), .val (.int (sl &&& (7 : Int32))), .val (.int rv), .val (.int (1 : Int32))] [(.ref ix)])) tgt
      refine XS.iloadN X30.here hx rfl (hb hby at_244) rfl ?_
      exact k
    obtain ⟨tg4, hg4, pg4⟩ := own_find kq5 vq5 dd zz5 zX vX
    obtain ⟨cq31, kq31, q31a, q31b, q31c⟩ := isOf hZ K30 g19_0
    obtain ⟨v31, _, ⟨T31, L31, k31, n31⟩, -, Xc31, ⟨Lc31, hQ31, l31, y31, z31⟩, st31⟩ := X30.virtualBack hx (y := (⟨"com/example/sigpoint/sigpoint/IntIndex", "get", "(I)I"⟩ : MethodName)) (z := (⟨"com/example/sigpoint/sigpoint/IntIndex", "get", "(I)I"⟩ : MethodName)) hown (mvT hZ (hw _ (List.mem_of_getElem? (i := 35) rfl))) (mvT hZ (hw _ (List.mem_of_getElem? (i := 36) rfl))) (notFace_of_selects (args := #[]) (mvT hZ (hw _ (List.mem_of_getElem? (i := 38) rfl)))) (mvT hZ (hw _ (List.mem_of_getElem? (i := 38) rfl))) (mvT hZ (hw _ (List.mem_of_getElem? (i := 37) rfl))) (by decide) (backOf (W := 0) (rm7 l Z a0 hw [] ix dd ka_2 va_2 kq5 vq5 tg4 T19.heap n0 Zs19 g19_0 g19_1 g19_2 Ag_ka_2_21 Ag_va_2_22 hg4 pg4) hZ (hw _ (List.mem_of_getElem? (i := 39) rfl)) (hw _ (List.mem_of_getElem? (i := 2) rfl)) (by decide) (by decide)) q31a q31c (g := (mkF m 245 #[.val (.int aa), .val (.int bb), .val (.int cc), .val (.int dd), .val (.int ee), .val (.int sl), .val (.ref ix), .val (.int (sl &&& (7 : Int32))), .val (.int rv), .val (.int (1 : Int32))] [(.int dd), (.ref ix)])) rfl (by rw [hml]; rfl) (Steps.refl _) (argsL := [(.int dd)]) (rest := []) (lenOf pd_0_3 rfl) rfl (by show 2 * 0 + _ ≤ _; exact Nat.le_of_eq rfl) (hb hby at_245) (fun _ _ => ⟨rfl, K30, (by decide : 3 + 0 ≤ _), (by decide : 35 + 0 ≤ _)⟩)
    dsimp only [Pt.U, Pt.locs, Pt.cells, Pt.slots] at Xc31 l31 y31 z31 st31 hQ31
    have X31 := own_cast Xc31 l31 y31 z31
    obtain ⟨ev31, N31q, K31⟩ := hQ31
    rw [ev31] at st31
    have N31 := Fr.app N30 N31q
    refine own_st (fun tgt k => st31.trans k) ?_
    show own_Go p e below _ (T31.setTop (mkF m 248 #[.val (.int aa), .val (.int bb), .val (.int cc), .val (.int dd), .val (.int ee), .val (.int sl), .val (.ref ix), .val (.int (sl &&& (7 : Int32))), .val (.int rv), .val (.int (1 : Int32))] [(.int (if vq5 ((own_H dd + tg4) % 16) = 0 then (-1 : Int32) else (vq5 ((own_H dd + tg4) % 16)) - (1 : Int32)))]))
    refine own_st (V := T31.setTop (mkF m 256 #[.val (.int aa), .val (.int bb), .val (.int cc), .val (.int dd), .val (.int ee), .val (.int sl), .val (.ref ix), .val (.int (sl &&& (7 : Int32))), .val (.int rv), .val (.int (1 : Int32))] [(.int ee), (.int dd), (.int cc), (.int bb), (.int rv), (.int dd), (.int (if vq5 ((own_H dd + tg4) % 16) = 0 then (-1 : Int32) else (vq5 ((own_H dd + tg4) % 16)) - (1 : Int32)))])) (fun tgt k => ?_) ?_
    · show Steps p.tables e below (T31.setTop (mkF m 248 #[.val (.int aa), .val (.int bb), .val (.int cc), .val (.int dd), .val (.int ee), .val (.int sl), .val (.ref ix), .val (.int (sl &&& (7 : Int32))), .val (.int rv), .val (.int (1 : Int32))] [(.int (if vq5 ((own_H dd + tg4) % 16) = 0 then (-1 : Int32) else (vq5 ((own_H dd + tg4) % 16)) - (1 : Int32)))])) tgt
      refine XS.iloadN X31.here hx rfl (hb hby at_248) rfl ?_
      show Steps p.tables e below (T31.setTop (mkF m 249 #[.val (.int aa), .val (.int bb), .val (.int cc), .val (.int dd), .val (.int ee), .val (.int sl), .val (.ref ix), .val (.int (sl &&& (7 : Int32))), .val (.int rv), .val (.int (1 : Int32))] [(.int dd), (.int (if vq5 ((own_H dd + tg4) % 16) = 0 then (-1 : Int32) else (vq5 ((own_H dd + tg4) % 16)) - (1 : Int32)))])) tgt
      refine XS.iload X31.here hx rfl (hb hby at_249) rfl ?_
      show Steps p.tables e below (T31.setTop (mkF m 251 #[.val (.int aa), .val (.int bb), .val (.int cc), .val (.int dd), .val (.int ee), .val (.int sl), .val (.ref ix), .val (.int (sl &&& (7 : Int32))), .val (.int rv), .val (.int (1 : Int32))] [(.int rv), (.int dd), (.int (if vq5 ((own_H dd + tg4) % 16) = 0 then (-1 : Int32) else (vq5 ((own_H dd + tg4) % 16)) - (1 : Int32)))])) tgt
      refine XS.iloadN X31.here hx rfl (hb hby at_251) rfl ?_
      show Steps p.tables e below (T31.setTop (mkF m 252 #[.val (.int aa), .val (.int bb), .val (.int cc), .val (.int dd), .val (.int ee), .val (.int sl), .val (.ref ix), .val (.int (sl &&& (7 : Int32))), .val (.int rv), .val (.int (1 : Int32))] [(.int bb), (.int rv), (.int dd), (.int (if vq5 ((own_H dd + tg4) % 16) = 0 then (-1 : Int32) else (vq5 ((own_H dd + tg4) % 16)) - (1 : Int32)))])) tgt
      refine XS.iloadN X31.here hx rfl (hb hby at_252) rfl ?_
      show Steps p.tables e below (T31.setTop (mkF m 253 #[.val (.int aa), .val (.int bb), .val (.int cc), .val (.int dd), .val (.int ee), .val (.int sl), .val (.ref ix), .val (.int (sl &&& (7 : Int32))), .val (.int rv), .val (.int (1 : Int32))] [(.int cc), (.int bb), (.int rv), (.int dd), (.int (if vq5 ((own_H dd + tg4) % 16) = 0 then (-1 : Int32) else (vq5 ((own_H dd + tg4) % 16)) - (1 : Int32)))])) tgt
      refine XS.iloadN X31.here hx rfl (hb hby at_253) rfl ?_
      show Steps p.tables e below (T31.setTop (mkF m 254 #[.val (.int aa), .val (.int bb), .val (.int cc), .val (.int dd), .val (.int ee), .val (.int sl), .val (.ref ix), .val (.int (sl &&& (7 : Int32))), .val (.int rv), .val (.int (1 : Int32))] [(.int dd), (.int cc), (.int bb), (.int rv), (.int dd), (.int (if vq5 ((own_H dd + tg4) % 16) = 0 then (-1 : Int32) else (vq5 ((own_H dd + tg4) % 16)) - (1 : Int32)))])) tgt
      refine XS.iload X31.here hx rfl (hb hby at_254) rfl ?_
      exact k
    obtain ⟨v32, _, ⟨T32, L32, k32, n32⟩, -, Xc32, ⟨Lc32, hQ32, l32, y32, z32⟩, st32⟩ := Jvm.LawKit.callS X31 hx (y := (⟨"com/example/sigpoint/sigpoint/IntIndexRemovePinLaw", "expect", "(IIIIII)I"⟩ : MethodName)) hown (mvT hZ (hw _ (List.mem_of_getElem? (i := 40) rfl))) (mvT hZ (hw _ (List.mem_of_getElem? (i := 41) rfl))) (mvT hZ (hw _ (List.mem_of_getElem? (i := 42) rfl))) (mvT hZ (hw _ (List.mem_of_getElem? (i := 43) rfl))) (by decide) (backOf (W := 1) (rm8 l Z a0 hw [] dd rv bb cc dd ee T19.heap n0 Zs19 ) hZ (hw _ (List.mem_of_getElem? (i := 43) rfl)) (hw _ (List.mem_of_getElem? (i := 42) rfl)) (by decide) (by decide)) (g := (mkF m 256 #[.val (.int aa), .val (.int bb), .val (.int cc), .val (.int dd), .val (.int ee), .val (.int sl), .val (.ref ix), .val (.int (sl &&& (7 : Int32))), .val (.int rv), .val (.int (1 : Int32))] [(.int ee), (.int dd), (.int cc), (.int bb), (.int rv), (.int dd), (.int (if vq5 ((own_H dd + tg4) % 16) = 0 then (-1 : Int32) else (vq5 ((own_H dd + tg4) % 16)) - (1 : Int32)))])) rfl (by rw [hml]; rfl) (argsL := [(.int dd), (.int rv), (.int bb), (.int cc), (.int dd), (.int ee)]) (rest := [(.int (if vq5 ((own_H dd + tg4) % 16) = 0 then (-1 : Int32) else (vq5 ((own_H dd + tg4) % 16)) - (1 : Int32)))]) (lenOf pd_0_4 rfl) rfl (by show 2 * 0 + _ ≤ _; exact Nat.le_of_eq rfl) (hb hby at_256) (fun _ _ => ⟨rfl, K31, (by decide : 3 + 0 ≤ _), (by decide : 35 + 0 ≤ _)⟩)
    dsimp only [Pt.U, Pt.locs, Pt.cells, Pt.slots] at Xc32 l32 y32 z32 st32 hQ32
    have X32 := own_cast Xc32 l32 y32 z32
    obtain ⟨ev32, N32q, K32⟩ := hQ32
    rw [ev32] at st32
    have N32 := Fr.app N31 N32q
    refine own_st st32 ?_
    show own_Go p e below _ (T32.setTop (mkF m 259 #[.val (.int aa), .val (.int bb), .val (.int cc), .val (.int dd), .val (.int ee), .val (.int sl), .val (.ref ix), .val (.int (sl &&& (7 : Int32))), .val (.int rv), .val (.int (1 : Int32))] [(.int (own_xp dd rv bb cc dd ee)), (.int (if vq5 ((own_H dd + tg4) % 16) = 0 then (-1 : Int32) else (vq5 ((own_H dd + tg4) % 16)) - (1 : Int32)))]))
    refine own_st (V := T32.setTop (mkF m 278 #[.val (.int aa), .val (.int bb), .val (.int cc), .val (.int dd), .val (.int ee), .val (.int sl), .val (.ref ix), .val (.int (sl &&& (7 : Int32))), .val (.int rv), .val (.int (1 : Int32))] [(.int ee), (.ref ix)])) (fun tgt k => ?_) ?_
    · show Steps p.tables e below (T32.setTop (mkF m 259 #[.val (.int aa), .val (.int bb), .val (.int cc), .val (.int dd), .val (.int ee), .val (.int sl), .val (.ref ix), .val (.int (sl &&& (7 : Int32))), .val (.int rv), .val (.int (1 : Int32))] [(.int (own_xp dd rv bb cc dd ee)), (.int (if vq5 ((own_H dd + tg4) % 16) = 0 then (-1 : Int32) else (vq5 ((own_H dd + tg4) % 16)) - (1 : Int32)))])) tgt
      refine XS.icmpNo X32.here hx rfl (hb hby at_259) rfl (teq (own_look_fun IX (own_look_pr IX hg4 pg4) (LX dd (Or.inl (Or.inr rfl))))).2 ?_
      show Steps p.tables e below (T32.setTop (mkF m 262 #[.val (.int aa), .val (.int bb), .val (.int cc), .val (.int dd), .val (.int ee), .val (.int sl), .val (.ref ix), .val (.int (sl &&& (7 : Int32))), .val (.int rv), .val (.int (1 : Int32))] [])) tgt
      refine XS.iconst X32.here hx rfl (hb hby at_262) ?_
      show Steps p.tables e below (T32.setTop (mkF m 263 #[.val (.int aa), .val (.int bb), .val (.int cc), .val (.int dd), .val (.int ee), .val (.int sl), .val (.ref ix), .val (.int (sl &&& (7 : Int32))), .val (.int rv), .val (.int (1 : Int32))] [(.int (1 : Int32))])) tgt
      refine XS.goto X32.here hx rfl (pc0 := 263) (pc' := 267) rfl (hb hby at_263) (by decide) (by decide) ?_
      show Steps p.tables e below (T32.setTop (mkF m 267 #[.val (.int aa), .val (.int bb), .val (.int cc), .val (.int dd), .val (.int ee), .val (.int sl), .val (.ref ix), .val (.int (sl &&& (7 : Int32))), .val (.int rv), .val (.int (1 : Int32))] [(.int (1 : Int32))])) tgt
      refine XS.istore X32.here hx rfl (hb hby at_267) rfl (l' := #[.val (.int aa), .val (.int bb), .val (.int cc), .val (.int dd), .val (.int ee), .val (.int sl), .val (.ref ix), .val (.int (sl &&& (7 : Int32))), .val (.int rv), .val (.int (1 : Int32))]) rfl ?_
      show Steps p.tables e below (T32.setTop (mkF m 269 #[.val (.int aa), .val (.int bb), .val (.int cc), .val (.int dd), .val (.int ee), .val (.int sl), .val (.ref ix), .val (.int (sl &&& (7 : Int32))), .val (.int rv), .val (.int (1 : Int32))] [])) tgt
      refine XS.iload X32.here hx rfl (hb hby at_269) rfl ?_
      show Steps p.tables e below (T32.setTop (mkF m 271 #[.val (.int aa), .val (.int bb), .val (.int cc), .val (.int dd), .val (.int ee), .val (.int sl), .val (.ref ix), .val (.int (sl &&& (7 : Int32))), .val (.int rv), .val (.int (1 : Int32))] [(.int (1 : Int32))])) tgt
      refine XS.ifNo X32.here hx rfl (hb hby at_271) rfl ((if0 _ _).trans (feq (by decide : ¬ ((1 : Int32) = (0 : Int32)))).1) ?_
      show Steps p.tables e below (T32.setTop (mkF m 274 #[.val (.int aa), .val (.int bb), .val (.int cc), .val (.int dd), .val (.int ee), .val (.int sl), .val (.ref ix), .val (.int (sl &&& (7 : Int32))), .val (.int rv), .val (.int (1 : Int32))] [])) tgt
      refine XS.aload X32.here hx rfl (hb hby at_274) rfl rfl ?_
      show Steps p.tables e below (T32.setTop (mkF m 276 #[.val (.int aa), .val (.int bb), .val (.int cc), .val (.int dd), .val (.int ee), .val (.int sl), .val (.ref ix), .val (.int (sl &&& (7 : Int32))), .val (.int rv), .val (.int (1 : Int32))] [(.ref ix)])) tgt
      refine XS.iload X32.here hx rfl (hb hby at_276) rfl ?_
      exact k
    obtain ⟨tg5, hg5, pg5⟩ := own_find kq5 vq5 ee zz5 zX vX
    obtain ⟨cq33, kq33, q33a, q33b, q33c⟩ := isOf hZ K32 g19_0
    obtain ⟨v33, _, ⟨T33, L33, k33, n33⟩, -, Xc33, ⟨Lc33, hQ33, l33, y33, z33⟩, st33⟩ := X32.virtualBack hx (y := (⟨"com/example/sigpoint/sigpoint/IntIndex", "get", "(I)I"⟩ : MethodName)) (z := (⟨"com/example/sigpoint/sigpoint/IntIndex", "get", "(I)I"⟩ : MethodName)) hown (mvT hZ (hw _ (List.mem_of_getElem? (i := 35) rfl))) (mvT hZ (hw _ (List.mem_of_getElem? (i := 36) rfl))) (notFace_of_selects (args := #[]) (mvT hZ (hw _ (List.mem_of_getElem? (i := 38) rfl)))) (mvT hZ (hw _ (List.mem_of_getElem? (i := 38) rfl))) (mvT hZ (hw _ (List.mem_of_getElem? (i := 37) rfl))) (by decide) (backOf (W := 0) (rm7 l Z a0 hw [] ix ee ka_2 va_2 kq5 vq5 tg5 T19.heap n0 Zs19 g19_0 g19_1 g19_2 Ag_ka_2_21 Ag_va_2_22 hg5 pg5) hZ (hw _ (List.mem_of_getElem? (i := 39) rfl)) (hw _ (List.mem_of_getElem? (i := 2) rfl)) (by decide) (by decide)) q33a q33c (g := (mkF m 278 #[.val (.int aa), .val (.int bb), .val (.int cc), .val (.int dd), .val (.int ee), .val (.int sl), .val (.ref ix), .val (.int (sl &&& (7 : Int32))), .val (.int rv), .val (.int (1 : Int32))] [(.int ee), (.ref ix)])) rfl (by rw [hml]; rfl) (Steps.refl _) (argsL := [(.int ee)]) (rest := []) (lenOf pd_0_3 rfl) rfl (by show 2 * 0 + _ ≤ _; exact Nat.le_of_eq rfl) (hb hby at_278) (fun _ _ => ⟨rfl, K32, (by decide : 3 + 0 ≤ _), (by decide : 35 + 0 ≤ _)⟩)
    dsimp only [Pt.U, Pt.locs, Pt.cells, Pt.slots] at Xc33 l33 y33 z33 st33 hQ33
    have X33 := own_cast Xc33 l33 y33 z33
    obtain ⟨ev33, N33q, K33⟩ := hQ33
    rw [ev33] at st33
    have N33 := Fr.app N32 N33q
    refine own_st (fun tgt k => st33.trans k) ?_
    show own_Go p e below _ (T33.setTop (mkF m 281 #[.val (.int aa), .val (.int bb), .val (.int cc), .val (.int dd), .val (.int ee), .val (.int sl), .val (.ref ix), .val (.int (sl &&& (7 : Int32))), .val (.int rv), .val (.int (1 : Int32))] [(.int (if vq5 ((own_H ee + tg5) % 16) = 0 then (-1 : Int32) else (vq5 ((own_H ee + tg5) % 16)) - (1 : Int32)))]))
    refine own_st (V := T33.setTop (mkF m 290 #[.val (.int aa), .val (.int bb), .val (.int cc), .val (.int dd), .val (.int ee), .val (.int sl), .val (.ref ix), .val (.int (sl &&& (7 : Int32))), .val (.int rv), .val (.int (1 : Int32))] [(.int ee), (.int dd), (.int cc), (.int bb), (.int rv), (.int ee), (.int (if vq5 ((own_H ee + tg5) % 16) = 0 then (-1 : Int32) else (vq5 ((own_H ee + tg5) % 16)) - (1 : Int32)))])) (fun tgt k => ?_) ?_
    · show Steps p.tables e below (T33.setTop (mkF m 281 #[.val (.int aa), .val (.int bb), .val (.int cc), .val (.int dd), .val (.int ee), .val (.int sl), .val (.ref ix), .val (.int (sl &&& (7 : Int32))), .val (.int rv), .val (.int (1 : Int32))] [(.int (if vq5 ((own_H ee + tg5) % 16) = 0 then (-1 : Int32) else (vq5 ((own_H ee + tg5) % 16)) - (1 : Int32)))])) tgt
      refine XS.iload X33.here hx rfl (hb hby at_281) rfl ?_
      show Steps p.tables e below (T33.setTop (mkF m 283 #[.val (.int aa), .val (.int bb), .val (.int cc), .val (.int dd), .val (.int ee), .val (.int sl), .val (.ref ix), .val (.int (sl &&& (7 : Int32))), .val (.int rv), .val (.int (1 : Int32))] [(.int ee), (.int (if vq5 ((own_H ee + tg5) % 16) = 0 then (-1 : Int32) else (vq5 ((own_H ee + tg5) % 16)) - (1 : Int32)))])) tgt
      refine XS.iload X33.here hx rfl (hb hby at_283) rfl ?_
      show Steps p.tables e below (T33.setTop (mkF m 285 #[.val (.int aa), .val (.int bb), .val (.int cc), .val (.int dd), .val (.int ee), .val (.int sl), .val (.ref ix), .val (.int (sl &&& (7 : Int32))), .val (.int rv), .val (.int (1 : Int32))] [(.int rv), (.int ee), (.int (if vq5 ((own_H ee + tg5) % 16) = 0 then (-1 : Int32) else (vq5 ((own_H ee + tg5) % 16)) - (1 : Int32)))])) tgt
      refine XS.iloadN X33.here hx rfl (hb hby at_285) rfl ?_
      show Steps p.tables e below (T33.setTop (mkF m 286 #[.val (.int aa), .val (.int bb), .val (.int cc), .val (.int dd), .val (.int ee), .val (.int sl), .val (.ref ix), .val (.int (sl &&& (7 : Int32))), .val (.int rv), .val (.int (1 : Int32))] [(.int bb), (.int rv), (.int ee), (.int (if vq5 ((own_H ee + tg5) % 16) = 0 then (-1 : Int32) else (vq5 ((own_H ee + tg5) % 16)) - (1 : Int32)))])) tgt
      refine XS.iloadN X33.here hx rfl (hb hby at_286) rfl ?_
      show Steps p.tables e below (T33.setTop (mkF m 287 #[.val (.int aa), .val (.int bb), .val (.int cc), .val (.int dd), .val (.int ee), .val (.int sl), .val (.ref ix), .val (.int (sl &&& (7 : Int32))), .val (.int rv), .val (.int (1 : Int32))] [(.int cc), (.int bb), (.int rv), (.int ee), (.int (if vq5 ((own_H ee + tg5) % 16) = 0 then (-1 : Int32) else (vq5 ((own_H ee + tg5) % 16)) - (1 : Int32)))])) tgt
      refine XS.iloadN X33.here hx rfl (hb hby at_287) rfl ?_
      show Steps p.tables e below (T33.setTop (mkF m 288 #[.val (.int aa), .val (.int bb), .val (.int cc), .val (.int dd), .val (.int ee), .val (.int sl), .val (.ref ix), .val (.int (sl &&& (7 : Int32))), .val (.int rv), .val (.int (1 : Int32))] [(.int dd), (.int cc), (.int bb), (.int rv), (.int ee), (.int (if vq5 ((own_H ee + tg5) % 16) = 0 then (-1 : Int32) else (vq5 ((own_H ee + tg5) % 16)) - (1 : Int32)))])) tgt
      refine XS.iload X33.here hx rfl (hb hby at_288) rfl ?_
      exact k
    obtain ⟨v34, _, ⟨T34, L34, k34, n34⟩, -, Xc34, ⟨Lc34, hQ34, l34, y34, z34⟩, st34⟩ := Jvm.LawKit.callS X33 hx (y := (⟨"com/example/sigpoint/sigpoint/IntIndexRemovePinLaw", "expect", "(IIIIII)I"⟩ : MethodName)) hown (mvT hZ (hw _ (List.mem_of_getElem? (i := 40) rfl))) (mvT hZ (hw _ (List.mem_of_getElem? (i := 41) rfl))) (mvT hZ (hw _ (List.mem_of_getElem? (i := 42) rfl))) (mvT hZ (hw _ (List.mem_of_getElem? (i := 43) rfl))) (by decide) (backOf (W := 1) (rm8 l Z a0 hw [] ee rv bb cc dd ee T19.heap n0 Zs19 ) hZ (hw _ (List.mem_of_getElem? (i := 43) rfl)) (hw _ (List.mem_of_getElem? (i := 42) rfl)) (by decide) (by decide)) (g := (mkF m 290 #[.val (.int aa), .val (.int bb), .val (.int cc), .val (.int dd), .val (.int ee), .val (.int sl), .val (.ref ix), .val (.int (sl &&& (7 : Int32))), .val (.int rv), .val (.int (1 : Int32))] [(.int ee), (.int dd), (.int cc), (.int bb), (.int rv), (.int ee), (.int (if vq5 ((own_H ee + tg5) % 16) = 0 then (-1 : Int32) else (vq5 ((own_H ee + tg5) % 16)) - (1 : Int32)))])) rfl (by rw [hml]; rfl) (argsL := [(.int ee), (.int rv), (.int bb), (.int cc), (.int dd), (.int ee)]) (rest := [(.int (if vq5 ((own_H ee + tg5) % 16) = 0 then (-1 : Int32) else (vq5 ((own_H ee + tg5) % 16)) - (1 : Int32)))]) (lenOf pd_0_4 rfl) rfl (by show 2 * 0 + _ ≤ _; exact Nat.le_of_eq rfl) (hb hby at_290) (fun _ _ => ⟨rfl, K33, (by decide : 3 + 0 ≤ _), (by decide : 35 + 0 ≤ _)⟩)
    dsimp only [Pt.U, Pt.locs, Pt.cells, Pt.slots] at Xc34 l34 y34 z34 st34 hQ34
    have X34 := own_cast Xc34 l34 y34 z34
    obtain ⟨ev34, N34q, K34⟩ := hQ34
    rw [ev34] at st34
    have N34 := Fr.app N33 N34q
    refine own_st st34 ?_
    show own_Go p e below _ (T34.setTop (mkF m 293 #[.val (.int aa), .val (.int bb), .val (.int cc), .val (.int dd), .val (.int ee), .val (.int sl), .val (.ref ix), .val (.int (sl &&& (7 : Int32))), .val (.int rv), .val (.int (1 : Int32))] [(.int (own_xp ee rv bb cc dd ee)), (.int (if vq5 ((own_H ee + tg5) % 16) = 0 then (-1 : Int32) else (vq5 ((own_H ee + tg5) % 16)) - (1 : Int32)))]))
    refine own_st (V := T34.setTop (mkF m 305 #[.val (.int aa), .val (.int bb), .val (.int cc), .val (.int dd), .val (.int ee), .val (.int sl), .val (.ref ix), .val (.int (sl &&& (7 : Int32))), .val (.int rv), .val (.int (1 : Int32))] [(.int (1 : Int32))])) (fun tgt k => ?_) ?_
    · show Steps p.tables e below (T34.setTop (mkF m 293 #[.val (.int aa), .val (.int bb), .val (.int cc), .val (.int dd), .val (.int ee), .val (.int sl), .val (.ref ix), .val (.int (sl &&& (7 : Int32))), .val (.int rv), .val (.int (1 : Int32))] [(.int (own_xp ee rv bb cc dd ee)), (.int (if vq5 ((own_H ee + tg5) % 16) = 0 then (-1 : Int32) else (vq5 ((own_H ee + tg5) % 16)) - (1 : Int32)))])) tgt
      refine XS.icmpNo X34.here hx rfl (hb hby at_293) rfl (teq (own_look_fun IX (own_look_pr IX hg5 pg5) (LX ee (Or.inr rfl)))).2 ?_
      show Steps p.tables e below (T34.setTop (mkF m 296 #[.val (.int aa), .val (.int bb), .val (.int cc), .val (.int dd), .val (.int ee), .val (.int sl), .val (.ref ix), .val (.int (sl &&& (7 : Int32))), .val (.int rv), .val (.int (1 : Int32))] [])) tgt
      refine XS.iconst X34.here hx rfl (hb hby at_296) ?_
      show Steps p.tables e below (T34.setTop (mkF m 297 #[.val (.int aa), .val (.int bb), .val (.int cc), .val (.int dd), .val (.int ee), .val (.int sl), .val (.ref ix), .val (.int (sl &&& (7 : Int32))), .val (.int rv), .val (.int (1 : Int32))] [(.int (1 : Int32))])) tgt
      refine XS.goto X34.here hx rfl (pc0 := 297) (pc' := 301) rfl (hb hby at_297) (by decide) (by decide) ?_
      show Steps p.tables e below (T34.setTop (mkF m 301 #[.val (.int aa), .val (.int bb), .val (.int cc), .val (.int dd), .val (.int ee), .val (.int sl), .val (.ref ix), .val (.int (sl &&& (7 : Int32))), .val (.int rv), .val (.int (1 : Int32))] [(.int (1 : Int32))])) tgt
      refine XS.istore X34.here hx rfl (hb hby at_301) rfl (l' := #[.val (.int aa), .val (.int bb), .val (.int cc), .val (.int dd), .val (.int ee), .val (.int sl), .val (.ref ix), .val (.int (sl &&& (7 : Int32))), .val (.int rv), .val (.int (1 : Int32))]) rfl ?_
      show Steps p.tables e below (T34.setTop (mkF m 303 #[.val (.int aa), .val (.int bb), .val (.int cc), .val (.int dd), .val (.int ee), .val (.int sl), .val (.ref ix), .val (.int (sl &&& (7 : Int32))), .val (.int rv), .val (.int (1 : Int32))] [])) tgt
      refine XS.iload X34.here hx rfl (hb hby at_303) rfl ?_
      exact k
    refine own_retN X34 hx hlk (t := .boolean) (z' := (1 : Int32)) Bd.returns (by simp) rfl (hb hby at_305) ?_ (by decide) (by decide)
    show Q0 Z aa bb cc dd ee sl h0 n0 (some (.int (1 : Int32))) T34.heap _
    rw [K34]
    exact ⟨rfl, N34⟩
  · skip
    have hkp := hp5.2.resolve_left hab
    obtain ⟨uu, hRN, IY, ⟨zz6, zY, vY⟩, Lr', LY⟩ := own_rem_ok I5 (ho := ((own_H rv + t5) % 16)) (Nat.mod_lt _ (by decide)) hab hz5 hv5
    rw [hkp] at Lr' LY
    refine own_st (V := T19.setTop (mkF m 120 #[.val (.int aa), .val (.int bb), .val (.int cc), .val (.int dd), .val (.int ee), .val (.int sl), .val (.ref ix), .val (.int (sl &&& (7 : Int32))), .val (.int rv), .unset] [(.int rv), (.ref ix)])) (fun tgt k => ?_) ?_
    · show Steps p.tables e below (T19.setTop (mkF m 116 #[.val (.int aa), .val (.int bb), .val (.int cc), .val (.int dd), .val (.int ee), .val (.int sl), .val (.ref ix), .val (.int (sl &&& (7 : Int32))), .val (.int rv), .unset] [])) tgt
      refine XS.aload X19.here hx rfl (hb hby at_116) rfl rfl ?_
      show Steps p.tables e below (T19.setTop (mkF m 118 #[.val (.int aa), .val (.int bb), .val (.int cc), .val (.int dd), .val (.int ee), .val (.int sl), .val (.ref ix), .val (.int (sl &&& (7 : Int32))), .val (.int rv), .unset] [(.ref ix)])) tgt
      refine XS.iload X19.here hx rfl (hb hby at_118) rfl ?_
      exact k
    obtain ⟨cq36, kq36, q36a, q36b, q36c⟩ := isOf hZ rfl g19_0
    obtain ⟨v36, _, ⟨T36, L36, k36, n36⟩, -, Xc36, ⟨Lc36, hQ36, l36, y36, z36⟩, st36⟩ := X19.virtualBack hx (y := (⟨"com/example/sigpoint/sigpoint/IntIndex", "remove", "(I)V"⟩ : MethodName)) (z := (⟨"com/example/sigpoint/sigpoint/IntIndex", "remove", "(I)V"⟩ : MethodName)) hown (mvT hZ (hw _ (List.mem_of_getElem? (i := 26) rfl))) (mvT hZ (hw _ (List.mem_of_getElem? (i := 27) rfl))) (notFace_of_selects (args := #[]) (mvT hZ (hw _ (List.mem_of_getElem? (i := 29) rfl)))) (mvT hZ (hw _ (List.mem_of_getElem? (i := 29) rfl))) (mvT hZ (hw _ (List.mem_of_getElem? (i := 28) rfl))) (by decide) (backOf (W := 0) (rm5y l Z a0 hw [] ix rv ka_2 va_2 kq5 vq5 sq5 t5 uu T19.heap n0 Zs19 g19_0 g19_1 g19_2 Fg_ix_20 Ag_ka_2_21 Ag_va_2_22 g_ix g2_2 g2_3 g2_4 ne_ix_ka_2 ne_ix_va_2 ht5 hp5 hab hkp hRN) hZ (hw _ (List.mem_of_getElem? (i := 30) rfl)) (hw _ (List.mem_of_getElem? (i := 2) rfl)) (by decide) (by decide)) q36a q36c (g := (mkF m 120 #[.val (.int aa), .val (.int bb), .val (.int cc), .val (.int dd), .val (.int ee), .val (.int sl), .val (.ref ix), .val (.int (sl &&& (7 : Int32))), .val (.int rv), .unset] [(.int rv), (.ref ix)])) rfl (by rw [hml]; rfl) (Steps.refl _) (argsL := [(.int rv)]) (rest := []) (lenOf pd_0_2 rfl) rfl (by show 2 * 0 + _ ≤ _; exact Nat.le_of_eq rfl) (hb hby at_120) (fun _ _ => ⟨rfl, rfl, (by decide : 3 + 0 ≤ _), (by decide : 35 + 0 ≤ _)⟩)
    dsimp only [Pt.U, Pt.locs, Pt.cells, Pt.slots] at Xc36 l36 y36 z36 st36 hQ36
    have X36 := own_cast Xc36 l36 y36 z36
    obtain ⟨ev36, N36q, K36, g36_0, g36_1, g36_2, g36_3, g36_4⟩ := hQ36
    rw [ev36] at st36
    have N36 := Fr.app N19 N36q
    have E_ix_36 := g19_0.keep K36
    have Zs36 : n0 ≤ T36.heap.size := Nat.le_trans Zs19 K36.1
    refine own_st (fun tgt k => st36.trans k) ?_
    show own_Go p e below _ (T36.setTop (mkF m 123 #[.val (.int aa), .val (.int bb), .val (.int cc), .val (.int dd), .val (.int ee), .val (.int sl), .val (.ref ix), .val (.int (sl &&& (7 : Int32))), .val (.int rv), .unset] []))
    obtain ⟨kq6, hkq6⟩ : ∃ f : Nat → Int32, f = (own_lp uu kq5 vq5 ((own_H rv + t5) % 16) ((((own_H rv + t5) % 16) + 1) % 16)).1 := ⟨_, rfl⟩
    have Ag_ka_2_37 := g36_3
    rw [← hkq6] at Ag_ka_2_37
    obtain ⟨vq6, hvq6⟩ : ∃ f : Nat → Int32, f = (own_lp uu kq5 vq5 ((own_H rv + t5) % 16) ((((own_H rv + t5) % 16) + 1) % 16)).2 := ⟨_, rfl⟩
    have Ag_va_2_38 := g36_4
    rw [← hvq6] at Ag_va_2_38
    rw [← hkq6, ← hvq6] at IY Lr' LY
    rw [← hvq6] at vY
    have Lr := Lr'
    have LX : ∀ w, ((((w = aa) ∨ w = bb) ∨ w = cc) ∨ w = dd) ∨ w = ee → own_look kq6 vq6 w (own_xp w rv bb cc dd ee) := by
      intro w hw
      unfold own_xp
      by_cases q : w = rv
      · rw [if_pos q, q]; exact Lr
      · rw [if_neg q]; exact LY w _ q (L5 w hw)
    have IX := IY
    have zX := zY
    have vX := vY
    refine own_st (V := T36.setTop (mkF m 127 #[.val (.int aa), .val (.int bb), .val (.int cc), .val (.int dd), .val (.int ee), .val (.int sl), .val (.ref ix), .val (.int (sl &&& (7 : Int32))), .val (.int rv), .unset] [(.int rv), (.ref ix)])) (fun tgt k => ?_) ?_
    · show Steps p.tables e below (T36.setTop (mkF m 123 #[.val (.int aa), .val (.int bb), .val (.int cc), .val (.int dd), .val (.int ee), .val (.int sl), .val (.ref ix), .val (.int (sl &&& (7 : Int32))), .val (.int rv), .unset] [])) tgt
      refine XS.aload X36.here hx rfl (hb hby at_123) rfl rfl ?_
      show Steps p.tables e below (T36.setTop (mkF m 125 #[.val (.int aa), .val (.int bb), .val (.int cc), .val (.int dd), .val (.int ee), .val (.int sl), .val (.ref ix), .val (.int (sl &&& (7 : Int32))), .val (.int rv), .unset] [(.ref ix)])) tgt
      refine XS.iload X36.here hx rfl (hb hby at_125) rfl ?_
      exact k
    obtain ⟨tg0, hg0, pg0⟩ := own_find kq6 vq6 rv zz6 zX vX
    obtain ⟨cq39, kq39, q39a, q39b, q39c⟩ := isOf hZ rfl g36_0
    obtain ⟨v39, _, ⟨T39, L39, k39, n39⟩, -, Xc39, ⟨Lc39, hQ39, l39, y39, z39⟩, st39⟩ := X36.virtualBack hx (y := (⟨"com/example/sigpoint/sigpoint/IntIndex", "get", "(I)I"⟩ : MethodName)) (z := (⟨"com/example/sigpoint/sigpoint/IntIndex", "get", "(I)I"⟩ : MethodName)) hown (mvT hZ (hw _ (List.mem_of_getElem? (i := 35) rfl))) (mvT hZ (hw _ (List.mem_of_getElem? (i := 36) rfl))) (notFace_of_selects (args := #[]) (mvT hZ (hw _ (List.mem_of_getElem? (i := 38) rfl)))) (mvT hZ (hw _ (List.mem_of_getElem? (i := 38) rfl))) (mvT hZ (hw _ (List.mem_of_getElem? (i := 37) rfl))) (by decide) (backOf (W := 0) (rm7 l Z a0 hw [] ix rv ka_2 va_2 kq6 vq6 tg0 T36.heap n0 Zs36 g36_0 g36_1 g36_2 Ag_ka_2_37 Ag_va_2_38 hg0 pg0) hZ (hw _ (List.mem_of_getElem? (i := 39) rfl)) (hw _ (List.mem_of_getElem? (i := 2) rfl)) (by decide) (by decide)) q39a q39c (g := (mkF m 127 #[.val (.int aa), .val (.int bb), .val (.int cc), .val (.int dd), .val (.int ee), .val (.int sl), .val (.ref ix), .val (.int (sl &&& (7 : Int32))), .val (.int rv), .unset] [(.int rv), (.ref ix)])) rfl (by rw [hml]; rfl) (Steps.refl _) (argsL := [(.int rv)]) (rest := []) (lenOf pd_0_3 rfl) rfl (by show 2 * 0 + _ ≤ _; exact Nat.le_of_eq rfl) (hb hby at_127) (fun _ _ => ⟨rfl, rfl, (by decide : 3 + 0 ≤ _), (by decide : 35 + 0 ≤ _)⟩)
    dsimp only [Pt.U, Pt.locs, Pt.cells, Pt.slots] at Xc39 l39 y39 z39 st39 hQ39
    have X39 := own_cast Xc39 l39 y39 z39
    obtain ⟨ev39, N39q, K39⟩ := hQ39
    rw [ev39] at st39
    have N39 := Fr.app N36 N39q
    refine own_st (fun tgt k => st39.trans k) ?_
    show own_Go p e below _ (T39.setTop (mkF m 130 #[.val (.int aa), .val (.int bb), .val (.int cc), .val (.int dd), .val (.int ee), .val (.int sl), .val (.ref ix), .val (.int (sl &&& (7 : Int32))), .val (.int rv), .unset] [(.int (if vq6 ((own_H rv + tg0) % 16) = 0 then (-1 : Int32) else (vq6 ((own_H rv + tg0) % 16)) - (1 : Int32)))]))
    refine own_st (V := T39.setTop (mkF m 149 #[.val (.int aa), .val (.int bb), .val (.int cc), .val (.int dd), .val (.int ee), .val (.int sl), .val (.ref ix), .val (.int (sl &&& (7 : Int32))), .val (.int rv), .val (.int (1 : Int32))] [(.int aa), (.ref ix)])) (fun tgt k => ?_) ?_
    · show Steps p.tables e below (T39.setTop (mkF m 130 #[.val (.int aa), .val (.int bb), .val (.int cc), .val (.int dd), .val (.int ee), .val (.int sl), .val (.ref ix), .val (.int (sl &&& (7 : Int32))), .val (.int rv), .unset] [(.int (if vq6 ((own_H rv + tg0) % 16) = 0 then (-1 : Int32) else (vq6 ((own_H rv + tg0) % 16)) - (1 : Int32)))])) tgt
      refine XS.iconst X39.here hx rfl (hb hby at_130) ?_
      show Steps p.tables e below (T39.setTop (mkF m 131 #[.val (.int aa), .val (.int bb), .val (.int cc), .val (.int dd), .val (.int ee), .val (.int sl), .val (.ref ix), .val (.int (sl &&& (7 : Int32))), .val (.int rv), .unset] [(.int (-1 : Int32)), (.int (if vq6 ((own_H rv + tg0) % 16) = 0 then (-1 : Int32) else (vq6 ((own_H rv + tg0) % 16)) - (1 : Int32)))])) tgt
      refine XS.icmpNo X39.here hx rfl (hb hby at_131) rfl (teq (own_look_fun IX (own_look_pr IX hg0 pg0) Lr)).2 ?_
      show Steps p.tables e below (T39.setTop (mkF m 134 #[.val (.int aa), .val (.int bb), .val (.int cc), .val (.int dd), .val (.int ee), .val (.int sl), .val (.ref ix), .val (.int (sl &&& (7 : Int32))), .val (.int rv), .unset] [])) tgt
      refine XS.iconst X39.here hx rfl (hb hby at_134) ?_
      show Steps p.tables e below (T39.setTop (mkF m 135 #[.val (.int aa), .val (.int bb), .val (.int cc), .val (.int dd), .val (.int ee), .val (.int sl), .val (.ref ix), .val (.int (sl &&& (7 : Int32))), .val (.int rv), .unset] [(.int (1 : Int32))])) tgt
      refine XS.goto X39.here hx rfl (pc0 := 135) (pc' := 139) rfl (hb hby at_135) (by decide) (by decide) ?_
      show Steps p.tables e below (T39.setTop (mkF m 139 #[.val (.int aa), .val (.int bb), .val (.int cc), .val (.int dd), .val (.int ee), .val (.int sl), .val (.ref ix), .val (.int (sl &&& (7 : Int32))), .val (.int rv), .unset] [(.int (1 : Int32))])) tgt
      refine XS.istore X39.here hx rfl (hb hby at_139) rfl (l' := #[.val (.int aa), .val (.int bb), .val (.int cc), .val (.int dd), .val (.int ee), .val (.int sl), .val (.ref ix), .val (.int (sl &&& (7 : Int32))), .val (.int rv), .val (.int (1 : Int32))]) rfl ?_
      show Steps p.tables e below (T39.setTop (mkF m 141 #[.val (.int aa), .val (.int bb), .val (.int cc), .val (.int dd), .val (.int ee), .val (.int sl), .val (.ref ix), .val (.int (sl &&& (7 : Int32))), .val (.int rv), .val (.int (1 : Int32))] [])) tgt
      refine XS.iload X39.here hx rfl (hb hby at_141) rfl ?_
      show Steps p.tables e below (T39.setTop (mkF m 143 #[.val (.int aa), .val (.int bb), .val (.int cc), .val (.int dd), .val (.int ee), .val (.int sl), .val (.ref ix), .val (.int (sl &&& (7 : Int32))), .val (.int rv), .val (.int (1 : Int32))] [(.int (1 : Int32))])) tgt
      refine XS.ifNo X39.here hx rfl (hb hby at_143) rfl ((if0 _ _).trans (feq (by decide : ¬ ((1 : Int32) = (0 : Int32)))).1) ?_
      show Steps p.tables e below (T39.setTop (mkF m 146 #[.val (.int aa), .val (.int bb), .val (.int cc), .val (.int dd), .val (.int ee), .val (.int sl), .val (.ref ix), .val (.int (sl &&& (7 : Int32))), .val (.int rv), .val (.int (1 : Int32))] [])) tgt
      refine XS.aload X39.here hx rfl (hb hby at_146) rfl rfl ?_
      show Steps p.tables e below (T39.setTop (mkF m 148 #[.val (.int aa), .val (.int bb), .val (.int cc), .val (.int dd), .val (.int ee), .val (.int sl), .val (.ref ix), .val (.int (sl &&& (7 : Int32))), .val (.int rv), .val (.int (1 : Int32))] [(.ref ix)])) tgt
      refine XS.iloadN X39.here hx rfl (hb hby at_148) rfl ?_
      exact k
    obtain ⟨tg1, hg1, pg1⟩ := own_find kq6 vq6 aa zz6 zX vX
    obtain ⟨cq40, kq40, q40a, q40b, q40c⟩ := isOf hZ K39 g36_0
    obtain ⟨v40, _, ⟨T40, L40, k40, n40⟩, -, Xc40, ⟨Lc40, hQ40, l40, y40, z40⟩, st40⟩ := X39.virtualBack hx (y := (⟨"com/example/sigpoint/sigpoint/IntIndex", "get", "(I)I"⟩ : MethodName)) (z := (⟨"com/example/sigpoint/sigpoint/IntIndex", "get", "(I)I"⟩ : MethodName)) hown (mvT hZ (hw _ (List.mem_of_getElem? (i := 35) rfl))) (mvT hZ (hw _ (List.mem_of_getElem? (i := 36) rfl))) (notFace_of_selects (args := #[]) (mvT hZ (hw _ (List.mem_of_getElem? (i := 38) rfl)))) (mvT hZ (hw _ (List.mem_of_getElem? (i := 38) rfl))) (mvT hZ (hw _ (List.mem_of_getElem? (i := 37) rfl))) (by decide) (backOf (W := 0) (rm7 l Z a0 hw [] ix aa ka_2 va_2 kq6 vq6 tg1 T36.heap n0 Zs36 g36_0 g36_1 g36_2 Ag_ka_2_37 Ag_va_2_38 hg1 pg1) hZ (hw _ (List.mem_of_getElem? (i := 39) rfl)) (hw _ (List.mem_of_getElem? (i := 2) rfl)) (by decide) (by decide)) q40a q40c (g := (mkF m 149 #[.val (.int aa), .val (.int bb), .val (.int cc), .val (.int dd), .val (.int ee), .val (.int sl), .val (.ref ix), .val (.int (sl &&& (7 : Int32))), .val (.int rv), .val (.int (1 : Int32))] [(.int aa), (.ref ix)])) rfl (by rw [hml]; rfl) (Steps.refl _) (argsL := [(.int aa)]) (rest := []) (lenOf pd_0_3 rfl) rfl (by show 2 * 0 + _ ≤ _; exact Nat.le_of_eq rfl) (hb hby at_149) (fun _ _ => ⟨rfl, K39, (by decide : 3 + 0 ≤ _), (by decide : 35 + 0 ≤ _)⟩)
    dsimp only [Pt.U, Pt.locs, Pt.cells, Pt.slots] at Xc40 l40 y40 z40 st40 hQ40
    have X40 := own_cast Xc40 l40 y40 z40
    obtain ⟨ev40, N40q, K40⟩ := hQ40
    rw [ev40] at st40
    have N40 := Fr.app N39 N40q
    refine own_st (fun tgt k => st40.trans k) ?_
    show own_Go p e below _ (T40.setTop (mkF m 152 #[.val (.int aa), .val (.int bb), .val (.int cc), .val (.int dd), .val (.int ee), .val (.int sl), .val (.ref ix), .val (.int (sl &&& (7 : Int32))), .val (.int rv), .val (.int (1 : Int32))] [(.int (if vq6 ((own_H aa + tg1) % 16) = 0 then (-1 : Int32) else (vq6 ((own_H aa + tg1) % 16)) - (1 : Int32)))]))
    refine own_st (V := T40.setTop (mkF m 160 #[.val (.int aa), .val (.int bb), .val (.int cc), .val (.int dd), .val (.int ee), .val (.int sl), .val (.ref ix), .val (.int (sl &&& (7 : Int32))), .val (.int rv), .val (.int (1 : Int32))] [(.int ee), (.int dd), (.int cc), (.int bb), (.int rv), (.int aa), (.int (if vq6 ((own_H aa + tg1) % 16) = 0 then (-1 : Int32) else (vq6 ((own_H aa + tg1) % 16)) - (1 : Int32)))])) (fun tgt k => ?_) ?_
    · show Steps p.tables e below (T40.setTop (mkF m 152 #[.val (.int aa), .val (.int bb), .val (.int cc), .val (.int dd), .val (.int ee), .val (.int sl), .val (.ref ix), .val (.int (sl &&& (7 : Int32))), .val (.int rv), .val (.int (1 : Int32))] [(.int (if vq6 ((own_H aa + tg1) % 16) = 0 then (-1 : Int32) else (vq6 ((own_H aa + tg1) % 16)) - (1 : Int32)))])) tgt
      refine XS.iloadN X40.here hx rfl (hb hby at_152) rfl ?_
      show Steps p.tables e below (T40.setTop (mkF m 153 #[.val (.int aa), .val (.int bb), .val (.int cc), .val (.int dd), .val (.int ee), .val (.int sl), .val (.ref ix), .val (.int (sl &&& (7 : Int32))), .val (.int rv), .val (.int (1 : Int32))] [(.int aa), (.int (if vq6 ((own_H aa + tg1) % 16) = 0 then (-1 : Int32) else (vq6 ((own_H aa + tg1) % 16)) - (1 : Int32)))])) tgt
      refine XS.iload X40.here hx rfl (hb hby at_153) rfl ?_
      show Steps p.tables e below (T40.setTop (mkF m 155 #[.val (.int aa), .val (.int bb), .val (.int cc), .val (.int dd), .val (.int ee), .val (.int sl), .val (.ref ix), .val (.int (sl &&& (7 : Int32))), .val (.int rv), .val (.int (1 : Int32))] [(.int rv), (.int aa), (.int (if vq6 ((own_H aa + tg1) % 16) = 0 then (-1 : Int32) else (vq6 ((own_H aa + tg1) % 16)) - (1 : Int32)))])) tgt
      refine XS.iloadN X40.here hx rfl (hb hby at_155) rfl ?_
      show Steps p.tables e below (T40.setTop (mkF m 156 #[.val (.int aa), .val (.int bb), .val (.int cc), .val (.int dd), .val (.int ee), .val (.int sl), .val (.ref ix), .val (.int (sl &&& (7 : Int32))), .val (.int rv), .val (.int (1 : Int32))] [(.int bb), (.int rv), (.int aa), (.int (if vq6 ((own_H aa + tg1) % 16) = 0 then (-1 : Int32) else (vq6 ((own_H aa + tg1) % 16)) - (1 : Int32)))])) tgt
      refine XS.iloadN X40.here hx rfl (hb hby at_156) rfl ?_
      show Steps p.tables e below (T40.setTop (mkF m 157 #[.val (.int aa), .val (.int bb), .val (.int cc), .val (.int dd), .val (.int ee), .val (.int sl), .val (.ref ix), .val (.int (sl &&& (7 : Int32))), .val (.int rv), .val (.int (1 : Int32))] [(.int cc), (.int bb), (.int rv), (.int aa), (.int (if vq6 ((own_H aa + tg1) % 16) = 0 then (-1 : Int32) else (vq6 ((own_H aa + tg1) % 16)) - (1 : Int32)))])) tgt
      refine XS.iloadN X40.here hx rfl (hb hby at_157) rfl ?_
      show Steps p.tables e below (T40.setTop (mkF m 158 #[.val (.int aa), .val (.int bb), .val (.int cc), .val (.int dd), .val (.int ee), .val (.int sl), .val (.ref ix), .val (.int (sl &&& (7 : Int32))), .val (.int rv), .val (.int (1 : Int32))] [(.int dd), (.int cc), (.int bb), (.int rv), (.int aa), (.int (if vq6 ((own_H aa + tg1) % 16) = 0 then (-1 : Int32) else (vq6 ((own_H aa + tg1) % 16)) - (1 : Int32)))])) tgt
      refine XS.iload X40.here hx rfl (hb hby at_158) rfl ?_
      exact k
    obtain ⟨v41, _, ⟨T41, L41, k41, n41⟩, -, Xc41, ⟨Lc41, hQ41, l41, y41, z41⟩, st41⟩ := Jvm.LawKit.callS X40 hx (y := (⟨"com/example/sigpoint/sigpoint/IntIndexRemovePinLaw", "expect", "(IIIIII)I"⟩ : MethodName)) hown (mvT hZ (hw _ (List.mem_of_getElem? (i := 40) rfl))) (mvT hZ (hw _ (List.mem_of_getElem? (i := 41) rfl))) (mvT hZ (hw _ (List.mem_of_getElem? (i := 42) rfl))) (mvT hZ (hw _ (List.mem_of_getElem? (i := 43) rfl))) (by decide) (backOf (W := 1) (rm8 l Z a0 hw [] aa rv bb cc dd ee T36.heap n0 Zs36 ) hZ (hw _ (List.mem_of_getElem? (i := 43) rfl)) (hw _ (List.mem_of_getElem? (i := 42) rfl)) (by decide) (by decide)) (g := (mkF m 160 #[.val (.int aa), .val (.int bb), .val (.int cc), .val (.int dd), .val (.int ee), .val (.int sl), .val (.ref ix), .val (.int (sl &&& (7 : Int32))), .val (.int rv), .val (.int (1 : Int32))] [(.int ee), (.int dd), (.int cc), (.int bb), (.int rv), (.int aa), (.int (if vq6 ((own_H aa + tg1) % 16) = 0 then (-1 : Int32) else (vq6 ((own_H aa + tg1) % 16)) - (1 : Int32)))])) rfl (by rw [hml]; rfl) (argsL := [(.int aa), (.int rv), (.int bb), (.int cc), (.int dd), (.int ee)]) (rest := [(.int (if vq6 ((own_H aa + tg1) % 16) = 0 then (-1 : Int32) else (vq6 ((own_H aa + tg1) % 16)) - (1 : Int32)))]) (lenOf pd_0_4 rfl) rfl (by show 2 * 0 + _ ≤ _; exact Nat.le_of_eq rfl) (hb hby at_160) (fun _ _ => ⟨rfl, K40, (by decide : 3 + 0 ≤ _), (by decide : 35 + 0 ≤ _)⟩)
    dsimp only [Pt.U, Pt.locs, Pt.cells, Pt.slots] at Xc41 l41 y41 z41 st41 hQ41
    have X41 := own_cast Xc41 l41 y41 z41
    obtain ⟨ev41, N41q, K41⟩ := hQ41
    rw [ev41] at st41
    have N41 := Fr.app N40 N41q
    refine own_st st41 ?_
    show own_Go p e below _ (T41.setTop (mkF m 163 #[.val (.int aa), .val (.int bb), .val (.int cc), .val (.int dd), .val (.int ee), .val (.int sl), .val (.ref ix), .val (.int (sl &&& (7 : Int32))), .val (.int rv), .val (.int (1 : Int32))] [(.int (own_xp aa rv bb cc dd ee)), (.int (if vq6 ((own_H aa + tg1) % 16) = 0 then (-1 : Int32) else (vq6 ((own_H aa + tg1) % 16)) - (1 : Int32)))]))
    refine own_st (V := T41.setTop (mkF m 181 #[.val (.int aa), .val (.int bb), .val (.int cc), .val (.int dd), .val (.int ee), .val (.int sl), .val (.ref ix), .val (.int (sl &&& (7 : Int32))), .val (.int rv), .val (.int (1 : Int32))] [(.int bb), (.ref ix)])) (fun tgt k => ?_) ?_
    · show Steps p.tables e below (T41.setTop (mkF m 163 #[.val (.int aa), .val (.int bb), .val (.int cc), .val (.int dd), .val (.int ee), .val (.int sl), .val (.ref ix), .val (.int (sl &&& (7 : Int32))), .val (.int rv), .val (.int (1 : Int32))] [(.int (own_xp aa rv bb cc dd ee)), (.int (if vq6 ((own_H aa + tg1) % 16) = 0 then (-1 : Int32) else (vq6 ((own_H aa + tg1) % 16)) - (1 : Int32)))])) tgt
      refine XS.icmpNo X41.here hx rfl (hb hby at_163) rfl (teq (own_look_fun IX (own_look_pr IX hg1 pg1) (LX aa (Or.inl (Or.inl (Or.inl (Or.inl rfl))))))).2 ?_
      show Steps p.tables e below (T41.setTop (mkF m 166 #[.val (.int aa), .val (.int bb), .val (.int cc), .val (.int dd), .val (.int ee), .val (.int sl), .val (.ref ix), .val (.int (sl &&& (7 : Int32))), .val (.int rv), .val (.int (1 : Int32))] [])) tgt
      refine XS.iconst X41.here hx rfl (hb hby at_166) ?_
      show Steps p.tables e below (T41.setTop (mkF m 167 #[.val (.int aa), .val (.int bb), .val (.int cc), .val (.int dd), .val (.int ee), .val (.int sl), .val (.ref ix), .val (.int (sl &&& (7 : Int32))), .val (.int rv), .val (.int (1 : Int32))] [(.int (1 : Int32))])) tgt
      refine XS.goto X41.here hx rfl (pc0 := 167) (pc' := 171) rfl (hb hby at_167) (by decide) (by decide) ?_
      show Steps p.tables e below (T41.setTop (mkF m 171 #[.val (.int aa), .val (.int bb), .val (.int cc), .val (.int dd), .val (.int ee), .val (.int sl), .val (.ref ix), .val (.int (sl &&& (7 : Int32))), .val (.int rv), .val (.int (1 : Int32))] [(.int (1 : Int32))])) tgt
      refine XS.istore X41.here hx rfl (hb hby at_171) rfl (l' := #[.val (.int aa), .val (.int bb), .val (.int cc), .val (.int dd), .val (.int ee), .val (.int sl), .val (.ref ix), .val (.int (sl &&& (7 : Int32))), .val (.int rv), .val (.int (1 : Int32))]) rfl ?_
      show Steps p.tables e below (T41.setTop (mkF m 173 #[.val (.int aa), .val (.int bb), .val (.int cc), .val (.int dd), .val (.int ee), .val (.int sl), .val (.ref ix), .val (.int (sl &&& (7 : Int32))), .val (.int rv), .val (.int (1 : Int32))] [])) tgt
      refine XS.iload X41.here hx rfl (hb hby at_173) rfl ?_
      show Steps p.tables e below (T41.setTop (mkF m 175 #[.val (.int aa), .val (.int bb), .val (.int cc), .val (.int dd), .val (.int ee), .val (.int sl), .val (.ref ix), .val (.int (sl &&& (7 : Int32))), .val (.int rv), .val (.int (1 : Int32))] [(.int (1 : Int32))])) tgt
      refine XS.ifNo X41.here hx rfl (hb hby at_175) rfl ((if0 _ _).trans (feq (by decide : ¬ ((1 : Int32) = (0 : Int32)))).1) ?_
      show Steps p.tables e below (T41.setTop (mkF m 178 #[.val (.int aa), .val (.int bb), .val (.int cc), .val (.int dd), .val (.int ee), .val (.int sl), .val (.ref ix), .val (.int (sl &&& (7 : Int32))), .val (.int rv), .val (.int (1 : Int32))] [])) tgt
      refine XS.aload X41.here hx rfl (hb hby at_178) rfl rfl ?_
      show Steps p.tables e below (T41.setTop (mkF m 180 #[.val (.int aa), .val (.int bb), .val (.int cc), .val (.int dd), .val (.int ee), .val (.int sl), .val (.ref ix), .val (.int (sl &&& (7 : Int32))), .val (.int rv), .val (.int (1 : Int32))] [(.ref ix)])) tgt
      refine XS.iloadN X41.here hx rfl (hb hby at_180) rfl ?_
      exact k
    obtain ⟨tg2, hg2, pg2⟩ := own_find kq6 vq6 bb zz6 zX vX
    obtain ⟨cq42, kq42, q42a, q42b, q42c⟩ := isOf hZ K41 g36_0
    obtain ⟨v42, _, ⟨T42, L42, k42, n42⟩, -, Xc42, ⟨Lc42, hQ42, l42, y42, z42⟩, st42⟩ := X41.virtualBack hx (y := (⟨"com/example/sigpoint/sigpoint/IntIndex", "get", "(I)I"⟩ : MethodName)) (z := (⟨"com/example/sigpoint/sigpoint/IntIndex", "get", "(I)I"⟩ : MethodName)) hown (mvT hZ (hw _ (List.mem_of_getElem? (i := 35) rfl))) (mvT hZ (hw _ (List.mem_of_getElem? (i := 36) rfl))) (notFace_of_selects (args := #[]) (mvT hZ (hw _ (List.mem_of_getElem? (i := 38) rfl)))) (mvT hZ (hw _ (List.mem_of_getElem? (i := 38) rfl))) (mvT hZ (hw _ (List.mem_of_getElem? (i := 37) rfl))) (by decide) (backOf (W := 0) (rm7 l Z a0 hw [] ix bb ka_2 va_2 kq6 vq6 tg2 T36.heap n0 Zs36 g36_0 g36_1 g36_2 Ag_ka_2_37 Ag_va_2_38 hg2 pg2) hZ (hw _ (List.mem_of_getElem? (i := 39) rfl)) (hw _ (List.mem_of_getElem? (i := 2) rfl)) (by decide) (by decide)) q42a q42c (g := (mkF m 181 #[.val (.int aa), .val (.int bb), .val (.int cc), .val (.int dd), .val (.int ee), .val (.int sl), .val (.ref ix), .val (.int (sl &&& (7 : Int32))), .val (.int rv), .val (.int (1 : Int32))] [(.int bb), (.ref ix)])) rfl (by rw [hml]; rfl) (Steps.refl _) (argsL := [(.int bb)]) (rest := []) (lenOf pd_0_3 rfl) rfl (by show 2 * 0 + _ ≤ _; exact Nat.le_of_eq rfl) (hb hby at_181) (fun _ _ => ⟨rfl, K41, (by decide : 3 + 0 ≤ _), (by decide : 35 + 0 ≤ _)⟩)
    dsimp only [Pt.U, Pt.locs, Pt.cells, Pt.slots] at Xc42 l42 y42 z42 st42 hQ42
    have X42 := own_cast Xc42 l42 y42 z42
    obtain ⟨ev42, N42q, K42⟩ := hQ42
    rw [ev42] at st42
    have N42 := Fr.app N41 N42q
    refine own_st (fun tgt k => st42.trans k) ?_
    show own_Go p e below _ (T42.setTop (mkF m 184 #[.val (.int aa), .val (.int bb), .val (.int cc), .val (.int dd), .val (.int ee), .val (.int sl), .val (.ref ix), .val (.int (sl &&& (7 : Int32))), .val (.int rv), .val (.int (1 : Int32))] [(.int (if vq6 ((own_H bb + tg2) % 16) = 0 then (-1 : Int32) else (vq6 ((own_H bb + tg2) % 16)) - (1 : Int32)))]))
    refine own_st (V := T42.setTop (mkF m 192 #[.val (.int aa), .val (.int bb), .val (.int cc), .val (.int dd), .val (.int ee), .val (.int sl), .val (.ref ix), .val (.int (sl &&& (7 : Int32))), .val (.int rv), .val (.int (1 : Int32))] [(.int ee), (.int dd), (.int cc), (.int bb), (.int rv), (.int bb), (.int (if vq6 ((own_H bb + tg2) % 16) = 0 then (-1 : Int32) else (vq6 ((own_H bb + tg2) % 16)) - (1 : Int32)))])) (fun tgt k => ?_) ?_
    · show Steps p.tables e below (T42.setTop (mkF m 184 #[.val (.int aa), .val (.int bb), .val (.int cc), .val (.int dd), .val (.int ee), .val (.int sl), .val (.ref ix), .val (.int (sl &&& (7 : Int32))), .val (.int rv), .val (.int (1 : Int32))] [(.int (if vq6 ((own_H bb + tg2) % 16) = 0 then (-1 : Int32) else (vq6 ((own_H bb + tg2) % 16)) - (1 : Int32)))])) tgt
      refine XS.iloadN X42.here hx rfl (hb hby at_184) rfl ?_
      show Steps p.tables e below (T42.setTop (mkF m 185 #[.val (.int aa), .val (.int bb), .val (.int cc), .val (.int dd), .val (.int ee), .val (.int sl), .val (.ref ix), .val (.int (sl &&& (7 : Int32))), .val (.int rv), .val (.int (1 : Int32))] [(.int bb), (.int (if vq6 ((own_H bb + tg2) % 16) = 0 then (-1 : Int32) else (vq6 ((own_H bb + tg2) % 16)) - (1 : Int32)))])) tgt
      refine XS.iload X42.here hx rfl (hb hby at_185) rfl ?_
      show Steps p.tables e below (T42.setTop (mkF m 187 #[.val (.int aa), .val (.int bb), .val (.int cc), .val (.int dd), .val (.int ee), .val (.int sl), .val (.ref ix), .val (.int (sl &&& (7 : Int32))), .val (.int rv), .val (.int (1 : Int32))] [(.int rv), (.int bb), (.int (if vq6 ((own_H bb + tg2) % 16) = 0 then (-1 : Int32) else (vq6 ((own_H bb + tg2) % 16)) - (1 : Int32)))])) tgt
      refine XS.iloadN X42.here hx rfl (hb hby at_187) rfl ?_
      show Steps p.tables e below (T42.setTop (mkF m 188 #[.val (.int aa), .val (.int bb), .val (.int cc), .val (.int dd), .val (.int ee), .val (.int sl), .val (.ref ix), .val (.int (sl &&& (7 : Int32))), .val (.int rv), .val (.int (1 : Int32))] [(.int bb), (.int rv), (.int bb), (.int (if vq6 ((own_H bb + tg2) % 16) = 0 then (-1 : Int32) else (vq6 ((own_H bb + tg2) % 16)) - (1 : Int32)))])) tgt
      refine XS.iloadN X42.here hx rfl (hb hby at_188) rfl ?_
      show Steps p.tables e below (T42.setTop (mkF m 189 #[.val (.int aa), .val (.int bb), .val (.int cc), .val (.int dd), .val (.int ee), .val (.int sl), .val (.ref ix), .val (.int (sl &&& (7 : Int32))), .val (.int rv), .val (.int (1 : Int32))] [(.int cc), (.int bb), (.int rv), (.int bb), (.int (if vq6 ((own_H bb + tg2) % 16) = 0 then (-1 : Int32) else (vq6 ((own_H bb + tg2) % 16)) - (1 : Int32)))])) tgt
      refine XS.iloadN X42.here hx rfl (hb hby at_189) rfl ?_
      show Steps p.tables e below (T42.setTop (mkF m 190 #[.val (.int aa), .val (.int bb), .val (.int cc), .val (.int dd), .val (.int ee), .val (.int sl), .val (.ref ix), .val (.int (sl &&& (7 : Int32))), .val (.int rv), .val (.int (1 : Int32))] [(.int dd), (.int cc), (.int bb), (.int rv), (.int bb), (.int (if vq6 ((own_H bb + tg2) % 16) = 0 then (-1 : Int32) else (vq6 ((own_H bb + tg2) % 16)) - (1 : Int32)))])) tgt
      refine XS.iload X42.here hx rfl (hb hby at_190) rfl ?_
      exact k
    obtain ⟨v43, _, ⟨T43, L43, k43, n43⟩, -, Xc43, ⟨Lc43, hQ43, l43, y43, z43⟩, st43⟩ := Jvm.LawKit.callS X42 hx (y := (⟨"com/example/sigpoint/sigpoint/IntIndexRemovePinLaw", "expect", "(IIIIII)I"⟩ : MethodName)) hown (mvT hZ (hw _ (List.mem_of_getElem? (i := 40) rfl))) (mvT hZ (hw _ (List.mem_of_getElem? (i := 41) rfl))) (mvT hZ (hw _ (List.mem_of_getElem? (i := 42) rfl))) (mvT hZ (hw _ (List.mem_of_getElem? (i := 43) rfl))) (by decide) (backOf (W := 1) (rm8 l Z a0 hw [] bb rv bb cc dd ee T36.heap n0 Zs36 ) hZ (hw _ (List.mem_of_getElem? (i := 43) rfl)) (hw _ (List.mem_of_getElem? (i := 42) rfl)) (by decide) (by decide)) (g := (mkF m 192 #[.val (.int aa), .val (.int bb), .val (.int cc), .val (.int dd), .val (.int ee), .val (.int sl), .val (.ref ix), .val (.int (sl &&& (7 : Int32))), .val (.int rv), .val (.int (1 : Int32))] [(.int ee), (.int dd), (.int cc), (.int bb), (.int rv), (.int bb), (.int (if vq6 ((own_H bb + tg2) % 16) = 0 then (-1 : Int32) else (vq6 ((own_H bb + tg2) % 16)) - (1 : Int32)))])) rfl (by rw [hml]; rfl) (argsL := [(.int bb), (.int rv), (.int bb), (.int cc), (.int dd), (.int ee)]) (rest := [(.int (if vq6 ((own_H bb + tg2) % 16) = 0 then (-1 : Int32) else (vq6 ((own_H bb + tg2) % 16)) - (1 : Int32)))]) (lenOf pd_0_4 rfl) rfl (by show 2 * 0 + _ ≤ _; exact Nat.le_of_eq rfl) (hb hby at_192) (fun _ _ => ⟨rfl, K42, (by decide : 3 + 0 ≤ _), (by decide : 35 + 0 ≤ _)⟩)
    dsimp only [Pt.U, Pt.locs, Pt.cells, Pt.slots] at Xc43 l43 y43 z43 st43 hQ43
    have X43 := own_cast Xc43 l43 y43 z43
    obtain ⟨ev43, N43q, K43⟩ := hQ43
    rw [ev43] at st43
    have N43 := Fr.app N42 N43q
    refine own_st st43 ?_
    show own_Go p e below _ (T43.setTop (mkF m 195 #[.val (.int aa), .val (.int bb), .val (.int cc), .val (.int dd), .val (.int ee), .val (.int sl), .val (.ref ix), .val (.int (sl &&& (7 : Int32))), .val (.int rv), .val (.int (1 : Int32))] [(.int (own_xp bb rv bb cc dd ee)), (.int (if vq6 ((own_H bb + tg2) % 16) = 0 then (-1 : Int32) else (vq6 ((own_H bb + tg2) % 16)) - (1 : Int32)))]))
    refine own_st (V := T43.setTop (mkF m 213 #[.val (.int aa), .val (.int bb), .val (.int cc), .val (.int dd), .val (.int ee), .val (.int sl), .val (.ref ix), .val (.int (sl &&& (7 : Int32))), .val (.int rv), .val (.int (1 : Int32))] [(.int cc), (.ref ix)])) (fun tgt k => ?_) ?_
    · show Steps p.tables e below (T43.setTop (mkF m 195 #[.val (.int aa), .val (.int bb), .val (.int cc), .val (.int dd), .val (.int ee), .val (.int sl), .val (.ref ix), .val (.int (sl &&& (7 : Int32))), .val (.int rv), .val (.int (1 : Int32))] [(.int (own_xp bb rv bb cc dd ee)), (.int (if vq6 ((own_H bb + tg2) % 16) = 0 then (-1 : Int32) else (vq6 ((own_H bb + tg2) % 16)) - (1 : Int32)))])) tgt
      refine XS.icmpNo X43.here hx rfl (hb hby at_195) rfl (teq (own_look_fun IX (own_look_pr IX hg2 pg2) (LX bb (Or.inl (Or.inl (Or.inl (Or.inr rfl))))))).2 ?_
      show Steps p.tables e below (T43.setTop (mkF m 198 #[.val (.int aa), .val (.int bb), .val (.int cc), .val (.int dd), .val (.int ee), .val (.int sl), .val (.ref ix), .val (.int (sl &&& (7 : Int32))), .val (.int rv), .val (.int (1 : Int32))] [])) tgt
      refine XS.iconst X43.here hx rfl (hb hby at_198) ?_
      show Steps p.tables e below (T43.setTop (mkF m 199 #[.val (.int aa), .val (.int bb), .val (.int cc), .val (.int dd), .val (.int ee), .val (.int sl), .val (.ref ix), .val (.int (sl &&& (7 : Int32))), .val (.int rv), .val (.int (1 : Int32))] [(.int (1 : Int32))])) tgt
      refine XS.goto X43.here hx rfl (pc0 := 199) (pc' := 203) rfl (hb hby at_199) (by decide) (by decide) ?_
      show Steps p.tables e below (T43.setTop (mkF m 203 #[.val (.int aa), .val (.int bb), .val (.int cc), .val (.int dd), .val (.int ee), .val (.int sl), .val (.ref ix), .val (.int (sl &&& (7 : Int32))), .val (.int rv), .val (.int (1 : Int32))] [(.int (1 : Int32))])) tgt
      refine XS.istore X43.here hx rfl (hb hby at_203) rfl (l' := #[.val (.int aa), .val (.int bb), .val (.int cc), .val (.int dd), .val (.int ee), .val (.int sl), .val (.ref ix), .val (.int (sl &&& (7 : Int32))), .val (.int rv), .val (.int (1 : Int32))]) rfl ?_
      show Steps p.tables e below (T43.setTop (mkF m 205 #[.val (.int aa), .val (.int bb), .val (.int cc), .val (.int dd), .val (.int ee), .val (.int sl), .val (.ref ix), .val (.int (sl &&& (7 : Int32))), .val (.int rv), .val (.int (1 : Int32))] [])) tgt
      refine XS.iload X43.here hx rfl (hb hby at_205) rfl ?_
      show Steps p.tables e below (T43.setTop (mkF m 207 #[.val (.int aa), .val (.int bb), .val (.int cc), .val (.int dd), .val (.int ee), .val (.int sl), .val (.ref ix), .val (.int (sl &&& (7 : Int32))), .val (.int rv), .val (.int (1 : Int32))] [(.int (1 : Int32))])) tgt
      refine XS.ifNo X43.here hx rfl (hb hby at_207) rfl ((if0 _ _).trans (feq (by decide : ¬ ((1 : Int32) = (0 : Int32)))).1) ?_
      show Steps p.tables e below (T43.setTop (mkF m 210 #[.val (.int aa), .val (.int bb), .val (.int cc), .val (.int dd), .val (.int ee), .val (.int sl), .val (.ref ix), .val (.int (sl &&& (7 : Int32))), .val (.int rv), .val (.int (1 : Int32))] [])) tgt
      refine XS.aload X43.here hx rfl (hb hby at_210) rfl rfl ?_
      show Steps p.tables e below (T43.setTop (mkF m 212 #[.val (.int aa), .val (.int bb), .val (.int cc), .val (.int dd), .val (.int ee), .val (.int sl), .val (.ref ix), .val (.int (sl &&& (7 : Int32))), .val (.int rv), .val (.int (1 : Int32))] [(.ref ix)])) tgt
      refine XS.iloadN X43.here hx rfl (hb hby at_212) rfl ?_
      exact k
    obtain ⟨tg3, hg3, pg3⟩ := own_find kq6 vq6 cc zz6 zX vX
    obtain ⟨cq44, kq44, q44a, q44b, q44c⟩ := isOf hZ K43 g36_0
    obtain ⟨v44, _, ⟨T44, L44, k44, n44⟩, -, Xc44, ⟨Lc44, hQ44, l44, y44, z44⟩, st44⟩ := X43.virtualBack hx (y := (⟨"com/example/sigpoint/sigpoint/IntIndex", "get", "(I)I"⟩ : MethodName)) (z := (⟨"com/example/sigpoint/sigpoint/IntIndex", "get", "(I)I"⟩ : MethodName)) hown (mvT hZ (hw _ (List.mem_of_getElem? (i := 35) rfl))) (mvT hZ (hw _ (List.mem_of_getElem? (i := 36) rfl))) (notFace_of_selects (args := #[]) (mvT hZ (hw _ (List.mem_of_getElem? (i := 38) rfl)))) (mvT hZ (hw _ (List.mem_of_getElem? (i := 38) rfl))) (mvT hZ (hw _ (List.mem_of_getElem? (i := 37) rfl))) (by decide) (backOf (W := 0) (rm7 l Z a0 hw [] ix cc ka_2 va_2 kq6 vq6 tg3 T36.heap n0 Zs36 g36_0 g36_1 g36_2 Ag_ka_2_37 Ag_va_2_38 hg3 pg3) hZ (hw _ (List.mem_of_getElem? (i := 39) rfl)) (hw _ (List.mem_of_getElem? (i := 2) rfl)) (by decide) (by decide)) q44a q44c (g := (mkF m 213 #[.val (.int aa), .val (.int bb), .val (.int cc), .val (.int dd), .val (.int ee), .val (.int sl), .val (.ref ix), .val (.int (sl &&& (7 : Int32))), .val (.int rv), .val (.int (1 : Int32))] [(.int cc), (.ref ix)])) rfl (by rw [hml]; rfl) (Steps.refl _) (argsL := [(.int cc)]) (rest := []) (lenOf pd_0_3 rfl) rfl (by show 2 * 0 + _ ≤ _; exact Nat.le_of_eq rfl) (hb hby at_213) (fun _ _ => ⟨rfl, K43, (by decide : 3 + 0 ≤ _), (by decide : 35 + 0 ≤ _)⟩)
    dsimp only [Pt.U, Pt.locs, Pt.cells, Pt.slots] at Xc44 l44 y44 z44 st44 hQ44
    have X44 := own_cast Xc44 l44 y44 z44
    obtain ⟨ev44, N44q, K44⟩ := hQ44
    rw [ev44] at st44
    have N44 := Fr.app N43 N44q
    refine own_st (fun tgt k => st44.trans k) ?_
    show own_Go p e below _ (T44.setTop (mkF m 216 #[.val (.int aa), .val (.int bb), .val (.int cc), .val (.int dd), .val (.int ee), .val (.int sl), .val (.ref ix), .val (.int (sl &&& (7 : Int32))), .val (.int rv), .val (.int (1 : Int32))] [(.int (if vq6 ((own_H cc + tg3) % 16) = 0 then (-1 : Int32) else (vq6 ((own_H cc + tg3) % 16)) - (1 : Int32)))]))
    refine own_st (V := T44.setTop (mkF m 224 #[.val (.int aa), .val (.int bb), .val (.int cc), .val (.int dd), .val (.int ee), .val (.int sl), .val (.ref ix), .val (.int (sl &&& (7 : Int32))), .val (.int rv), .val (.int (1 : Int32))] [(.int ee), (.int dd), (.int cc), (.int bb), (.int rv), (.int cc), (.int (if vq6 ((own_H cc + tg3) % 16) = 0 then (-1 : Int32) else (vq6 ((own_H cc + tg3) % 16)) - (1 : Int32)))])) (fun tgt k => ?_) ?_
    · show Steps p.tables e below (T44.setTop (mkF m 216 #[.val (.int aa), .val (.int bb), .val (.int cc), .val (.int dd), .val (.int ee), .val (.int sl), .val (.ref ix), .val (.int (sl &&& (7 : Int32))), .val (.int rv), .val (.int (1 : Int32))] [(.int (if vq6 ((own_H cc + tg3) % 16) = 0 then (-1 : Int32) else (vq6 ((own_H cc + tg3) % 16)) - (1 : Int32)))])) tgt
      refine XS.iloadN X44.here hx rfl (hb hby at_216) rfl ?_
      show Steps p.tables e below (T44.setTop (mkF m 217 #[.val (.int aa), .val (.int bb), .val (.int cc), .val (.int dd), .val (.int ee), .val (.int sl), .val (.ref ix), .val (.int (sl &&& (7 : Int32))), .val (.int rv), .val (.int (1 : Int32))] [(.int cc), (.int (if vq6 ((own_H cc + tg3) % 16) = 0 then (-1 : Int32) else (vq6 ((own_H cc + tg3) % 16)) - (1 : Int32)))])) tgt
      refine XS.iload X44.here hx rfl (hb hby at_217) rfl ?_
      show Steps p.tables e below (T44.setTop (mkF m 219 #[.val (.int aa), .val (.int bb), .val (.int cc), .val (.int dd), .val (.int ee), .val (.int sl), .val (.ref ix), .val (.int (sl &&& (7 : Int32))), .val (.int rv), .val (.int (1 : Int32))] [(.int rv), (.int cc), (.int (if vq6 ((own_H cc + tg3) % 16) = 0 then (-1 : Int32) else (vq6 ((own_H cc + tg3) % 16)) - (1 : Int32)))])) tgt
      refine XS.iloadN X44.here hx rfl (hb hby at_219) rfl ?_
      show Steps p.tables e below (T44.setTop (mkF m 220 #[.val (.int aa), .val (.int bb), .val (.int cc), .val (.int dd), .val (.int ee), .val (.int sl), .val (.ref ix), .val (.int (sl &&& (7 : Int32))), .val (.int rv), .val (.int (1 : Int32))] [(.int bb), (.int rv), (.int cc), (.int (if vq6 ((own_H cc + tg3) % 16) = 0 then (-1 : Int32) else (vq6 ((own_H cc + tg3) % 16)) - (1 : Int32)))])) tgt
      refine XS.iloadN X44.here hx rfl (hb hby at_220) rfl ?_
      show Steps p.tables e below (T44.setTop (mkF m 221 #[.val (.int aa), .val (.int bb), .val (.int cc), .val (.int dd), .val (.int ee), .val (.int sl), .val (.ref ix), .val (.int (sl &&& (7 : Int32))), .val (.int rv), .val (.int (1 : Int32))] [(.int cc), (.int bb), (.int rv), (.int cc), (.int (if vq6 ((own_H cc + tg3) % 16) = 0 then (-1 : Int32) else (vq6 ((own_H cc + tg3) % 16)) - (1 : Int32)))])) tgt
      refine XS.iloadN X44.here hx rfl (hb hby at_221) rfl ?_
      show Steps p.tables e below (T44.setTop (mkF m 222 #[.val (.int aa), .val (.int bb), .val (.int cc), .val (.int dd), .val (.int ee), .val (.int sl), .val (.ref ix), .val (.int (sl &&& (7 : Int32))), .val (.int rv), .val (.int (1 : Int32))] [(.int dd), (.int cc), (.int bb), (.int rv), (.int cc), (.int (if vq6 ((own_H cc + tg3) % 16) = 0 then (-1 : Int32) else (vq6 ((own_H cc + tg3) % 16)) - (1 : Int32)))])) tgt
      refine XS.iload X44.here hx rfl (hb hby at_222) rfl ?_
      exact k
    obtain ⟨v45, _, ⟨T45, L45, k45, n45⟩, -, Xc45, ⟨Lc45, hQ45, l45, y45, z45⟩, st45⟩ := Jvm.LawKit.callS X44 hx (y := (⟨"com/example/sigpoint/sigpoint/IntIndexRemovePinLaw", "expect", "(IIIIII)I"⟩ : MethodName)) hown (mvT hZ (hw _ (List.mem_of_getElem? (i := 40) rfl))) (mvT hZ (hw _ (List.mem_of_getElem? (i := 41) rfl))) (mvT hZ (hw _ (List.mem_of_getElem? (i := 42) rfl))) (mvT hZ (hw _ (List.mem_of_getElem? (i := 43) rfl))) (by decide) (backOf (W := 1) (rm8 l Z a0 hw [] cc rv bb cc dd ee T36.heap n0 Zs36 ) hZ (hw _ (List.mem_of_getElem? (i := 43) rfl)) (hw _ (List.mem_of_getElem? (i := 42) rfl)) (by decide) (by decide)) (g := (mkF m 224 #[.val (.int aa), .val (.int bb), .val (.int cc), .val (.int dd), .val (.int ee), .val (.int sl), .val (.ref ix), .val (.int (sl &&& (7 : Int32))), .val (.int rv), .val (.int (1 : Int32))] [(.int ee), (.int dd), (.int cc), (.int bb), (.int rv), (.int cc), (.int (if vq6 ((own_H cc + tg3) % 16) = 0 then (-1 : Int32) else (vq6 ((own_H cc + tg3) % 16)) - (1 : Int32)))])) rfl (by rw [hml]; rfl) (argsL := [(.int cc), (.int rv), (.int bb), (.int cc), (.int dd), (.int ee)]) (rest := [(.int (if vq6 ((own_H cc + tg3) % 16) = 0 then (-1 : Int32) else (vq6 ((own_H cc + tg3) % 16)) - (1 : Int32)))]) (lenOf pd_0_4 rfl) rfl (by show 2 * 0 + _ ≤ _; exact Nat.le_of_eq rfl) (hb hby at_224) (fun _ _ => ⟨rfl, K44, (by decide : 3 + 0 ≤ _), (by decide : 35 + 0 ≤ _)⟩)
    dsimp only [Pt.U, Pt.locs, Pt.cells, Pt.slots] at Xc45 l45 y45 z45 st45 hQ45
    have X45 := own_cast Xc45 l45 y45 z45
    obtain ⟨ev45, N45q, K45⟩ := hQ45
    rw [ev45] at st45
    have N45 := Fr.app N44 N45q
    refine own_st st45 ?_
    show own_Go p e below _ (T45.setTop (mkF m 227 #[.val (.int aa), .val (.int bb), .val (.int cc), .val (.int dd), .val (.int ee), .val (.int sl), .val (.ref ix), .val (.int (sl &&& (7 : Int32))), .val (.int rv), .val (.int (1 : Int32))] [(.int (own_xp cc rv bb cc dd ee)), (.int (if vq6 ((own_H cc + tg3) % 16) = 0 then (-1 : Int32) else (vq6 ((own_H cc + tg3) % 16)) - (1 : Int32)))]))
    refine own_st (V := T45.setTop (mkF m 245 #[.val (.int aa), .val (.int bb), .val (.int cc), .val (.int dd), .val (.int ee), .val (.int sl), .val (.ref ix), .val (.int (sl &&& (7 : Int32))), .val (.int rv), .val (.int (1 : Int32))] [(.int dd), (.ref ix)])) (fun tgt k => ?_) ?_
    · show Steps p.tables e below (T45.setTop (mkF m 227 #[.val (.int aa), .val (.int bb), .val (.int cc), .val (.int dd), .val (.int ee), .val (.int sl), .val (.ref ix), .val (.int (sl &&& (7 : Int32))), .val (.int rv), .val (.int (1 : Int32))] [(.int (own_xp cc rv bb cc dd ee)), (.int (if vq6 ((own_H cc + tg3) % 16) = 0 then (-1 : Int32) else (vq6 ((own_H cc + tg3) % 16)) - (1 : Int32)))])) tgt
      refine XS.icmpNo X45.here hx rfl (hb hby at_227) rfl (teq (own_look_fun IX (own_look_pr IX hg3 pg3) (LX cc (Or.inl (Or.inl (Or.inr rfl)))))).2 ?_
      show Steps p.tables e below (T45.setTop (mkF m 230 #[.val (.int aa), .val (.int bb), .val (.int cc), .val (.int dd), .val (.int ee), .val (.int sl), .val (.ref ix), .val (.int (sl &&& (7 : Int32))), .val (.int rv), .val (.int (1 : Int32))] [])) tgt
      refine XS.iconst X45.here hx rfl (hb hby at_230) ?_
      show Steps p.tables e below (T45.setTop (mkF m 231 #[.val (.int aa), .val (.int bb), .val (.int cc), .val (.int dd), .val (.int ee), .val (.int sl), .val (.ref ix), .val (.int (sl &&& (7 : Int32))), .val (.int rv), .val (.int (1 : Int32))] [(.int (1 : Int32))])) tgt
      refine XS.goto X45.here hx rfl (pc0 := 231) (pc' := 235) rfl (hb hby at_231) (by decide) (by decide) ?_
      show Steps p.tables e below (T45.setTop (mkF m 235 #[.val (.int aa), .val (.int bb), .val (.int cc), .val (.int dd), .val (.int ee), .val (.int sl), .val (.ref ix), .val (.int (sl &&& (7 : Int32))), .val (.int rv), .val (.int (1 : Int32))] [(.int (1 : Int32))])) tgt
      refine XS.istore X45.here hx rfl (hb hby at_235) rfl (l' := #[.val (.int aa), .val (.int bb), .val (.int cc), .val (.int dd), .val (.int ee), .val (.int sl), .val (.ref ix), .val (.int (sl &&& (7 : Int32))), .val (.int rv), .val (.int (1 : Int32))]) rfl ?_
      show Steps p.tables e below (T45.setTop (mkF m 237 #[.val (.int aa), .val (.int bb), .val (.int cc), .val (.int dd), .val (.int ee), .val (.int sl), .val (.ref ix), .val (.int (sl &&& (7 : Int32))), .val (.int rv), .val (.int (1 : Int32))] [])) tgt
      refine XS.iload X45.here hx rfl (hb hby at_237) rfl ?_
      show Steps p.tables e below (T45.setTop (mkF m 239 #[.val (.int aa), .val (.int bb), .val (.int cc), .val (.int dd), .val (.int ee), .val (.int sl), .val (.ref ix), .val (.int (sl &&& (7 : Int32))), .val (.int rv), .val (.int (1 : Int32))] [(.int (1 : Int32))])) tgt
      refine XS.ifNo X45.here hx rfl (hb hby at_239) rfl ((if0 _ _).trans (feq (by decide : ¬ ((1 : Int32) = (0 : Int32)))).1) ?_
      show Steps p.tables e below (T45.setTop (mkF m 242 #[.val (.int aa), .val (.int bb), .val (.int cc), .val (.int dd), .val (.int ee), .val (.int sl), .val (.ref ix), .val (.int (sl &&& (7 : Int32))), .val (.int rv), .val (.int (1 : Int32))] [])) tgt
      refine XS.aload X45.here hx rfl (hb hby at_242) rfl rfl ?_
      show Steps p.tables e below (T45.setTop (mkF m 244 #[.val (.int aa), .val (.int bb), .val (.int cc), .val (.int dd), .val (.int ee), .val (.int sl), .val (.ref ix), .val (.int (sl &&& (7 : Int32))), .val (.int rv), .val (.int (1 : Int32))] [(.ref ix)])) tgt
      refine XS.iloadN X45.here hx rfl (hb hby at_244) rfl ?_
      exact k
    obtain ⟨tg4, hg4, pg4⟩ := own_find kq6 vq6 dd zz6 zX vX
    obtain ⟨cq46, kq46, q46a, q46b, q46c⟩ := isOf hZ K45 g36_0
    obtain ⟨v46, _, ⟨T46, L46, k46, n46⟩, -, Xc46, ⟨Lc46, hQ46, l46, y46, z46⟩, st46⟩ := X45.virtualBack hx (y := (⟨"com/example/sigpoint/sigpoint/IntIndex", "get", "(I)I"⟩ : MethodName)) (z := (⟨"com/example/sigpoint/sigpoint/IntIndex", "get", "(I)I"⟩ : MethodName)) hown (mvT hZ (hw _ (List.mem_of_getElem? (i := 35) rfl))) (mvT hZ (hw _ (List.mem_of_getElem? (i := 36) rfl))) (notFace_of_selects (args := #[]) (mvT hZ (hw _ (List.mem_of_getElem? (i := 38) rfl)))) (mvT hZ (hw _ (List.mem_of_getElem? (i := 38) rfl))) (mvT hZ (hw _ (List.mem_of_getElem? (i := 37) rfl))) (by decide) (backOf (W := 0) (rm7 l Z a0 hw [] ix dd ka_2 va_2 kq6 vq6 tg4 T36.heap n0 Zs36 g36_0 g36_1 g36_2 Ag_ka_2_37 Ag_va_2_38 hg4 pg4) hZ (hw _ (List.mem_of_getElem? (i := 39) rfl)) (hw _ (List.mem_of_getElem? (i := 2) rfl)) (by decide) (by decide)) q46a q46c (g := (mkF m 245 #[.val (.int aa), .val (.int bb), .val (.int cc), .val (.int dd), .val (.int ee), .val (.int sl), .val (.ref ix), .val (.int (sl &&& (7 : Int32))), .val (.int rv), .val (.int (1 : Int32))] [(.int dd), (.ref ix)])) rfl (by rw [hml]; rfl) (Steps.refl _) (argsL := [(.int dd)]) (rest := []) (lenOf pd_0_3 rfl) rfl (by show 2 * 0 + _ ≤ _; exact Nat.le_of_eq rfl) (hb hby at_245) (fun _ _ => ⟨rfl, K45, (by decide : 3 + 0 ≤ _), (by decide : 35 + 0 ≤ _)⟩)
    dsimp only [Pt.U, Pt.locs, Pt.cells, Pt.slots] at Xc46 l46 y46 z46 st46 hQ46
    have X46 := own_cast Xc46 l46 y46 z46
    obtain ⟨ev46, N46q, K46⟩ := hQ46
    rw [ev46] at st46
    have N46 := Fr.app N45 N46q
    refine own_st (fun tgt k => st46.trans k) ?_
    show own_Go p e below _ (T46.setTop (mkF m 248 #[.val (.int aa), .val (.int bb), .val (.int cc), .val (.int dd), .val (.int ee), .val (.int sl), .val (.ref ix), .val (.int (sl &&& (7 : Int32))), .val (.int rv), .val (.int (1 : Int32))] [(.int (if vq6 ((own_H dd + tg4) % 16) = 0 then (-1 : Int32) else (vq6 ((own_H dd + tg4) % 16)) - (1 : Int32)))]))
    refine own_st (V := T46.setTop (mkF m 256 #[.val (.int aa), .val (.int bb), .val (.int cc), .val (.int dd), .val (.int ee), .val (.int sl), .val (.ref ix), .val (.int (sl &&& (7 : Int32))), .val (.int rv), .val (.int (1 : Int32))] [(.int ee), (.int dd), (.int cc), (.int bb), (.int rv), (.int dd), (.int (if vq6 ((own_H dd + tg4) % 16) = 0 then (-1 : Int32) else (vq6 ((own_H dd + tg4) % 16)) - (1 : Int32)))])) (fun tgt k => ?_) ?_
    · show Steps p.tables e below (T46.setTop (mkF m 248 #[.val (.int aa), .val (.int bb), .val (.int cc), .val (.int dd), .val (.int ee), .val (.int sl), .val (.ref ix), .val (.int (sl &&& (7 : Int32))), .val (.int rv), .val (.int (1 : Int32))] [(.int (if vq6 ((own_H dd + tg4) % 16) = 0 then (-1 : Int32) else (vq6 ((own_H dd + tg4) % 16)) - (1 : Int32)))])) tgt
      refine XS.iloadN X46.here hx rfl (hb hby at_248) rfl ?_
      show Steps p.tables e below (T46.setTop (mkF m 249 #[.val (.int aa), .val (.int bb), .val (.int cc), .val (.int dd), .val (.int ee), .val (.int sl), .val (.ref ix), .val (.int (sl &&& (7 : Int32))), .val (.int rv), .val (.int (1 : Int32))] [(.int dd), (.int (if vq6 ((own_H dd + tg4) % 16) = 0 then (-1 : Int32) else (vq6 ((own_H dd + tg4) % 16)) - (1 : Int32)))])) tgt
      refine XS.iload X46.here hx rfl (hb hby at_249) rfl ?_
      show Steps p.tables e below (T46.setTop (mkF m 251 #[.val (.int aa), .val (.int bb), .val (.int cc), .val (.int dd), .val (.int ee), .val (.int sl), .val (.ref ix), .val (.int (sl &&& (7 : Int32))), .val (.int rv), .val (.int (1 : Int32))] [(.int rv), (.int dd), (.int (if vq6 ((own_H dd + tg4) % 16) = 0 then (-1 : Int32) else (vq6 ((own_H dd + tg4) % 16)) - (1 : Int32)))])) tgt
      refine XS.iloadN X46.here hx rfl (hb hby at_251) rfl ?_
      show Steps p.tables e below (T46.setTop (mkF m 252 #[.val (.int aa), .val (.int bb), .val (.int cc), .val (.int dd), .val (.int ee), .val (.int sl), .val (.ref ix), .val (.int (sl &&& (7 : Int32))), .val (.int rv), .val (.int (1 : Int32))] [(.int bb), (.int rv), (.int dd), (.int (if vq6 ((own_H dd + tg4) % 16) = 0 then (-1 : Int32) else (vq6 ((own_H dd + tg4) % 16)) - (1 : Int32)))])) tgt
      refine XS.iloadN X46.here hx rfl (hb hby at_252) rfl ?_
      show Steps p.tables e below (T46.setTop (mkF m 253 #[.val (.int aa), .val (.int bb), .val (.int cc), .val (.int dd), .val (.int ee), .val (.int sl), .val (.ref ix), .val (.int (sl &&& (7 : Int32))), .val (.int rv), .val (.int (1 : Int32))] [(.int cc), (.int bb), (.int rv), (.int dd), (.int (if vq6 ((own_H dd + tg4) % 16) = 0 then (-1 : Int32) else (vq6 ((own_H dd + tg4) % 16)) - (1 : Int32)))])) tgt
      refine XS.iloadN X46.here hx rfl (hb hby at_253) rfl ?_
      show Steps p.tables e below (T46.setTop (mkF m 254 #[.val (.int aa), .val (.int bb), .val (.int cc), .val (.int dd), .val (.int ee), .val (.int sl), .val (.ref ix), .val (.int (sl &&& (7 : Int32))), .val (.int rv), .val (.int (1 : Int32))] [(.int dd), (.int cc), (.int bb), (.int rv), (.int dd), (.int (if vq6 ((own_H dd + tg4) % 16) = 0 then (-1 : Int32) else (vq6 ((own_H dd + tg4) % 16)) - (1 : Int32)))])) tgt
      refine XS.iload X46.here hx rfl (hb hby at_254) rfl ?_
      exact k
    obtain ⟨v47, _, ⟨T47, L47, k47, n47⟩, -, Xc47, ⟨Lc47, hQ47, l47, y47, z47⟩, st47⟩ := Jvm.LawKit.callS X46 hx (y := (⟨"com/example/sigpoint/sigpoint/IntIndexRemovePinLaw", "expect", "(IIIIII)I"⟩ : MethodName)) hown (mvT hZ (hw _ (List.mem_of_getElem? (i := 40) rfl))) (mvT hZ (hw _ (List.mem_of_getElem? (i := 41) rfl))) (mvT hZ (hw _ (List.mem_of_getElem? (i := 42) rfl))) (mvT hZ (hw _ (List.mem_of_getElem? (i := 43) rfl))) (by decide) (backOf (W := 1) (rm8 l Z a0 hw [] dd rv bb cc dd ee T36.heap n0 Zs36 ) hZ (hw _ (List.mem_of_getElem? (i := 43) rfl)) (hw _ (List.mem_of_getElem? (i := 42) rfl)) (by decide) (by decide)) (g := (mkF m 256 #[.val (.int aa), .val (.int bb), .val (.int cc), .val (.int dd), .val (.int ee), .val (.int sl), .val (.ref ix), .val (.int (sl &&& (7 : Int32))), .val (.int rv), .val (.int (1 : Int32))] [(.int ee), (.int dd), (.int cc), (.int bb), (.int rv), (.int dd), (.int (if vq6 ((own_H dd + tg4) % 16) = 0 then (-1 : Int32) else (vq6 ((own_H dd + tg4) % 16)) - (1 : Int32)))])) rfl (by rw [hml]; rfl) (argsL := [(.int dd), (.int rv), (.int bb), (.int cc), (.int dd), (.int ee)]) (rest := [(.int (if vq6 ((own_H dd + tg4) % 16) = 0 then (-1 : Int32) else (vq6 ((own_H dd + tg4) % 16)) - (1 : Int32)))]) (lenOf pd_0_4 rfl) rfl (by show 2 * 0 + _ ≤ _; exact Nat.le_of_eq rfl) (hb hby at_256) (fun _ _ => ⟨rfl, K46, (by decide : 3 + 0 ≤ _), (by decide : 35 + 0 ≤ _)⟩)
    dsimp only [Pt.U, Pt.locs, Pt.cells, Pt.slots] at Xc47 l47 y47 z47 st47 hQ47
    have X47 := own_cast Xc47 l47 y47 z47
    obtain ⟨ev47, N47q, K47⟩ := hQ47
    rw [ev47] at st47
    have N47 := Fr.app N46 N47q
    refine own_st st47 ?_
    show own_Go p e below _ (T47.setTop (mkF m 259 #[.val (.int aa), .val (.int bb), .val (.int cc), .val (.int dd), .val (.int ee), .val (.int sl), .val (.ref ix), .val (.int (sl &&& (7 : Int32))), .val (.int rv), .val (.int (1 : Int32))] [(.int (own_xp dd rv bb cc dd ee)), (.int (if vq6 ((own_H dd + tg4) % 16) = 0 then (-1 : Int32) else (vq6 ((own_H dd + tg4) % 16)) - (1 : Int32)))]))
    refine own_st (V := T47.setTop (mkF m 278 #[.val (.int aa), .val (.int bb), .val (.int cc), .val (.int dd), .val (.int ee), .val (.int sl), .val (.ref ix), .val (.int (sl &&& (7 : Int32))), .val (.int rv), .val (.int (1 : Int32))] [(.int ee), (.ref ix)])) (fun tgt k => ?_) ?_
    · show Steps p.tables e below (T47.setTop (mkF m 259 #[.val (.int aa), .val (.int bb), .val (.int cc), .val (.int dd), .val (.int ee), .val (.int sl), .val (.ref ix), .val (.int (sl &&& (7 : Int32))), .val (.int rv), .val (.int (1 : Int32))] [(.int (own_xp dd rv bb cc dd ee)), (.int (if vq6 ((own_H dd + tg4) % 16) = 0 then (-1 : Int32) else (vq6 ((own_H dd + tg4) % 16)) - (1 : Int32)))])) tgt
      refine XS.icmpNo X47.here hx rfl (hb hby at_259) rfl (teq (own_look_fun IX (own_look_pr IX hg4 pg4) (LX dd (Or.inl (Or.inr rfl))))).2 ?_
      show Steps p.tables e below (T47.setTop (mkF m 262 #[.val (.int aa), .val (.int bb), .val (.int cc), .val (.int dd), .val (.int ee), .val (.int sl), .val (.ref ix), .val (.int (sl &&& (7 : Int32))), .val (.int rv), .val (.int (1 : Int32))] [])) tgt
      refine XS.iconst X47.here hx rfl (hb hby at_262) ?_
      show Steps p.tables e below (T47.setTop (mkF m 263 #[.val (.int aa), .val (.int bb), .val (.int cc), .val (.int dd), .val (.int ee), .val (.int sl), .val (.ref ix), .val (.int (sl &&& (7 : Int32))), .val (.int rv), .val (.int (1 : Int32))] [(.int (1 : Int32))])) tgt
      refine XS.goto X47.here hx rfl (pc0 := 263) (pc' := 267) rfl (hb hby at_263) (by decide) (by decide) ?_
      show Steps p.tables e below (T47.setTop (mkF m 267 #[.val (.int aa), .val (.int bb), .val (.int cc), .val (.int dd), .val (.int ee), .val (.int sl), .val (.ref ix), .val (.int (sl &&& (7 : Int32))), .val (.int rv), .val (.int (1 : Int32))] [(.int (1 : Int32))])) tgt
      refine XS.istore X47.here hx rfl (hb hby at_267) rfl (l' := #[.val (.int aa), .val (.int bb), .val (.int cc), .val (.int dd), .val (.int ee), .val (.int sl), .val (.ref ix), .val (.int (sl &&& (7 : Int32))), .val (.int rv), .val (.int (1 : Int32))]) rfl ?_
      show Steps p.tables e below (T47.setTop (mkF m 269 #[.val (.int aa), .val (.int bb), .val (.int cc), .val (.int dd), .val (.int ee), .val (.int sl), .val (.ref ix), .val (.int (sl &&& (7 : Int32))), .val (.int rv), .val (.int (1 : Int32))] [])) tgt
      refine XS.iload X47.here hx rfl (hb hby at_269) rfl ?_
      show Steps p.tables e below (T47.setTop (mkF m 271 #[.val (.int aa), .val (.int bb), .val (.int cc), .val (.int dd), .val (.int ee), .val (.int sl), .val (.ref ix), .val (.int (sl &&& (7 : Int32))), .val (.int rv), .val (.int (1 : Int32))] [(.int (1 : Int32))])) tgt
      refine XS.ifNo X47.here hx rfl (hb hby at_271) rfl ((if0 _ _).trans (feq (by decide : ¬ ((1 : Int32) = (0 : Int32)))).1) ?_
      show Steps p.tables e below (T47.setTop (mkF m 274 #[.val (.int aa), .val (.int bb), .val (.int cc), .val (.int dd), .val (.int ee), .val (.int sl), .val (.ref ix), .val (.int (sl &&& (7 : Int32))), .val (.int rv), .val (.int (1 : Int32))] [])) tgt
      refine XS.aload X47.here hx rfl (hb hby at_274) rfl rfl ?_
      show Steps p.tables e below (T47.setTop (mkF m 276 #[.val (.int aa), .val (.int bb), .val (.int cc), .val (.int dd), .val (.int ee), .val (.int sl), .val (.ref ix), .val (.int (sl &&& (7 : Int32))), .val (.int rv), .val (.int (1 : Int32))] [(.ref ix)])) tgt
      refine XS.iload X47.here hx rfl (hb hby at_276) rfl ?_
      exact k
    obtain ⟨tg5, hg5, pg5⟩ := own_find kq6 vq6 ee zz6 zX vX
    obtain ⟨cq48, kq48, q48a, q48b, q48c⟩ := isOf hZ K47 g36_0
    obtain ⟨v48, _, ⟨T48, L48, k48, n48⟩, -, Xc48, ⟨Lc48, hQ48, l48, y48, z48⟩, st48⟩ := X47.virtualBack hx (y := (⟨"com/example/sigpoint/sigpoint/IntIndex", "get", "(I)I"⟩ : MethodName)) (z := (⟨"com/example/sigpoint/sigpoint/IntIndex", "get", "(I)I"⟩ : MethodName)) hown (mvT hZ (hw _ (List.mem_of_getElem? (i := 35) rfl))) (mvT hZ (hw _ (List.mem_of_getElem? (i := 36) rfl))) (notFace_of_selects (args := #[]) (mvT hZ (hw _ (List.mem_of_getElem? (i := 38) rfl)))) (mvT hZ (hw _ (List.mem_of_getElem? (i := 38) rfl))) (mvT hZ (hw _ (List.mem_of_getElem? (i := 37) rfl))) (by decide) (backOf (W := 0) (rm7 l Z a0 hw [] ix ee ka_2 va_2 kq6 vq6 tg5 T36.heap n0 Zs36 g36_0 g36_1 g36_2 Ag_ka_2_37 Ag_va_2_38 hg5 pg5) hZ (hw _ (List.mem_of_getElem? (i := 39) rfl)) (hw _ (List.mem_of_getElem? (i := 2) rfl)) (by decide) (by decide)) q48a q48c (g := (mkF m 278 #[.val (.int aa), .val (.int bb), .val (.int cc), .val (.int dd), .val (.int ee), .val (.int sl), .val (.ref ix), .val (.int (sl &&& (7 : Int32))), .val (.int rv), .val (.int (1 : Int32))] [(.int ee), (.ref ix)])) rfl (by rw [hml]; rfl) (Steps.refl _) (argsL := [(.int ee)]) (rest := []) (lenOf pd_0_3 rfl) rfl (by show 2 * 0 + _ ≤ _; exact Nat.le_of_eq rfl) (hb hby at_278) (fun _ _ => ⟨rfl, K47, (by decide : 3 + 0 ≤ _), (by decide : 35 + 0 ≤ _)⟩)
    dsimp only [Pt.U, Pt.locs, Pt.cells, Pt.slots] at Xc48 l48 y48 z48 st48 hQ48
    have X48 := own_cast Xc48 l48 y48 z48
    obtain ⟨ev48, N48q, K48⟩ := hQ48
    rw [ev48] at st48
    have N48 := Fr.app N47 N48q
    refine own_st (fun tgt k => st48.trans k) ?_
    show own_Go p e below _ (T48.setTop (mkF m 281 #[.val (.int aa), .val (.int bb), .val (.int cc), .val (.int dd), .val (.int ee), .val (.int sl), .val (.ref ix), .val (.int (sl &&& (7 : Int32))), .val (.int rv), .val (.int (1 : Int32))] [(.int (if vq6 ((own_H ee + tg5) % 16) = 0 then (-1 : Int32) else (vq6 ((own_H ee + tg5) % 16)) - (1 : Int32)))]))
    refine own_st (V := T48.setTop (mkF m 290 #[.val (.int aa), .val (.int bb), .val (.int cc), .val (.int dd), .val (.int ee), .val (.int sl), .val (.ref ix), .val (.int (sl &&& (7 : Int32))), .val (.int rv), .val (.int (1 : Int32))] [(.int ee), (.int dd), (.int cc), (.int bb), (.int rv), (.int ee), (.int (if vq6 ((own_H ee + tg5) % 16) = 0 then (-1 : Int32) else (vq6 ((own_H ee + tg5) % 16)) - (1 : Int32)))])) (fun tgt k => ?_) ?_
    · show Steps p.tables e below (T48.setTop (mkF m 281 #[.val (.int aa), .val (.int bb), .val (.int cc), .val (.int dd), .val (.int ee), .val (.int sl), .val (.ref ix), .val (.int (sl &&& (7 : Int32))), .val (.int rv), .val (.int (1 : Int32))] [(.int (if vq6 ((own_H ee + tg5) % 16) = 0 then (-1 : Int32) else (vq6 ((own_H ee + tg5) % 16)) - (1 : Int32)))])) tgt
      refine XS.iload X48.here hx rfl (hb hby at_281) rfl ?_
      show Steps p.tables e below (T48.setTop (mkF m 283 #[.val (.int aa), .val (.int bb), .val (.int cc), .val (.int dd), .val (.int ee), .val (.int sl), .val (.ref ix), .val (.int (sl &&& (7 : Int32))), .val (.int rv), .val (.int (1 : Int32))] [(.int ee), (.int (if vq6 ((own_H ee + tg5) % 16) = 0 then (-1 : Int32) else (vq6 ((own_H ee + tg5) % 16)) - (1 : Int32)))])) tgt
      refine XS.iload X48.here hx rfl (hb hby at_283) rfl ?_
      show Steps p.tables e below (T48.setTop (mkF m 285 #[.val (.int aa), .val (.int bb), .val (.int cc), .val (.int dd), .val (.int ee), .val (.int sl), .val (.ref ix), .val (.int (sl &&& (7 : Int32))), .val (.int rv), .val (.int (1 : Int32))] [(.int rv), (.int ee), (.int (if vq6 ((own_H ee + tg5) % 16) = 0 then (-1 : Int32) else (vq6 ((own_H ee + tg5) % 16)) - (1 : Int32)))])) tgt
      refine XS.iloadN X48.here hx rfl (hb hby at_285) rfl ?_
      show Steps p.tables e below (T48.setTop (mkF m 286 #[.val (.int aa), .val (.int bb), .val (.int cc), .val (.int dd), .val (.int ee), .val (.int sl), .val (.ref ix), .val (.int (sl &&& (7 : Int32))), .val (.int rv), .val (.int (1 : Int32))] [(.int bb), (.int rv), (.int ee), (.int (if vq6 ((own_H ee + tg5) % 16) = 0 then (-1 : Int32) else (vq6 ((own_H ee + tg5) % 16)) - (1 : Int32)))])) tgt
      refine XS.iloadN X48.here hx rfl (hb hby at_286) rfl ?_
      show Steps p.tables e below (T48.setTop (mkF m 287 #[.val (.int aa), .val (.int bb), .val (.int cc), .val (.int dd), .val (.int ee), .val (.int sl), .val (.ref ix), .val (.int (sl &&& (7 : Int32))), .val (.int rv), .val (.int (1 : Int32))] [(.int cc), (.int bb), (.int rv), (.int ee), (.int (if vq6 ((own_H ee + tg5) % 16) = 0 then (-1 : Int32) else (vq6 ((own_H ee + tg5) % 16)) - (1 : Int32)))])) tgt
      refine XS.iloadN X48.here hx rfl (hb hby at_287) rfl ?_
      show Steps p.tables e below (T48.setTop (mkF m 288 #[.val (.int aa), .val (.int bb), .val (.int cc), .val (.int dd), .val (.int ee), .val (.int sl), .val (.ref ix), .val (.int (sl &&& (7 : Int32))), .val (.int rv), .val (.int (1 : Int32))] [(.int dd), (.int cc), (.int bb), (.int rv), (.int ee), (.int (if vq6 ((own_H ee + tg5) % 16) = 0 then (-1 : Int32) else (vq6 ((own_H ee + tg5) % 16)) - (1 : Int32)))])) tgt
      refine XS.iload X48.here hx rfl (hb hby at_288) rfl ?_
      exact k
    obtain ⟨v49, _, ⟨T49, L49, k49, n49⟩, -, Xc49, ⟨Lc49, hQ49, l49, y49, z49⟩, st49⟩ := Jvm.LawKit.callS X48 hx (y := (⟨"com/example/sigpoint/sigpoint/IntIndexRemovePinLaw", "expect", "(IIIIII)I"⟩ : MethodName)) hown (mvT hZ (hw _ (List.mem_of_getElem? (i := 40) rfl))) (mvT hZ (hw _ (List.mem_of_getElem? (i := 41) rfl))) (mvT hZ (hw _ (List.mem_of_getElem? (i := 42) rfl))) (mvT hZ (hw _ (List.mem_of_getElem? (i := 43) rfl))) (by decide) (backOf (W := 1) (rm8 l Z a0 hw [] ee rv bb cc dd ee T36.heap n0 Zs36 ) hZ (hw _ (List.mem_of_getElem? (i := 43) rfl)) (hw _ (List.mem_of_getElem? (i := 42) rfl)) (by decide) (by decide)) (g := (mkF m 290 #[.val (.int aa), .val (.int bb), .val (.int cc), .val (.int dd), .val (.int ee), .val (.int sl), .val (.ref ix), .val (.int (sl &&& (7 : Int32))), .val (.int rv), .val (.int (1 : Int32))] [(.int ee), (.int dd), (.int cc), (.int bb), (.int rv), (.int ee), (.int (if vq6 ((own_H ee + tg5) % 16) = 0 then (-1 : Int32) else (vq6 ((own_H ee + tg5) % 16)) - (1 : Int32)))])) rfl (by rw [hml]; rfl) (argsL := [(.int ee), (.int rv), (.int bb), (.int cc), (.int dd), (.int ee)]) (rest := [(.int (if vq6 ((own_H ee + tg5) % 16) = 0 then (-1 : Int32) else (vq6 ((own_H ee + tg5) % 16)) - (1 : Int32)))]) (lenOf pd_0_4 rfl) rfl (by show 2 * 0 + _ ≤ _; exact Nat.le_of_eq rfl) (hb hby at_290) (fun _ _ => ⟨rfl, K48, (by decide : 3 + 0 ≤ _), (by decide : 35 + 0 ≤ _)⟩)
    dsimp only [Pt.U, Pt.locs, Pt.cells, Pt.slots] at Xc49 l49 y49 z49 st49 hQ49
    have X49 := own_cast Xc49 l49 y49 z49
    obtain ⟨ev49, N49q, K49⟩ := hQ49
    rw [ev49] at st49
    have N49 := Fr.app N48 N49q
    refine own_st st49 ?_
    show own_Go p e below _ (T49.setTop (mkF m 293 #[.val (.int aa), .val (.int bb), .val (.int cc), .val (.int dd), .val (.int ee), .val (.int sl), .val (.ref ix), .val (.int (sl &&& (7 : Int32))), .val (.int rv), .val (.int (1 : Int32))] [(.int (own_xp ee rv bb cc dd ee)), (.int (if vq6 ((own_H ee + tg5) % 16) = 0 then (-1 : Int32) else (vq6 ((own_H ee + tg5) % 16)) - (1 : Int32)))]))
    refine own_st (V := T49.setTop (mkF m 305 #[.val (.int aa), .val (.int bb), .val (.int cc), .val (.int dd), .val (.int ee), .val (.int sl), .val (.ref ix), .val (.int (sl &&& (7 : Int32))), .val (.int rv), .val (.int (1 : Int32))] [(.int (1 : Int32))])) (fun tgt k => ?_) ?_
    · show Steps p.tables e below (T49.setTop (mkF m 293 #[.val (.int aa), .val (.int bb), .val (.int cc), .val (.int dd), .val (.int ee), .val (.int sl), .val (.ref ix), .val (.int (sl &&& (7 : Int32))), .val (.int rv), .val (.int (1 : Int32))] [(.int (own_xp ee rv bb cc dd ee)), (.int (if vq6 ((own_H ee + tg5) % 16) = 0 then (-1 : Int32) else (vq6 ((own_H ee + tg5) % 16)) - (1 : Int32)))])) tgt
      refine XS.icmpNo X49.here hx rfl (hb hby at_293) rfl (teq (own_look_fun IX (own_look_pr IX hg5 pg5) (LX ee (Or.inr rfl)))).2 ?_
      show Steps p.tables e below (T49.setTop (mkF m 296 #[.val (.int aa), .val (.int bb), .val (.int cc), .val (.int dd), .val (.int ee), .val (.int sl), .val (.ref ix), .val (.int (sl &&& (7 : Int32))), .val (.int rv), .val (.int (1 : Int32))] [])) tgt
      refine XS.iconst X49.here hx rfl (hb hby at_296) ?_
      show Steps p.tables e below (T49.setTop (mkF m 297 #[.val (.int aa), .val (.int bb), .val (.int cc), .val (.int dd), .val (.int ee), .val (.int sl), .val (.ref ix), .val (.int (sl &&& (7 : Int32))), .val (.int rv), .val (.int (1 : Int32))] [(.int (1 : Int32))])) tgt
      refine XS.goto X49.here hx rfl (pc0 := 297) (pc' := 301) rfl (hb hby at_297) (by decide) (by decide) ?_
      show Steps p.tables e below (T49.setTop (mkF m 301 #[.val (.int aa), .val (.int bb), .val (.int cc), .val (.int dd), .val (.int ee), .val (.int sl), .val (.ref ix), .val (.int (sl &&& (7 : Int32))), .val (.int rv), .val (.int (1 : Int32))] [(.int (1 : Int32))])) tgt
      refine XS.istore X49.here hx rfl (hb hby at_301) rfl (l' := #[.val (.int aa), .val (.int bb), .val (.int cc), .val (.int dd), .val (.int ee), .val (.int sl), .val (.ref ix), .val (.int (sl &&& (7 : Int32))), .val (.int rv), .val (.int (1 : Int32))]) rfl ?_
      show Steps p.tables e below (T49.setTop (mkF m 303 #[.val (.int aa), .val (.int bb), .val (.int cc), .val (.int dd), .val (.int ee), .val (.int sl), .val (.ref ix), .val (.int (sl &&& (7 : Int32))), .val (.int rv), .val (.int (1 : Int32))] [])) tgt
      refine XS.iload X49.here hx rfl (hb hby at_303) rfl ?_
      exact k
    refine own_retN X49 hx hlk (t := .boolean) (z' := (1 : Int32)) Bd.returns (by simp) rfl (hb hby at_305) ?_ (by decide) (by decide)
    show Q0 Z aa bb cc dd ee sl h0 n0 (some (.int (1 : Int32))) T49.heap _
    rw [K49]
    exact ⟨rfl, N49⟩
set_option maxRecDepth 65536 in
set_option maxHeartbeats 40000000 in
theorem comes_1 {Post : Tables → Env → Array Value → State → Outcome → State → Prop} (hpost : ∀ tb e args s v u, (limb_1_1.after args s (.returned v) u = true ∧ limb_1_2.after args s (.returned v) u = true ∧ True) → FrameEnd s (.returned v) u (Jvm.fieldLocs frame_1_writes args s ++ Jvm.arrayLocs frame_1_arrays args s ++ Jvm.staticLocs frame_1_statics s) 16 192 → Post tb e args s (.returned v) u) :
    ArmFor flags0 classFile x code maxLocals ret World_1 tables_1 room_1 Calls_1 rest_1 Pre_1 Post := by
  intro l hfl _ _ p e ha hc hk s m args below hf hA hF happ hP
  obtain ⟨hcalls, hrest, hpre⟩ := hP
  obtain ⟨-, -, -, hnamed, -, -, -, hat⟩ := (Spec.applies_iff hf).mp happ
  obtain ⟨hg, hn⟩ := and_e (Cond.before_iff.mp (show (Jvm.Cond.and given_1 narrow_1).before args s = true from hpre))
  obtain ⟨hcount, g0⟩ := and_e hg
  obtain ⟨a0, g1⟩ := and_e g0
  obtain ⟨a1, g2⟩ := and_e g1
  obtain ⟨a2, g3⟩ := and_e g2
  obtain ⟨a3, g4⟩ := and_e g3
  obtain ⟨a4, g5⟩ := and_e g4
  have a5 := g5
  obtain ⟨w0, w1, w2, w3, w4, w5, rfl⟩ : ∃ w0 w1 w2 w3 w4 w5 : Value, args = #[w0, w1, w2, w3, w4, w5] := by
    have hs : args.size = 6 := by simpa [Cond.value, given_1] using hcount
    obtain ⟨L⟩ := args
    match L, hs with
    | [w0, w1, w2, w3, w4, w5], _ => exact ⟨w0, w1, w2, w3, w4, w5, rfl⟩
  have hw := fun d (hd : d ∈ tables_1) => atoms_spec (ws := Jvm.Cond.code x code maxLocals ret :: tables_1) hat d (List.mem_cons_of_mem _ hd)
  obtain ⟨i0, ei0⟩ := is_v a0
  obtain rfl : w0 = (.int i0) := Option.some.inj ei0
  obtain ⟨i1, ei1⟩ := is_v a1
  obtain rfl : w1 = (.int i1) := Option.some.inj ei1
  obtain ⟨i2, ei2⟩ := is_v a2
  obtain rfl : w2 = (.int i2) := Option.some.inj ei2
  obtain ⟨i3, ei3⟩ := is_v a3
  obtain rfl : w3 = (.int i3) := Option.some.inj ei3
  obtain ⟨i4, ei4⟩ := is_v a4
  obtain rfl : w4 = (.int i4) := Option.some.inj ei4
  obtain ⟨i5, ei5⟩ := is_v a5
  obtain rfl : w5 = (.int i5) := Option.some.inj ei5
  obtain ⟨n, o, h1, h2, h3, _, L, rfl, ⟨rfl, N⟩, hq⟩ := rm0 l s _ hw tables_1 i0 i1 i2 i3 i4 i5 s.heap s.heap.size (Nat.le_refl _) p e ha hc hk s m _ below hf ((Spec.applies_iff_loose hf).mp happ).1 ⟨rfl, State.Warmed39.refl s, rfl⟩ trivial
  refine ⟨n, _, h1, h2, h3, hpost _ _ _ _ _ _ ⟨Cond.after_iff.mpr rfl, Cond.after_iff.mpr (eq_i res_at (Term.int_eval (1)) rfl), trivial⟩ ⟨hq.1, hq.2.1, (hq.2.2.sift fun y hy => Or.inr (N y hy)).mono (by decide) (by decide)⟩⟩
theorem main_1_1 : Claimed_1_1 := comes_1 fun _ _ _ _ _ _ h hF => ⟨h.1, hF⟩
theorem main_1_2 : Claimed_1_2 := comes_1 fun _ _ _ _ _ _ h hF => ⟨h.2.1, hF⟩
end Jvm.Pilot.@@N@@
namespace Jvm.Pilot.@@N@@
open Jvm Jvm.ClassFile Sem Op Lib Jvm.Free Jvm.Stand Jvm.Pilot.@@N@@.Jvm.D
/-! MADE BY PROGRAM (witnessworld.py) out of the Statement's table words and the real class files: 9 classes; the members and pool entries that the words name. The judged class is class 1, her method 1. -/
namespace start1
open Jvm.ClassFile
def u (s : String) : CpInfo := .utf8 (stringToUtf16 s)
/-- a pool by its gaps: so many unusable entries, then the entry; so many at the end -/
def gap : Nat → List CpInfo → List CpInfo
  | 0, r => r
  | n + 1, r => .unusable :: gap n r
def poolList (es : List (Nat × CpInfo)) (last : Nat) : List CpInfo := es.foldr (fun e r => gap e.1 (e.2 :: r)) (gap last [])
def pool (es : List (Nat × CpInfo)) (last : Nat) : Array CpInfo := ⟨poolList es last⟩
def fileOf (pool : Array CpInfo) (this : Nat) (attrs : Array Attribute := #[]) (ms : Array MethodInfo := #[]) (fl : Nat := 33) (sup : Nat := 0) (ifs : Array Nat := #[]) (fds : Array FieldInfo := #[]) : ClassFile where
  minorVersion := 0
  majorVersion := 65
  constantPool := pool
  accessFlags := fl
  thisClass := this
  superClass := sup
  interfaces := ifs
  fields := fds
  methods := ms
  attributes := attrs
def plain (name : String) (sup : Option ClassId) : Class where
  name := name
  kind := .ordinary
  loader := none
  accessFlags := 33
  super := sup
  interfaces := #[]
  cf := none
  fields := #[]
  methods := #[]
  instanceTypes := #[]
  staticTypes := #[]
  resolved := #[]
  callSites := []
  init := .initialized
  statics := none
  mirror := none

def pool0 : Array CpInfo := pool [(5, u "<init>"), (0, u "()V"), (1, .class_ 10), (1, u "java/lang/Object")] 113

def k0c0 : Code := { maxStack := 0, maxLocals := 1, code := object_method_1_code, exceptionTable := #[], attributes := #[] }
def k0m0 : Method := { name := "<init>", desc := "()V", sig := { parameters := [], returnType := none }, accessFlags := 1, code := some k0c0 }
/-- java/lang/Object -/
def k0 : Class := { plain "java/lang/Object" none with
  accessFlags := 33
  interfaces := #[]
  cf := some (fileOf pool0 8 #[] #[{ accessFlags := 1, nameIndex := 5, descriptorIndex := 6, attributes := #[] }] 33 0 #[] #[])
  fields := #[]
  methods := #[k0m0]
  instanceTypes := #[]
  staticTypes := #[]
  resolved := Array.replicate 124 none
  statics := none }

def pool1 : Array CpInfo := pool [(2, .class_ 4), (0, .nameAndType 5 6), (0, u "java/lang/Object"), (0, u "<init>"), (0, u "()V"), (0, .class_ 8), (0, u "com/example/sigpoint/sigpoint/IntIndex"), (0, .methodref 7 3), (0, .methodref 7 11), (0, .nameAndType 12 13), (0, u "put"), (0, u "(II)V"), (0, .methodref 7 15), (0, .nameAndType 16 17), (0, u "remove"), (0, u "(I)V"), (0, .methodref 7 19), (0, .nameAndType 20 21), (0, u "get"), (0, u "(I)I"), (0, .methodref 23 24), (0, .class_ 25), (0, .nameAndType 26 27), (0, u "com/example/sigpoint/sigpoint/IntIndexRemovePinLaw"), (0, u "expect"), (0, u "(IIIIII)I"), (2, u "law"), (0, u "(IIIIII)Z")] 3

def k1m0 : Method := { name := "<init>", desc := "()V", sig := { parameters := [], returnType := none }, accessFlags := 1, code := none }
def k1c1 : Code := { maxStack := 7, maxLocals := 10, code := code, exceptionTable := #[], attributes := #[] }
def k1m1 : Method := { name := "law", desc := "(IIIIII)Z", sig := { parameters := [.int, .int, .int, .int, .int, .int], returnType := some .boolean }, accessFlags := 9, code := some k1c1 }
def k1c2 : Code := { maxStack := 2, maxLocals := 6, code := method_3_code, exceptionTable := #[], attributes := #[] }
def k1m2 : Method := { name := "expect", desc := "(IIIIII)I", sig := { parameters := [.int, .int, .int, .int, .int, .int], returnType := some .int }, accessFlags := 10, code := some k1c2 }
/-- com/example/sigpoint/sigpoint/IntIndexRemovePinLaw -/
def k1 : Class := { plain "com/example/sigpoint/sigpoint/IntIndexRemovePinLaw" (some 0) with
  accessFlags := 49
  interfaces := #[]
  cf := some (fileOf pool1 23 #[] #[{ accessFlags := 1, nameIndex := 5, descriptorIndex := 6, attributes := #[] }, { accessFlags := 9, nameIndex := 30, descriptorIndex := 31, attributes := #[] }, { accessFlags := 10, nameIndex := 26, descriptorIndex := 27, attributes := #[] }] 49 2 #[] #[])
  fields := #[]
  methods := #[k1m0, k1m1, k1m2]
  instanceTypes := #[]
  staticTypes := #[]
  resolved := Array.replicate 35 none
  statics := none }

def pool2 : Array CpInfo := pool [(1, .methodref 2 3), (0, .class_ 4), (0, .nameAndType 5 6), (0, u "java/lang/Object"), (0, u "<init>"), (0, u "()V"), (0, .fieldref 8 9), (0, .class_ 10), (0, .nameAndType 11 12), (0, u "com/example/sigpoint/sigpoint/IntIndex"), (0, u "keys"), (0, u "[I"), (0, .fieldref 8 14), (0, .nameAndType 15 12), (0, u "values"), (0, .methodref 8 17), (0, .nameAndType 18 19), (0, u "home"), (0, u "(I)I"), (0, .methodref 8 21), (0, .nameAndType 22 19), (0, u "next"), (2, u "get"), (9, .fieldref 8 36), (0, .nameAndType 37 38), (0, u "size"), (0, u "I"), (3, .integer 2654435769), (2, u "put"), (0, u "(II)V"), (0, u "ABSENT"), (7, u "remove"), (0, u "(I)V")] 18

def k2c0 : Code := { maxStack := 2, maxLocals := 1, code := prog_63_method_1_code, exceptionTable := #[], attributes := #[] }
def k2m0 : Method := { name := "<init>", desc := "()V", sig := { parameters := [], returnType := none }, accessFlags := 0, code := some k2c0 }
def k2c1 : Code := { maxStack := 2, maxLocals := 3, code := prog_63_method_2_code, exceptionTable := #[], attributes := #[] }
def k2m1 : Method := { name := "get", desc := "(I)I", sig := { parameters := [.int], returnType := some .int }, accessFlags := 0, code := some k2c1 }
def k2c2 : Code := { maxStack := 4, maxLocals := 4, code := prog_63_method_4_code, exceptionTable := #[], attributes := #[] }
def k2m2 : Method := { name := "put", desc := "(II)V", sig := { parameters := [.int, .int], returnType := none }, accessFlags := 0, code := some k2c2 }
def k2c3 : Code := { maxStack := 4, maxLocals := 7, code := prog_63_method_5_code, exceptionTable := #[], attributes := #[] }
def k2m3 : Method := { name := "remove", desc := "(I)V", sig := { parameters := [.int], returnType := none }, accessFlags := 0, code := some k2c3 }
def k2c4 : Code := { maxStack := 3, maxLocals := 3, code := prog_63_method_6_code, exceptionTable := #[], attributes := #[] }
def k2m4 : Method := { name := "home", desc := "(I)I", sig := { parameters := [.int], returnType := some .int }, accessFlags := 2, code := some k2c4 }
def k2c5 : Code := { maxStack := 3, maxLocals := 2, code := prog_63_method_7_code, exceptionTable := #[], attributes := #[] }
def k2m5 : Method := { name := "next", desc := "(I)I", sig := { parameters := [.int], returnType := some .int }, accessFlags := 2, code := some k2c5 }
/-- com/example/sigpoint/sigpoint/IntIndex -/
def k2 : Class := { plain "com/example/sigpoint/sigpoint/IntIndex" (some 0) with
  accessFlags := 48
  interfaces := #[]
  cf := some (fileOf pool2 8 #[] #[{ accessFlags := 0, nameIndex := 5, descriptorIndex := 6, attributes := #[] }, { accessFlags := 0, nameIndex := 25, descriptorIndex := 19, attributes := #[] }, { accessFlags := 0, nameIndex := 45, descriptorIndex := 46, attributes := #[] }, { accessFlags := 0, nameIndex := 55, descriptorIndex := 56, attributes := #[] }, { accessFlags := 2, nameIndex := 18, descriptorIndex := 19, attributes := #[] }, { accessFlags := 2, nameIndex := 22, descriptorIndex := 19, attributes := #[] }] 48 2 #[] #[{ accessFlags := 24, nameIndex := 47, descriptorIndex := 38, attributes := #[] }, { accessFlags := 2, nameIndex := 11, descriptorIndex := 12, attributes := #[] }, { accessFlags := 2, nameIndex := 15, descriptorIndex := 12, attributes := #[] }, { accessFlags := 2, nameIndex := 37, descriptorIndex := 38, attributes := #[] }])
  fields := #[{ name := "ABSENT", type := .int, accessFlags := 24, slot := 0, constantValue := 0 }, { name := "keys", type := (.array .int), accessFlags := 2, slot := 0, constantValue := 0 }, { name := "values", type := (.array .int), accessFlags := 2, slot := 1, constantValue := 0 }, { name := "size", type := .int, accessFlags := 2, slot := 2, constantValue := 0 }]
  methods := #[k2m0, k2m1, k2m2, k2m3, k2m4, k2m5]
  instanceTypes := #[(.array .int), (.array .int), .int]
  staticTypes := #[.int]
  resolved := Array.replicate 75 none
  statics := none }

def pool3 : Array CpInfo := pool [(1, u "java/lang/Cloneable"), (0, .class_ 1), (0, u "java/lang/Object"), (0, .class_ 3)] 3

/-- java/lang/Cloneable -/
def k3 : Class := { plain "java/lang/Cloneable" (some 0) with
  accessFlags := 1537
  interfaces := #[]
  cf := some (fileOf pool3 2 #[] #[] 1537 4 #[] #[])
  fields := #[]
  methods := #[]
  instanceTypes := #[]
  staticTypes := #[]
  resolved := Array.replicate 8 none
  statics := none }

def pool4 : Array CpInfo := pool [(1, u "java/io/Serializable"), (0, .class_ 1), (0, u "java/lang/Object"), (0, .class_ 3)] 3

/-- java/io/Serializable -/
def k4 : Class := { plain "java/io/Serializable" (some 0) with
  accessFlags := 1537
  interfaces := #[]
  cf := some (fileOf pool4 2 #[] #[] 1537 4 #[] #[])
  fields := #[]
  methods := #[]
  instanceTypes := #[]
  staticTypes := #[]
  resolved := Array.replicate 8 none
  statics := none }

/-- the primitive byte -/
def k5 : Class := { plain "byte" none with kind := .primitive 'B', accessFlags := 0x411 }
/-- [B -/
def k6 : Class := { plain "[B" (some 0) with kind := .array 5 .byte, interfaces := #[3, 4], accessFlags := 1041 }

/-- the primitive int -/
def k7 : Class := { plain "int" none with kind := .primitive 'I', accessFlags := 0x411 }
/-- [I -/
def k8 : Class := { plain "[I" (some 0) with kind := .array 7 .int, interfaces := #[3, 4], accessFlags := 1041 }

def heap : Heap := #[]
def classes : Array Class := #[k0, k1, k2, k3, k4, k5, k6, k7, k8]
def interned : List (Array UInt16 × Addr) := []
def slotsUsed : Nat := 0
def theMethod : MethodId := ⟨1, 1⟩
def args0 : Array Value := #[.int 5, .int 3, .int 3, .int 1, .int 2, .int 2]
def aboutOver (below : List Frame) : State where
  vm := { classes := classes, interned := interned.toArray }
  heap := heap
  slotsUsed := slotsUsed
  threads := #[{ frames := .invoking theMethod args0 :: below }]
def below0 : List Frame := [.native { method := ⟨0, 0⟩, args := #[] }]
def about1 : State := aboutOver below0
def p0 : Program := .bare "" "" ""
def e0 : Env := launch0.env 0 0 0
theorem w_frames : about1.frames = Frame.invoking theMethod args0 :: below0 := rfl
set_option maxRecDepth 65536 in
theorem w_args : argsFit about1.vm theMethod args0 = true := by decide +kernel
set_option maxRecDepth 65536 in
theorem w_heap : heapFits about1 = true := by decide +kernel
set_option maxRecDepth 65536 in
theorem w_runnable : about1.curStatus? = some .runnable := by decide +kernel
set_option maxRecDepth 65536 in
theorem w_alone : about1.alone = true := by decide +kernel
set_option maxRecDepth 65536 in
theorem w_named : about1.methodNamed? x = some theMethod := by decide +kernel
set_option maxRecDepth 65536 in
theorem w_hears : about1.hears theMethod below0 = true := by decide +kernel
set_option maxRecDepth 65536 in
theorem w_ripe : about1.ripe theMethod args0 below0 = true := by decide +kernel
theorem w_running : about1.status = .running := rfl
set_option maxRecDepth 65536 in
theorem w_room : about1.hasRoom e0.platform room_1 = true :=
  launch0.hasRoom_least _ room_1 (by decide +kernel) (by decide +kernel) (by decide +kernel) (by decide +kernel) (by decide +kernel) (by decide +kernel)
theorem allAtoms_all (ts : List Jvm.Cond) (a : Array Jvm.Value) (st : Jvm.State) : (allAtoms ts).before a st = ts.all (fun c => c.before a st) := by
  induction ts with
  | nil => rfl
  | cons c t ih =>
    show (Jvm.Cond.and c (allAtoms t)).before a st = _
    rw [Jvm.Cond.before_and, ih, List.all_cons]
def words1 : List Jvm.Cond := Jvm.Cond.code x code maxLocals ret :: tables_1
/-- a 'code' word, met by the world's own term for the bytes: nothing is compared byte by byte -/
theorem code_word {y : MethodName} {bytes : ByteArray} {mx : Nat} {rt : Option FieldType} {a : Array Value} {s : State} {m : MethodId} {meth : Method} {c : Code} (h1 : s.methodNamed? y = some m) (h2 : s.vm.method? m = some meth) (h3 : meth.code = some c) (h4 : c.code = bytes)
    (h5 : (c.maxLocals == mx && c.exceptionTable.isEmpty && decide (c.maxStack ≤ mostOperands) && decide (meth.sig.returnType = rt) && !meth.locks && decide (parseMethodDescriptor y.desc = some meth.sig)) = true) : (Jvm.Cond.code y bytes mx rt).before a s = true := by
  simp only [Bool.and_eq_true, beq_iff_eq, Bool.not_eq_true', decide_eq_true_eq] at h5
  obtain ⟨⟨⟨⟨⟨g1, g2⟩, g3⟩, g4⟩, g5⟩, g6⟩ := h5
  simp [Cond.before, Cond.holds, Cond.value, h1, h2, h3, h4, g1, g2, g3, g4, g5, g6]
def isCode : Jvm.Cond → Bool
  | .code _ _ _ _ => true
  | _ => false
theorem all_split {L : List Jvm.Cond} {P : Jvm.Cond → Bool} (h1 : L.all (fun c => isCode c || P c) = true) (h2 : ∀ c ∈ L.filter isCode, P c = true) : L.all P = true := by
  refine List.all_eq_true.mpr fun c hc => ?_
  have h := List.all_eq_true.mp h1 c hc
  rcases Bool.eq_false_or_eq_true (isCode c) with hi | hi
  · exact h2 c (List.mem_filter.mpr ⟨hc, hi⟩)
  · simpa [hi] using h
set_option maxRecDepth 65536 in
theorem w_c0 : (Jvm.Cond.code x code maxLocals ret).before args0 about1 = true := code_word (m := ⟨1, 1⟩) (meth := k1m1) (c := k1c1) (by decide +kernel) rfl rfl rfl (by decide +kernel)
set_option maxRecDepth 65536 in
theorem w_c1 : (Jvm.Cond.code ({ cls := "com/example/sigpoint/sigpoint/IntIndex", name := "<init>", desc := "()V" } : Jvm.MethodName) prog_63_method_1_code (1 : Nat) (Option.none : Option Jvm.ClassFile.FieldType)).before args0 about1 = true := code_word (m := ⟨2, 0⟩) (meth := k2m0) (c := k2c0) (by decide +kernel) rfl rfl rfl (by decide +kernel)
set_option maxRecDepth 65536 in
theorem w_c2 : (Jvm.Cond.code ({ cls := "java/lang/Object", name := "<init>", desc := "()V" } : Jvm.MethodName) object_method_1_code (1 : Nat) (Option.none : Option Jvm.ClassFile.FieldType)).before args0 about1 = true := code_word (m := ⟨0, 0⟩) (meth := k0m0) (c := k0c0) (by decide +kernel) rfl rfl rfl (by decide +kernel)
set_option maxRecDepth 65536 in
theorem w_c3 : (Jvm.Cond.code ({ cls := "com/example/sigpoint/sigpoint/IntIndex", name := "put", desc := "(II)V" } : Jvm.MethodName) prog_63_method_4_code (4 : Nat) (Option.none : Option Jvm.ClassFile.FieldType)).before args0 about1 = true := code_word (m := ⟨2, 2⟩) (meth := k2m2) (c := k2c2) (by decide +kernel) rfl rfl rfl (by decide +kernel)
set_option maxRecDepth 65536 in
theorem w_c4 : (Jvm.Cond.code ({ cls := "com/example/sigpoint/sigpoint/IntIndex", name := "home", desc := "(I)I" } : Jvm.MethodName) prog_63_method_6_code (3 : Nat) (Option.some Jvm.ClassFile.FieldType.int)).before args0 about1 = true := code_word (m := ⟨2, 4⟩) (meth := k2m4) (c := k2c4) (by decide +kernel) rfl rfl rfl (by decide +kernel)
set_option maxRecDepth 65536 in
theorem w_c5 : (Jvm.Cond.code ({ cls := "com/example/sigpoint/sigpoint/IntIndex", name := "remove", desc := "(I)V" } : Jvm.MethodName) prog_63_method_5_code (7 : Nat) (Option.none : Option Jvm.ClassFile.FieldType)).before args0 about1 = true := code_word (m := ⟨2, 3⟩) (meth := k2m3) (c := k2c3) (by decide +kernel) rfl rfl rfl (by decide +kernel)
set_option maxRecDepth 65536 in
theorem w_c6 : (Jvm.Cond.code ({ cls := "com/example/sigpoint/sigpoint/IntIndex", name := "next", desc := "(I)I" } : Jvm.MethodName) prog_63_method_7_code (2 : Nat) (Option.some Jvm.ClassFile.FieldType.int)).before args0 about1 = true := code_word (m := ⟨2, 5⟩) (meth := k2m5) (c := k2c5) (by decide +kernel) rfl rfl rfl (by decide +kernel)
set_option maxRecDepth 65536 in
theorem w_c7 : (Jvm.Cond.code ({ cls := "com/example/sigpoint/sigpoint/IntIndex", name := "get", desc := "(I)I" } : Jvm.MethodName) prog_63_method_2_code (3 : Nat) (Option.some Jvm.ClassFile.FieldType.int)).before args0 about1 = true := code_word (m := ⟨2, 1⟩) (meth := k2m1) (c := k2c1) (by decide +kernel) rfl rfl rfl (by decide +kernel)
set_option maxRecDepth 65536 in
theorem w_c8 : (Jvm.Cond.code ({ cls := "com/example/sigpoint/sigpoint/IntIndexRemovePinLaw", name := "expect", desc := "(IIIIII)I" } : Jvm.MethodName) method_3_code (6 : Nat) (Option.some Jvm.ClassFile.FieldType.int)).before args0 about1 = true := code_word (m := ⟨1, 2⟩) (meth := k1m2) (c := k1c2) (by decide +kernel) rfl rfl rfl (by decide +kernel)
def codes1 : List Jvm.Cond := [Jvm.Cond.code x code maxLocals ret, Jvm.Cond.code ({ cls := "com/example/sigpoint/sigpoint/IntIndex", name := "<init>", desc := "()V" } : Jvm.MethodName) prog_63_method_1_code (1 : Nat) (Option.none : Option Jvm.ClassFile.FieldType), Jvm.Cond.code ({ cls := "java/lang/Object", name := "<init>", desc := "()V" } : Jvm.MethodName) object_method_1_code (1 : Nat) (Option.none : Option Jvm.ClassFile.FieldType), Jvm.Cond.code ({ cls := "com/example/sigpoint/sigpoint/IntIndex", name := "put", desc := "(II)V" } : Jvm.MethodName) prog_63_method_4_code (4 : Nat) (Option.none : Option Jvm.ClassFile.FieldType), Jvm.Cond.code ({ cls := "com/example/sigpoint/sigpoint/IntIndex", name := "home", desc := "(I)I" } : Jvm.MethodName) prog_63_method_6_code (3 : Nat) (Option.some Jvm.ClassFile.FieldType.int), Jvm.Cond.code ({ cls := "com/example/sigpoint/sigpoint/IntIndex", name := "remove", desc := "(I)V" } : Jvm.MethodName) prog_63_method_5_code (7 : Nat) (Option.none : Option Jvm.ClassFile.FieldType), Jvm.Cond.code ({ cls := "com/example/sigpoint/sigpoint/IntIndex", name := "next", desc := "(I)I" } : Jvm.MethodName) prog_63_method_7_code (2 : Nat) (Option.some Jvm.ClassFile.FieldType.int), Jvm.Cond.code ({ cls := "com/example/sigpoint/sigpoint/IntIndex", name := "get", desc := "(I)I" } : Jvm.MethodName) prog_63_method_2_code (3 : Nat) (Option.some Jvm.ClassFile.FieldType.int), Jvm.Cond.code ({ cls := "com/example/sigpoint/sigpoint/IntIndexRemovePinLaw", name := "expect", desc := "(IIIIII)I" } : Jvm.MethodName) method_3_code (6 : Nat) (Option.some Jvm.ClassFile.FieldType.int)]
set_option maxRecDepth 65536 in
theorem codes_eq : words1.filter isCode = codes1 := rfl
theorem w_codes : ∀ c ∈ words1.filter isCode, c.before args0 about1 = true := by
  rw [codes_eq]
  intro c hc
  simp only [codes1, List.mem_cons, List.not_mem_nil, or_false] at hc
  rcases hc with rfl | rfl | rfl | rfl | rfl | rfl | rfl | rfl | rfl
  · exact w_c0
  · exact w_c1
  · exact w_c2
  · exact w_c3
  · exact w_c4
  · exact w_c5
  · exact w_c6
  · exact w_c7
  · exact w_c8
set_option maxRecDepth 65536 in
theorem w_t1 : (words1.take 24).all (fun c => isCode c || c.before args0 about1) = true := by decide +kernel
set_option maxRecDepth 65536 in
theorem w_t2 : (words1.drop 24).all (fun c => isCode c || c.before args0 about1) = true := by decide +kernel
theorem w_tables : (allAtoms (Jvm.Cond.code x code maxLocals ret :: tables_1)).before args0 about1 = true := by
  rw [allAtoms_all]
  show words1.all (fun c => c.before args0 about1) = true
  refine all_split ?_ w_codes
  rw [← List.take_append_drop 24 words1, List.all_append, w_t1, w_t2]
  rfl
set_option maxRecDepth 65536 in
theorem w_case : (Jvm.Cond.and given_1 narrow_1).before args0 about1 = true := by decide +kernel
theorem w_applies : (headSpec (Jvm.Cond.code x code maxLocals ret :: tables_1) room_1).applies x e0.platform about1 = true :=
  (Spec.applies_iff w_frames).mpr ⟨w_running, w_runnable, w_alone, w_named, w_hears, w_ripe, w_room, w_tables⟩
theorem atStart : AtStart classFile x code maxLocals ret World_1 tables_1 room_1 Calls_1 rest_1 Pre_1 launch0 p0 e0 about1 theMethod args0 below0 :=
  ⟨lists_1, trivial, launch0.admits_env _ _ _, launch0.least_env, fairChoices_fair.cas, fairChoices_fair.clock, w_frames, w_args, w_heap, w_applies, trivial, trivial, w_case⟩
end start1
theorem witness_1 : WitnessClaimed_1 := ⟨start1.p0, start1.e0, start1.about1, start1.theMethod, start1.args0, start1.below0, start1.atStart⟩
end Jvm.Pilot.@@N@@
