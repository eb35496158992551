import JvmDerived
import JvmDerived.Pilot.@@N@@Statement
import JvmDerived.Pilot.@@N@@Code
set_option linter.unusedVariables false
set_option linter.unusedSimpArgs false
namespace Jvm.RoadKit
open Sem ClassFile Op Lib Jvm.Stand Jvm.Free Jvm.LawKit
section Own
variable {p : Program} {l : Launch} {e : Env} {R : Room} {s : State} {m : MethodId} {args : Array Value} {below : List Frame} {meth : Method} {c : Code} {T : State} {locs : List Loc} {cells slots : Nat} {Z : State} {h h' : Heap} {a b : Addr}
/-- from the state U the method runs to its end, and what it leaves is as G says -/
def own_Go (p : Program) (e : Env) (below : List Frame) (G : Outcome → State → Prop) (U : State) : Prop := ∃ s₂ o, Steps p.tables e below U s₂ ∧ s₂.status = .running ∧ Ended s₂ below o ∧ G o s₂
def own_G (s : State) (Q : Option Value → Heap → List Loc → Prop) (C N : Nat) : Outcome → State → Prop := fun o U' => ∃ v L, o = .returned v ∧ Q v U'.heap L ∧ FrameEnd s o U' L C N
theorem own_st {G : Outcome → State → Prop} {U V : State} (hs : ∀ t, Steps p.tables e below V t → Steps p.tables e below U t) (k : own_Go p e below G V) : own_Go p e below G U := by
  obtain ⟨s₂, o, h1, h2⟩ := k
  exact ⟨s₂, o, hs _ h1, h2⟩
theorem own_retI (X : Stand p l e R s m args below meth c T locs cells slots) (hx : p.tables.exec = Jvm.exec) (hlocks : meth.locks = false) {pc : Nat} {Ls : Array Slot} {z : Int32} {rest : List Value} (hret : meth.sig.returnType = some .int) (hd : decode c.code pc = .ok (.ireturn, 1)) {Q : Option Value → Heap → List Loc → Prop} {C N : Nat}
    (hQ : Q (some (.int z)) T.heap locs) (hC : cells ≤ C) (hN : slots ≤ N) : own_Go p e below (own_G s Q C N) (T.setTop (mkF m pc Ls (.int z :: rest))) := by
  obtain ⟨fs, hr, hrun, hended, hW, hsame⟩ := X.leave (v := some (.int z)) (fun h => by rw [hret] at h; cases h)
  refine ⟨_, _, ?_, hrun, hended, _, _, rfl, hQ, ⟨_, rfl⟩, hW, hsame.mono hC hN⟩
  have hm' : T.vm.method? m = some meth := X.method'
  have hn : narrow .int (.int z) = .int z := rfl
  show Steps p.tables e below (T.setTop { method := m, pc := pc, locals := Ls, stack := _ :: rest, locked := none }) _
  jvm_step X.here [X.here.top, hx, hd, hm', hret, hn]
  first | (intro acts; rw [hr _ acts rfl rfl rfl]) | rw [hr _ _ rfl rfl rfl]
  exact Steps.refl _
theorem own_retN (X : Stand p l e R s m args below meth c T locs cells slots) (hx : p.tables.exec = Jvm.exec) (hlocks : meth.locks = false) {pc : Nat} {Ls : Array Slot} {z z' : Int32} {t : FieldType} {rest : List Value} (hret : meth.sig.returnType = some t) (ht : t = .boolean ∨ t = .byte ∨ t = .char ∨ t = .short) (hz : nar t z = z') (hd : decode c.code pc = .ok (.ireturn, 1)) {Q : Option Value → Heap → List Loc → Prop} {C N : Nat}
    (hQ : Q (some (.int z')) T.heap locs) (hC : cells ≤ C) (hN : slots ≤ N) : own_Go p e below (own_G s Q C N) (T.setTop (mkF m pc Ls (.int z :: rest))) := by
  subst hz
  obtain ⟨fs, hr, hrun, hended, hW, hsame⟩ := X.leave (v := some (.int (nar t z))) (fun h => by rw [hret] at h; cases h)
  exact ⟨_, _, retN X hx hret ht hd hr, hrun, hended, _, _, rfl, hQ, ⟨_, rfl⟩, hW, hsame.mono hC hN⟩
theorem own_retJ (X : Stand p l e R s m args below meth c T locs cells slots) (hx : p.tables.exec = Jvm.exec) (hlocks : meth.locks = false) {pc : Nat} {Ls : Array Slot} {z : Int64} (hret : meth.sig.returnType = some .long) (hd : decode c.code pc = .ok (.lreturn, 1)) {Q : Option Value → Heap → List Loc → Prop} {C N : Nat}
    (hQ : Q (some (.long z)) T.heap locs) (hC : cells ≤ C) (hN : slots ≤ N) : own_Go p e below (own_G s Q C N) (T.setTop (mkF m pc Ls [.long z])) := by
  obtain ⟨fs, hr, hrun, hended, hW, hsame⟩ := X.leave (v := some (.long z)) (fun h => by rw [hret] at h; cases h)
  exact ⟨_, _, X.lreturnOut hx hret hd hr, hrun, hended, _, _, rfl, hQ, ⟨_, rfl⟩, hW, hsame.mono hC hN⟩
theorem own_ret0 (X : Stand p l e R s m args below meth c T locs cells slots) (hx : p.tables.exec = Jvm.exec) (hlocks : meth.locks = false) {pc : Nat} {Ls : Array Slot} (hret : meth.sig.returnType = none) (hd : decode c.code pc = .ok (.return_, 1)) {Q : Option Value → Heap → List Loc → Prop} {C N : Nat}
    (hQ : Q none T.heap locs) (hC : cells ≤ C) (hN : slots ≤ N) : own_Go p e below (own_G s Q C N) (T.setTop (mkF m pc Ls [])) := by
  obtain ⟨fs, hr, hrun, hended, hW, hsame⟩ := X.leave (v := none) (fun _ => rfl)
  exact ⟨_, _, X.returnOut hx hret hd hr, hrun, hended, _, _, rfl, hQ, ⟨_, rfl⟩, hW, hsame.mono hC hN⟩
theorem own_z0 {i j : Nat} (q : i = 0) : i ≤ j := q ▸ Nat.zero_le j
/-! arrays of ints (or bytes), of longs: their length and their elements by a plain function -/
def own_Ai (Z : State) (h : Heap) (a : Addr) (ty : FieldType) (n : Nat) (f : Nat → Int32) : Prop := ∃ c : Cell, Arr Z h a c ty ∧ c.slots.size = n ∧ ∀ i, i < n → c.slots[i]? = some (.int (f i))
def own_Aj (Z : State) (h : Heap) (a : Addr) (ty : FieldType) (n : Nat) (f : Nat → Int64) : Prop := ∃ c : Cell, Arr Z h a c ty ∧ c.slots.size = n ∧ ∀ i, i < n → c.slots[i]? = some (.long (f i))
def own_up (f : Nat → Int32) (k : Nat) (x : Int32) : Nat → Int32 := fun i => if i = k then x else f i
def own_upJ (f : Nat → Int64) (k : Nat) (x : Int64) : Nat → Int64 := fun i => if i = k then x else f i
theorem own_up_at (f : Nat → Int32) (k : Nat) (x : Int32) (i : Nat) : own_up f k x i = if i = k then x else f i := rfl
theorem own_upJ_at (f : Nat → Int64) (k : Nat) (x : Int64) (i : Nat) : own_upJ f k x i = if i = k then x else f i := rfl
variable {ty : FieldType} {n : Nat} {f : Nat → Int32} {fj : Nat → Int64} {ws : List Addr} {sl : Nat} {v : Value}
theorem own_Ai.lt (F : own_Ai Z h a ty n f) : a < h.size := by obtain ⟨c, A, -⟩ := F; exact A.lt
theorem own_Aj.lt (F : own_Aj Z h a ty n fj) : a < h.size := by obtain ⟨c, A, -⟩ := F; exact A.lt
theorem own_Ai.ext (F : own_Ai Z h a ty n f) (E : Ext h h') : own_Ai Z h' a ty n f := by obtain ⟨c, A, r⟩ := F; exact ⟨c, A.ext E, r⟩
theorem own_Aj.ext (F : own_Aj Z h a ty n fj) (E : Ext h h') : own_Aj Z h' a ty n fj := by obtain ⟨c, A, r⟩ := F; exact ⟨c, A.ext E, r⟩
theorem own_Ai.other (F : own_Ai Z h b ty n f) (W : Wr h h' a sl v) (q : b ≠ a) : own_Ai Z h' b ty n f := by obtain ⟨c, A, r⟩ := F; exact ⟨c, A.other W q, r⟩
theorem own_Aj.other (F : own_Aj Z h b ty n fj) (W : Wr h h' a sl v) (q : b ≠ a) : own_Aj Z h' b ty n fj := by obtain ⟨c, A, r⟩ := F; exact ⟨c, A.other W q, r⟩
theorem own_Ai.keep (F : own_Ai Z h a ty n f) (K : Keep h h' ws) (q : a ∉ ws) : own_Ai Z h' a ty n f := by obtain ⟨c, A, r⟩ := F; exact ⟨c, ⟨K.2.1 a c A.1 q, A.2⟩, r⟩
theorem own_Aj.keep (F : own_Aj Z h a ty n fj) (K : Keep h h' ws) (q : a ∉ ws) : own_Aj Z h' a ty n fj := by obtain ⟨c, A, r⟩ := F; exact ⟨c, ⟨K.2.1 a c A.1 q, A.2⟩, r⟩
theorem own_Ai.neq {a0 : Array Value} {k : Nat} {C : String} (F : own_Ai Z h b ty n f) (E : Exa Z h a C) (wi : (Cond.instantiable C k).before a0 Z = true) : a ≠ b := by obtain ⟨c, A, -⟩ := F; exact ne_arr E wi A
theorem own_Aj.neq {a0 : Array Value} {k : Nat} {C : String} (F : own_Aj Z h b ty n fj) (E : Exa Z h a C) (wi : (Cond.instantiable C k).before a0 Z = true) : a ≠ b := by obtain ⟨c, A, -⟩ := F; exact ne_arr E wi A
theorem own_nat {j : Int32} {k : Nat} (hj : j.toInt = k) : j.toNatClampNeg = k := by simp only [Int32.toNatClampNeg, hj]; rfl
theorem own_in {j : Int32} {k n : Nat} (hj : j.toInt = k) (hk : k < n) : ¬ (j < 0 ∨ n ≤ j.toNatClampNeg) := by
  rw [own_nat hj, Int32.lt_iff_toInt_lt, hj, show (0 : Int32).toInt = 0 from rfl]; omega
theorem own_len {z : Int32} (hz : z.toInt = n) : n.toInt32 = z := by
  have := Int32.toInt_lt z
  exact Int32.toInt_inj.mp (by rw [Int32.toInt_ofNat_small (by omega), hz])
theorem own_iaload (X : Stand p l e R s m args below meth c T locs cells slots) (hx : p.tables.exec = Jvm.exec) (hZ : Z.Warmed39 s.vm) (eT : T.heap = h) (A : own_Ai Z h a .int n f) {j : Int32} {k : Nat} (hj : j.toInt = k) (hk : k < n) {g : JFrame} (hg : g.method = m) {rest : List Value} (hs : g.stack = .int j :: .ref a :: rest) (hd : decode c.code g.pc = .ok (.iaload, 1)) {target : State}
    (hr : Steps p.tables e below (T.setTop { g with pc := g.pc + 1, stack := .int (f k) :: rest }) target) : Steps p.tables e below (T.setTop g) target := by
  obtain ⟨cl, A, S, H⟩ := A
  exact X.iaload hx (j := j) (v := .int (f k)) (by rw [eT]; exact A.1) (State.isArrayOf_alike hZ.alike A.2.1) A.2.2 (by rw [S]; exact own_in hj hk) (by rw [own_nat hj]; exact H k hk) hg hs hd _ hr
theorem own_baload (X : Stand p l e R s m args below meth c T locs cells slots) (hx : p.tables.exec = Jvm.exec) (hZ : Z.Warmed39 s.vm) (eT : T.heap = h) (A : own_Ai Z h a .byte n f) {j : Int32} {k : Nat} (hj : j.toInt = k) (hk : k < n) {g : JFrame} (hg : g.method = m) {rest : List Value} (hs : g.stack = .int j :: .ref a :: rest) (hd : decode c.code g.pc = .ok (.baload, 1)) {target : State}
    (hr : Steps p.tables e below (T.setTop { g with pc := g.pc + 1, stack := .int (f k) :: rest }) target) : Steps p.tables e below (T.setTop g) target := by
  obtain ⟨cl, A, S, H⟩ := A
  exact X.baloadBytes hx (j := j) (v := .int (f k)) (by rw [eT]; exact A.1) (State.isArrayOf_alike hZ.alike A.2.1) A.2.2 (by rw [S]; exact own_in hj hk) (by rw [own_nat hj]; exact H k hk) hg hs hd _ hr
theorem own_laload (X : Stand p l e R s m args below meth c T locs cells slots) (hx : p.tables.exec = Jvm.exec) (hZ : Z.Warmed39 s.vm) (eT : T.heap = h) (A : own_Aj Z h a .long n fj) {j : Int32} {k : Nat} (hj : j.toInt = k) (hk : k < n) {g : JFrame} (hg : g.method = m) {rest : List Value} (hs : g.stack = .int j :: .ref a :: rest) (hd : decode c.code g.pc = .ok (.laload, 1)) {target : State}
    (hr : Steps p.tables e below (T.setTop { g with pc := g.pc + 1, stack := .long (fj k) :: rest }) target) : Steps p.tables e below (T.setTop g) target := by
  obtain ⟨cl, A, S, H⟩ := A
  exact X.laload hx (j := j) (v := .long (fj k)) (by rw [eT]; exact A.1) (State.isArrayOf_alike hZ.alike A.2.1) A.2.2 (by rw [S]; exact own_in hj hk) (by rw [own_nat hj]; exact H k hk) hg hs hd _ hr
theorem own_alen (X : Stand p l e R s m args below meth c T locs cells slots) (hx : p.tables.exec = Jvm.exec) (hZ : Z.Warmed39 s.vm) (eT : T.heap = h) (A : own_Ai Z h a ty n f) {z : Int32} (hz : z.toInt = n) {g : JFrame} (hg : g.method = m) {rest : List Value} (hs : g.stack = .ref a :: rest) (hd : decode c.code g.pc = .ok (.arraylength, 1)) {target : State}
    (hr : Steps p.tables e below (T.setTop { g with pc := g.pc + 1, stack := .int z :: rest }) target) : Steps p.tables e below (T.setTop g) target := by
  obtain ⟨cl, A, S, H⟩ := A
  refine X.arraylength hx (by rw [eT]; exact A.1) (State.isArrayOf_alike hZ.alike A.2.1) hg hs hd _ ?_
  rw [S, own_len hz]; exact hr
theorem own_Ai.set (F : own_Ai Z h a ty n f) {j : Nat} {x : Int32} (W : Wr h h' a j (.int x)) : own_Ai Z h' a ty n (own_up f j x) := by
  obtain ⟨cl, A, S, H⟩ := F
  refine ⟨_, A.same W, by rw [sz_set]; exact S, fun i hi => ?_⟩
  rw [own_up_at]
  by_cases q : i = j
  · subst q
    rw [if_pos rfl]
    simp [Cell.setSlot, S, hi]
  · rw [if_neg q, show (cl.setSlot j (.int x)).slots[i]? = cl.slots[i]? from Array.getElem?_setIfInBounds_ne (Ne.symm q)]
    exact H i hi
theorem own_Aj.set (F : own_Aj Z h a ty n fj) {j : Nat} {x : Int64} (W : Wr h h' a j (.long x)) : own_Aj Z h' a ty n (own_upJ fj j x) := by
  obtain ⟨cl, A, S, H⟩ := F
  refine ⟨_, A.same W, by rw [sz_set]; exact S, fun i hi => ?_⟩
  rw [own_upJ_at]
  by_cases q : i = j
  · subst q
    rw [if_pos rfl]
    simp [Cell.setSlot, S, hi]
  · rw [if_neg q, show (cl.setSlot j (.long x)).slots[i]? = cl.slots[i]? from Array.getElem?_setIfInBounds_ne (Ne.symm q)]
    exact H i hi
theorem own_iastore (X : Stand p l e R s m args below meth c T locs cells slots) (hx : p.tables.exec = Jvm.exec) (hZ : Z.Warmed39 s.vm) (eT : T.heap = h) (A : own_Ai Z h a .int n f) {j x : Int32} {k : Nat} (hj : j.toInt = k) (hk : k < n) {g : JFrame} (hg : g.method = m) {rest : List Value} (hs : g.stack = .int x :: .int j :: .ref a :: rest) (hd : decode c.code g.pc = .ok (.iastore, 1)) :
    ∃ T' h', Stand p l e R s m args below meth c T' (locs ++ [⟨a, k⟩]) cells slots ∧ T'.heap = h' ∧ Wr h h' a k (.int x) ∧ own_Ai Z h' a .int n (own_up f k x) ∧ ∀ target, Steps p.tables e below (T'.setTop { g with pc := g.pc + 1, stack := rest }) target → Steps p.tables e below (T.setTop g) target := by
  obtain ⟨cl, B, S, H⟩ := id A
  obtain ⟨T', h', X', e', W, st⟩ := stI X hx hZ eT B (j := j) (x := x) (by rw [S]; exact own_in hj hk) hg hs hd
  rw [own_nat hj] at X' W
  exact ⟨T', h', X', e', W, A.set W, st⟩
theorem own_bastore (X : Stand p l e R s m args below meth c T locs cells slots) (hx : p.tables.exec = Jvm.exec) (hZ : Z.Warmed39 s.vm) (eT : T.heap = h) (A : own_Ai Z h a .byte n f) {j x : Int32} {k : Nat} (hj : j.toInt = k) (hk : k < n) {g : JFrame} (hg : g.method = m) {rest : List Value} (hs : g.stack = .int x :: .int j :: .ref a :: rest) (hd : decode c.code g.pc = .ok (.bastore, 1)) :
    ∃ T' h', Stand p l e R s m args below meth c T' (locs ++ [⟨a, k⟩]) cells slots ∧ T'.heap = h' ∧ Wr h h' a k (.int x.toInt8.toInt32) ∧ own_Ai Z h' a .byte n (own_up f k x.toInt8.toInt32) ∧ ∀ target, Steps p.tables e below (T'.setTop { g with pc := g.pc + 1, stack := rest }) target → Steps p.tables e below (T.setTop g) target := by
  obtain ⟨cl, B, S, H⟩ := id A
  obtain ⟨T', h', X', e', W, st⟩ := stB X hx hZ eT B (j := j) (x := x) (by rw [S]; exact own_in hj hk) hg hs hd
  rw [own_nat hj] at X' W
  exact ⟨T', h', X', e', W, A.set W, st⟩
theorem own_lastore (X : Stand p l e R s m args below meth c T locs cells slots) (hx : p.tables.exec = Jvm.exec) (hZ : Z.Warmed39 s.vm) (eT : T.heap = h) (A : own_Aj Z h a .long n fj) {j : Int32} {x : Int64} {k : Nat} (hj : j.toInt = k) (hk : k < n) {g : JFrame} (hg : g.method = m) {rest : List Value} (hs : g.stack = .long x :: .int j :: .ref a :: rest) (hd : decode c.code g.pc = .ok (.lastore, 1)) :
    ∃ T' h', Stand p l e R s m args below meth c T' (locs ++ [⟨a, k⟩]) cells slots ∧ T'.heap = h' ∧ Wr h h' a k (.long x) ∧ own_Aj Z h' a .long n (own_upJ fj k x) ∧ ∀ target, Steps p.tables e below (T'.setTop { g with pc := g.pc + 1, stack := rest }) target → Steps p.tables e below (T.setTop g) target := by
  obtain ⟨cl, B, S, H⟩ := id A
  obtain ⟨T', h', X', e', W, st⟩ := stJ X hx hZ eT B (j := j) (x := x) (by rw [S]; exact own_in hj hk) hg hs hd
  rw [own_nat hj] at X' W
  exact ⟨T', h', X', e', W, A.set W, st⟩
theorem own_newarr (X : Stand p l e R s m args below meth c T locs cells slots) (hx : p.tables.exec = Jvm.exec) (hZ : Z.Warmed39 s.vm) {a0 : Array Value} {aty : ArrayType} (w : (Cond.arrayClass (newarray.typeOf aty)).before a0 Z = true) (eT : T.heap = h) {g : JFrame} (hg : g.method = m) (hd : decode c.code g.pc = .ok (.newarray aty, 2)) {z : Int32} {rest : List Value} (hs : g.stack = .int z :: rest) {k : Nat}
    (hz : z.toInt = k) {cap : Nat} (hcap : k ≤ cap) (hb : cap * 8 ≤ 536870912) (hc : cells + 1 ≤ R.cells) (hl : slots + cap ≤ R.slots) :
    ∃ T' h' cl, Stand p l e R s m args below meth c T' locs (cells + 1) (slots + cap) ∧ T'.heap = h' ∧ Ext h h' ∧ (Arr Z h' h.size cl (newarray.typeOf aty) ∧ cl.slots = Array.replicate k (defaultValue (newarray.typeOf aty))) ∧
      ∀ target, Steps p.tables e below (T'.setTop { g with pc := g.pc + 2, stack := .ref h.size :: rest }) target → Steps p.tables e below (T.setTop g) target := by
  have hn : ¬ z < 0 := by rw [Int32.lt_iff_toInt_lt, hz, show (0 : Int32).toInt = 0 from rfl]; omega
  obtain ⟨T', h', cA, X', e', E, A, st⟩ := newP X hx hZ w eT hg hd hs hn (by rw [own_nat hz]; exact hcap) hb hc hl
  exact ⟨T', h', _, X', e', E, ⟨A, by simp [newA, own_nat hz]⟩, st⟩
theorem own_Ai.new {cl : Cell} {k : Nat} (A : Arr Z h a cl ty ∧ cl.slots = Array.replicate k (.int 0)) : own_Ai Z h a ty k (fun _ => 0) :=
  ⟨cl, A.1, by rw [A.2]; simp, fun i hi => by rw [A.2]; simp [hi]⟩
theorem own_Aj.new {cl : Cell} {k : Nat} (A : Arr Z h a cl ty ∧ cl.slots = Array.replicate k (.long 0)) : own_Aj Z h a ty k (fun _ => 0) :=
  ⟨cl, A.1, by rw [A.2]; simp, fun i hi => by rw [A.2]; simp [hi]⟩
theorem own_l_lt (x y : Int64) {b : Bool} (h : if_icmp.holds .lt (lcmpW x y) 0 = b) : ifCond.holds .lt (lcmpW x y) = b := (if0 _ _).trans h
end Own
end Jvm.RoadKit
namespace Jvm.Pilot.@@N@@
open Jvm Jvm.ClassFile Sem Op Lib Jvm.Free Jvm.Stand Jvm.LawKit Jvm.RoadKit Bundle Jvm.Pilot.@@N@@.Jvm.D
theorem own_m3 (p : Int32) : (p &&& 2147483647) % 3 = 0 ∨ (p &&& 2147483647) % 3 = 1 ∨ (p &&& 2147483647) % 3 = 2 := by
  have h1 := c_mask p 2147483647 31 (by decide) (by decide)
  have h2 := (c_irem (p &&& 2147483647) 3 3 (by decide)).1 (by rw [h1]; omega)
  have e : ∀ k : Int32, ((p &&& 2147483647) % 3).toInt = k.toInt → (p &&& 2147483647) % 3 = k := fun k q => Int32.toInt_inj.mp q
  have h3 : (p &&& 2147483647).toInt % 3 = 0 ∨ (p &&& 2147483647).toInt % 3 = 1 ∨ (p &&& 2147483647).toInt % 3 = 2 := by omega
  rcases h3 with q | q | q
  · exact Or.inl (e 0 (by rw [h2, q]; rfl))
  · exact Or.inr (Or.inl (e 1 (by rw [h2, q]; rfl)))
  · exact Or.inr (Or.inr (e 2 (by rw [h2, q]; rfl)))
def own_nz (v : Int32) : Int32 := if v = 0 then 0 else 1
theorem own_cnt0 (a b c d : Int32) (hd : d ≠ 0) : own_nz a + own_nz b + own_nz c + (if a = 0 then 1 else 0) = own_nz d + own_nz b + own_nz c := by
  unfold own_nz; rw [if_neg hd]; by_cases h1 : a = 0 <;> by_cases h2 : b = 0 <;> by_cases h3 : c = 0 <;> simp [h1, h2, h3]
theorem own_cnt1 (a b c d : Int32) (hd : d ≠ 0) : own_nz a + own_nz b + own_nz c + (if b = 0 then 1 else 0) = own_nz a + own_nz d + own_nz c := by
  unfold own_nz; rw [if_neg hd]; by_cases h1 : a = 0 <;> by_cases h2 : b = 0 <;> by_cases h3 : c = 0 <;> simp [h1, h2, h3]
theorem own_cnt2 (a b c d : Int32) (hd : d ≠ 0) : own_nz a + own_nz b + own_nz c + (if c = 0 then 1 else 0) = own_nz a + own_nz b + own_nz d := by
  unfold own_nz; rw [if_neg hd]; by_cases h1 : a = 0 <;> by_cases h2 : b = 0 <;> by_cases h3 : c = 0 <;> simp [h1, h2, h3]
theorem d2_0 : decode prog_29_method_1_code 0 = .ok (.aload_n 0, 1) := by decide +kernel
theorem d2_1 : decode prog_29_method_1_code 1 = .ok (.invokespecial 1, 3) := by decide +kernel
theorem d2_4 : decode prog_29_method_1_code 4 = .ok (.aload_n 0, 1) := by decide +kernel
theorem d2_5 : decode prog_29_method_1_code 5 = .ok (.aload_n 1, 1) := by decide +kernel
theorem d2_6 : decode prog_29_method_1_code 6 = .ok (.putfield 7, 3) := by decide +kernel
theorem d2_9 : decode prog_29_method_1_code 9 = .ok (.aload_n 0, 1) := by decide +kernel
theorem d2_10 : decode prog_29_method_1_code 10 = .ok (.aload_n 2, 1) := by decide +kernel
theorem d2_11 : decode prog_29_method_1_code 11 = .ok (.putfield 13, 3) := by decide +kernel
theorem d2_14 : decode prog_29_method_1_code 14 = .ok (.aload_n 0, 1) := by decide +kernel
theorem d2_15 : decode prog_29_method_1_code 15 = .ok (.iload_n 3, 1) := by decide +kernel
theorem d2_16 : decode prog_29_method_1_code 16 = .ok (.putfield 16, 3) := by decide +kernel
theorem d2_19 : decode prog_29_method_1_code 19 = .ok (.return_, 1) := by decide +kernel
theorem pn_2 : plainName "com/example/chainwright/chainwright/State" = true := by first | (simp [plainName, overriddenIn]; done) | decide +kernel
theorem ef_2 (m : MethodId) (x0 : Addr) (x1 : Addr) (x2 : Addr) (x3 : Int32) : entryFrame m #[(.ref x0), (.ref x1), (.ref x2), (.int x3)] 4 = mkF m 0 #[.val (.ref x0), .val (.ref x1), .val (.ref x2), .val (.int x3)] [] := by first | (simp [entryFrame, mkF, argsToLocals, Value.category]; done) | rfl
def Q2 (Z : State) (ob : Addr) (dl : Addr) (fl : Addr) (sz : Int32) (h0 : Heap) (n0 : Nat) (v : Option Value) (h : Heap) (L : List Loc) : Prop := v = none ∧ Fr n0 L ∧ Keep h0 h [ob] ∧ (Exa Z h ob "com/example/chainwright/chainwright/State") ∧ (Fld Z h ob "com/example/chainwright/chainwright/State" "deadlines" "[I" (.ref dl)) ∧ (Fld Z h ob "com/example/chainwright/chainwright/State" "floors" "[I" (.ref fl)) ∧ (Fld Z h ob "com/example/chainwright/chainwright/State" "size" "I" (.int sz))
set_option maxRecDepth 65536 in
set_option maxHeartbeats 40000000 in
theorem rm2 (l : Launch) (Z : State) (a0 : Array Value) (hw : ∀ d ∈ tables_1, d.before a0 Z = true) (ws : List Jvm.Cond) (ob : Addr) (dl : Addr) (fl : Addr) (sz : Int32) (h0 : Heap) (n0 : Nat) (Z0 : n0 ≤ h0.size) (E1 : Exa Z h0 ob "com/example/chainwright/chainwright/State") (F1 : Fld Z h0 ob "com/example/chainwright/chainwright/State" "deadlines" "[I" .null) (F2 : Fld Z h0 ob "com/example/chainwright/chainwright/State" "floors" "[I" .null) (F3 : Fld Z h0 ob "com/example/chainwright/chainwright/State" "size" "I" (.int (0 : Int32))) (G1 : n0 ≤ ob) :
    MetFree l (⟨"com/example/chainwright/chainwright/State", "<init>", "([I[II)V"⟩ : MethodName) (head1 (Jvm.Cond.code (⟨"com/example/chainwright/chainwright/State", "<init>", "([I[II)V"⟩ : MethodName) prog_29_method_1_code 4 none :: ws) ({ frames := 1, cells := 0, slots := 0, locals := 12 } : Room)) (fun a U => a = #[(.ref ob), (.ref dl), (.ref fl), (.int sz)] ∧ Z.Warmed39 U.vm ∧ U.heap = h0) (fun _ _ _ _ _ => True) (fun _ U o U' => ∃ v L, o = .returned v ∧ Q2 Z ob dl fl sz h0 n0 v U'.heap L ∧ FrameEnd U o U' L ({ frames := 1, cells := 0, slots := 0, locals := 12 } : Room).cells ({ frames := 1, cells := 0, slots := 0, locals := 12 } : Room).slots) := by
  refine MetFree.of_bodySF (plainFor_of_name pn_2) hisR ?_
  intro p e s m args below meth c s₁ Bd hml0 hP hK
  obtain ⟨rfl, hZ, hh⟩ := hP
  have hx := Bd.exec
  have hby := Bd.bytes
  have hlk : meth.locks = false := BodyLoose.notSynchronized Bd
  have hml : c.maxLocals = 4 := hml0
  have hown : s.vm.findClass "com/example/chainwright/chainwright/State" = some m.cls := findClass_of_methodNamed Bd.named
  have hnm := (name_of_methodNamed Bd.named Bd.method).1
  have X0 : Stand p l e ({ frames := 1, cells := 0, slots := 0, locals := 12 } : Room) s m #[(.ref ob), (.ref dl), (.ref fl), (.int sz)] below meth c s₁ [] 0 0 := Stand.of_body Bd
  have e0 : s₁.heap = h0 := by rw [← hh, Bd.state]; rfl
  have N0 := Fr.nil n0
  have K0 : Keep h0 h0 [ob] := Keep.refl _ _
  show own_Go p e below (own_G s (Q2 Z ob dl fl sz h0 n0) ({ frames := 1, cells := 0, slots := 0, locals := 12 } : Room).cells ({ frames := 1, cells := 0, slots := 0, locals := 12 } : Room).slots) (s₁.setTop (entryFrame m #[(.ref ob), (.ref dl), (.ref fl), (.int sz)] 4))
  refine own_st (fun tgt k => castTop (ef_2 m ob dl fl sz) k) ?_
  show own_Go p e below _ (s₁.setTop (mkF m 0 #[.val (.ref ob), .val (.ref dl), .val (.ref fl), .val (.int sz)] []))
  refine own_st (V := s₁.setTop (mkF m 1 #[.val (.ref ob), .val (.ref dl), .val (.ref fl), .val (.int sz)] [(.ref ob)])) (fun tgt k => ?_) ?_
  · show Steps p.tables e below (s₁.setTop (mkF m 0 #[.val (.ref ob), .val (.ref dl), .val (.ref fl), .val (.int sz)] [])) tgt
    refine XS.aloadN X0.here hx rfl (hb hby d2_0) rfl rfl ?_
    exact k
  obtain ⟨T1, X1, e1, st1⟩ := initO X0 hx hZ hown (hw _ (List.mem_of_getElem? (i := 12) rfl)) (hw _ (List.mem_of_getElem? (i := 13) rfl)) (hw _ (List.mem_of_getElem? (i := 14) rfl)) e0 (g := (mkF m 1 #[.val (.ref ob), .val (.ref dl), .val (.ref fl), .val (.int sz)] [(.ref ob)])) rfl (by rw [hml]; rfl) rfl (hb hby d2_1) (by decide) (W := 0) (by show 2 * 0 + _ ≤ _; exact Nat.le_of_eq rfl) (by decide)
  refine own_st st1 ?_
  show own_Go p e below _ (T1.setTop (mkF m 4 #[.val (.ref ob), .val (.ref dl), .val (.ref fl), .val (.int sz)] []))
  refine own_st (V := T1.setTop (mkF m 6 #[.val (.ref ob), .val (.ref dl), .val (.ref fl), .val (.int sz)] [(.ref dl), (.ref ob)])) (fun tgt k => ?_) ?_
  · show Steps p.tables e below (T1.setTop (mkF m 4 #[.val (.ref ob), .val (.ref dl), .val (.ref fl), .val (.int sz)] [])) tgt
    refine XS.aloadN X1.here hx rfl (hb hby d2_4) rfl rfl ?_
    show Steps p.tables e below (T1.setTop (mkF m 5 #[.val (.ref ob), .val (.ref dl), .val (.ref fl), .val (.int sz)] [(.ref ob)])) tgt
    refine XS.aloadN X1.here hx rfl (hb hby d2_5) rfl rfl ?_
    exact k
  obtain ⟨T2, h2, X2, e2, W2, st2⟩ := putF X1 hx hZ hown (host := "") (Or.inl (hw _ (List.mem_of_getElem? (i := 15) rfl))) Via.refl e1 F1 E1 (Or.inr ⟨(hw _ (List.mem_of_getElem? (i := 16) rfl)), rfl, hnm⟩) (hw _ (List.mem_of_getElem? (i := 7) rfl)) (ty := (.array .int)) (by decide) rfl rfl (g := (mkF m 6 #[.val (.ref ob), .val (.ref dl), .val (.ref fl), .val (.int sz)] [(.ref dl), (.ref ob)])) rfl rfl (hb hby d2_6)
  have E_ob_2 := E1.wr W2
  have F_ob_floors_2 := Fld.other W2 F2 (Or.inr (slot_ne (Or.inr (hw _ (List.mem_of_getElem? (i := 18) rfl))) (Or.inr (hw _ (List.mem_of_getElem? (i := 16) rfl))) (by decide) (t := (.array .int)) (t' := (.array .int)) (by decide) (by decide)))
  have F_ob_size_2 := Fld.other W2 F3 (Or.inr (slot_ne (Or.inl (hw _ (List.mem_of_getElem? (i := 20) rfl))) (Or.inr (hw _ (List.mem_of_getElem? (i := 16) rfl))) (by decide) (t := .int) (t' := (.array .int)) (by decide) (by decide)))
  have F_ob_deadlines_2 := Fld.same W2 F1
  have N2 := Fr.snoc X2 N0 G1
  have Zs2 : n0 ≤ h2.size := Nat.le_trans Z0 (Keep.of_wr W2).1
  have Kp2 := K0.wr W2 (Or.inl (List.mem_of_getElem? (i := 0) rfl))
  refine own_st st2 ?_
  show own_Go p e below _ (T2.setTop (mkF m 9 #[.val (.ref ob), .val (.ref dl), .val (.ref fl), .val (.int sz)] []))
  refine own_st (V := T2.setTop (mkF m 11 #[.val (.ref ob), .val (.ref dl), .val (.ref fl), .val (.int sz)] [(.ref fl), (.ref ob)])) (fun tgt k => ?_) ?_
  · show Steps p.tables e below (T2.setTop (mkF m 9 #[.val (.ref ob), .val (.ref dl), .val (.ref fl), .val (.int sz)] [])) tgt
    refine XS.aloadN X2.here hx rfl (hb hby d2_9) rfl rfl ?_
    show Steps p.tables e below (T2.setTop (mkF m 10 #[.val (.ref ob), .val (.ref dl), .val (.ref fl), .val (.int sz)] [(.ref ob)])) tgt
    refine XS.aloadN X2.here hx rfl (hb hby d2_10) rfl rfl ?_
    exact k
  obtain ⟨T3, h3, X3, e3, W3, st3⟩ := putF X2 hx hZ hown (host := "") (Or.inl (hw _ (List.mem_of_getElem? (i := 17) rfl))) Via.refl e2 F_ob_floors_2 E_ob_2 (Or.inr ⟨(hw _ (List.mem_of_getElem? (i := 18) rfl)), rfl, hnm⟩) (hw _ (List.mem_of_getElem? (i := 7) rfl)) (ty := (.array .int)) (by decide) rfl rfl (g := (mkF m 11 #[.val (.ref ob), .val (.ref dl), .val (.ref fl), .val (.int sz)] [(.ref fl), (.ref ob)])) rfl rfl (hb hby d2_11)
  have E_ob_3 := E_ob_2.wr W3
  have F_ob_deadlines_3 := Fld.other W3 F_ob_deadlines_2 (Or.inr (slot_ne (Or.inr (hw _ (List.mem_of_getElem? (i := 16) rfl))) (Or.inr (hw _ (List.mem_of_getElem? (i := 18) rfl))) (by decide) (t := (.array .int)) (t' := (.array .int)) (by decide) (by decide)))
  have F_ob_size_3 := Fld.other W3 F_ob_size_2 (Or.inr (slot_ne (Or.inl (hw _ (List.mem_of_getElem? (i := 20) rfl))) (Or.inr (hw _ (List.mem_of_getElem? (i := 18) rfl))) (by decide) (t := .int) (t' := (.array .int)) (by decide) (by decide)))
  have F_ob_floors_3 := Fld.same W3 F_ob_floors_2
  have N3 := Fr.snoc X3 N2 G1
  have Zs3 : n0 ≤ h3.size := Nat.le_trans Zs2 (Keep.of_wr W3).1
  have Kp3 := Kp2.wr W3 (Or.inl (List.mem_of_getElem? (i := 0) rfl))
  refine own_st st3 ?_
  show own_Go p e below _ (T3.setTop (mkF m 14 #[.val (.ref ob), .val (.ref dl), .val (.ref fl), .val (.int sz)] []))
  refine own_st (V := T3.setTop (mkF m 16 #[.val (.ref ob), .val (.ref dl), .val (.ref fl), .val (.int sz)] [(.int sz), (.ref ob)])) (fun tgt k => ?_) ?_
  · show Steps p.tables e below (T3.setTop (mkF m 14 #[.val (.ref ob), .val (.ref dl), .val (.ref fl), .val (.int sz)] [])) tgt
    refine XS.aloadN X3.here hx rfl (hb hby d2_14) rfl rfl ?_
    show Steps p.tables e below (T3.setTop (mkF m 15 #[.val (.ref ob), .val (.ref dl), .val (.ref fl), .val (.int sz)] [(.ref ob)])) tgt
    refine XS.iloadN X3.here hx rfl (hb hby d2_15) rfl ?_
    exact k
  obtain ⟨T4, h4, X4, e4, W4, st4⟩ := putF X3 hx hZ hown (host := "") (Or.inl (hw _ (List.mem_of_getElem? (i := 19) rfl))) Via.refl e3 F_ob_size_3 E_ob_3 (Or.inl (hw _ (List.mem_of_getElem? (i := 20) rfl))) (hw _ (List.mem_of_getElem? (i := 7) rfl)) (ty := .int) (by decide) rfl rfl (g := (mkF m 16 #[.val (.ref ob), .val (.ref dl), .val (.ref fl), .val (.int sz)] [(.int sz), (.ref ob)])) rfl rfl (hb hby d2_16)
  have E_ob_4 := E_ob_3.wr W4
  have F_ob_deadlines_4 := Fld.other W4 F_ob_deadlines_3 (Or.inr (slot_ne (Or.inr (hw _ (List.mem_of_getElem? (i := 16) rfl))) (Or.inl (hw _ (List.mem_of_getElem? (i := 20) rfl))) (by decide) (t := (.array .int)) (t' := .int) (by decide) (by decide)))
  have F_ob_floors_4 := Fld.other W4 F_ob_floors_3 (Or.inr (slot_ne (Or.inr (hw _ (List.mem_of_getElem? (i := 18) rfl))) (Or.inl (hw _ (List.mem_of_getElem? (i := 20) rfl))) (by decide) (t := (.array .int)) (t' := .int) (by decide) (by decide)))
  have F_ob_size_4 := Fld.same W4 F_ob_size_3
  have N4 := Fr.snoc X4 N3 G1
  have Zs4 : n0 ≤ h4.size := Nat.le_trans Zs3 (Keep.of_wr W4).1
  have Kp4 := Kp3.wr W4 (Or.inl (List.mem_of_getElem? (i := 0) rfl))
  refine own_st st4 ?_
  show own_Go p e below _ (T4.setTop (mkF m 19 #[.val (.ref ob), .val (.ref dl), .val (.ref fl), .val (.int sz)] []))
  refine own_ret0 X4 hx hlk Bd.returns (hb hby d2_19) ?_ (by decide) (by decide)
  show Q2 Z ob dl fl sz h0 n0 none T4.heap _
  rw [e4]
  exact ⟨rfl, N4, Kp4, E_ob_4, F_ob_deadlines_4, F_ob_floors_4, F_ob_size_4⟩
theorem d5_0 : decode prog_29_method_5_code 0 = .ok (.aload_n 0, 1) := by decide +kernel
theorem d5_1 : decode prog_29_method_5_code 1 = .ok (.getfield 7, 3) := by decide +kernel
theorem d5_4 : decode prog_29_method_5_code 4 = .ok (.iload_n 1, 1) := by decide +kernel
theorem d5_5 : decode prog_29_method_5_code 5 = .ok (.iaload, 1) := by decide +kernel
theorem d5_6 : decode prog_29_method_5_code 6 = .ok (.ifCond .eq 7, 3) := by decide +kernel
theorem d5_9 : decode prog_29_method_5_code 9 = .ok (.iconst 1, 1) := by decide +kernel
theorem d5_10 : decode prog_29_method_5_code 10 = .ok (.goto 4, 3) := by decide +kernel
theorem d5_13 : decode prog_29_method_5_code 13 = .ok (.iconst 0, 1) := by decide +kernel
theorem d5_14 : decode prog_29_method_5_code 14 = .ok (.ireturn, 1) := by decide +kernel
theorem pn_5 : plainName "com/example/chainwright/chainwright/State" = true := by first | (simp [plainName, overriddenIn]; done) | decide +kernel
theorem ef_5 (m : MethodId) (x0 : Addr) (x1 : Int32) : entryFrame m #[(.ref x0), (.int x1)] 2 = mkF m 0 #[.val (.ref x0), .val (.int x1)] [] := by first | (simp [entryFrame, mkF, argsToLocals, Value.category]; done) | rfl
def Q5 (Z : State) (ob : Addr) (ii : Int32) (dl : Addr) (nn : Nat) (ff : Nat → Int32) (kk : Nat) (h0 : Heap) (n0 : Nat) (v : Option Value) (h : Heap) (L : List Loc) : Prop := v = some (.int (if ff kk = 0 then (0 : Int32) else (1 : Int32))) ∧ Fr n0 L ∧ h = h0
set_option maxRecDepth 65536 in
set_option maxHeartbeats 40000000 in
theorem rm5 (l : Launch) (Z : State) (a0 : Array Value) (hw : ∀ d ∈ tables_1, d.before a0 Z = true) (ws : List Jvm.Cond) (ob : Addr) (ii : Int32) (dl : Addr) (nn : Nat) (ff : Nat → Int32) (kk : Nat) (h0 : Heap) (n0 : Nat) (Z0 : n0 ≤ h0.size) (F1 : Fld Z h0 ob "com/example/chainwright/chainwright/State" "deadlines" "[I" (.ref dl)) (A1 : own_Ai Z h0 dl .int nn ff) (I1 : ii.toInt = (kk : Int)) (I2 : kk < nn) :
    MetFree l (⟨"com/example/chainwright/chainwright/State", "isChosen", "(I)Z"⟩ : MethodName) (head1 (Jvm.Cond.code (⟨"com/example/chainwright/chainwright/State", "isChosen", "(I)Z"⟩ : MethodName) prog_29_method_5_code 2 (some .boolean) :: ws) ({ frames := 0, cells := 0, slots := 0, locals := 0 } : Room)) (fun a U => a = #[(.ref ob), (.int ii)] ∧ Z.Warmed39 U.vm ∧ U.heap = h0) (fun _ _ _ _ _ => True) (fun _ U o U' => ∃ v L, o = .returned v ∧ Q5 Z ob ii dl nn ff kk h0 n0 v U'.heap L ∧ FrameEnd U o U' L ({ frames := 0, cells := 0, slots := 0, locals := 0 } : Room).cells ({ frames := 0, cells := 0, slots := 0, locals := 0 } : Room).slots) := by
  refine MetFree.of_bodySF (plainFor_of_name pn_5) hisR ?_
  intro p e s m args below meth c s₁ Bd hml0 hP hK
  obtain ⟨rfl, hZ, hh⟩ := hP
  have hx := Bd.exec
  have hby := Bd.bytes
  have hlk : meth.locks = false := BodyLoose.notSynchronized Bd
  have hml : c.maxLocals = 2 := hml0
  have hown : s.vm.findClass "com/example/chainwright/chainwright/State" = some m.cls := findClass_of_methodNamed Bd.named
  have hnm := (name_of_methodNamed Bd.named Bd.method).1
  have X0 : Stand p l e ({ frames := 0, cells := 0, slots := 0, locals := 0 } : Room) s m #[(.ref ob), (.int ii)] below meth c s₁ [] 0 0 := Stand.of_body Bd
  have e0 : s₁.heap = h0 := by rw [← hh, Bd.state]; rfl
  have N0 := Fr.nil n0
  show own_Go p e below (own_G s (Q5 Z ob ii dl nn ff kk h0 n0) ({ frames := 0, cells := 0, slots := 0, locals := 0 } : Room).cells ({ frames := 0, cells := 0, slots := 0, locals := 0 } : Room).slots) (s₁.setTop (entryFrame m #[(.ref ob), (.int ii)] 2))
  refine own_st (fun tgt k => castTop (ef_5 m ob ii) k) ?_
  show own_Go p e below _ (s₁.setTop (mkF m 0 #[.val (.ref ob), .val (.int ii)] []))
  refine own_st (V := s₁.setTop (mkF m 1 #[.val (.ref ob), .val (.int ii)] [(.ref ob)])) (fun tgt k => ?_) ?_
  · show Steps p.tables e below (s₁.setTop (mkF m 0 #[.val (.ref ob), .val (.int ii)] [])) tgt
    refine XS.aloadN X0.here hx rfl (hb hby d5_0) rfl rfl ?_
    exact k
  obtain ⟨T1, X1, e1, st1⟩ := getF X0 hx hZ hown (host := "") (Or.inl (hw _ (List.mem_of_getElem? (i := 15) rfl))) Via.refl e0 F1 (g := (mkF m 1 #[.val (.ref ob), .val (.int ii)] [(.ref ob)])) rfl rfl (hb hby d5_1)
  refine own_st st1 ?_
  show own_Go p e below _ (T1.setTop (mkF m 4 #[.val (.ref ob), .val (.int ii)] [(.ref dl)]))
  refine own_st (V := T1.setTop (mkF m 6 #[.val (.ref ob), .val (.int ii)] [(.int (ff kk))])) (fun tgt k => ?_) ?_
  · show Steps p.tables e below (T1.setTop (mkF m 4 #[.val (.ref ob), .val (.int ii)] [(.ref dl)])) tgt
    refine XS.iloadN X1.here hx rfl (hb hby d5_4) rfl ?_
    show Steps p.tables e below (T1.setTop (mkF m 5 #[.val (.ref ob), .val (.int ii)] [(.int ii), (.ref dl)])) tgt
    refine own_iaload X1 hx hZ e1 A1 (j := ii) (k := kk) I1 I2 (g := (mkF m 5 #[.val (.ref ob), .val (.int ii)] [(.int ii), (.ref dl)])) rfl rfl (hb hby d5_5) ?_
    exact k
  by_cases hc6 : (ff kk) = (0 : Int32)
  · skip
    refine own_st (V := T1.setTop (mkF m 14 #[.val (.ref ob), .val (.int ii)] [(.int (0 : Int32))])) (fun tgt k => ?_) ?_
    · show Steps p.tables e below (T1.setTop (mkF m 6 #[.val (.ref ob), .val (.int ii)] [(.int (ff kk))])) tgt
      refine XS.ifYes X1.here hx rfl (pc0 := 6) (pc' := 13) rfl (hb hby d5_6) rfl ((if0 _ _).trans (teq hc6).1) (by decide) (by decide) ?_
      show Steps p.tables e below (T1.setTop (mkF m 13 #[.val (.ref ob), .val (.int ii)] [])) tgt
      refine XS.iconst X1.here hx rfl (hb hby d5_13) ?_
      exact k
    refine own_retN X1 hx hlk (t := .boolean) (z' := (0 : Int32)) Bd.returns (by simp) rfl (hb hby d5_14) ?_ (by decide) (by decide)
    show Q5 Z ob ii dl nn ff kk h0 n0 (some (.int (0 : Int32))) T1.heap _
    rw [e1]
    refine ⟨?_, N0, rfl⟩
    exact congrArg (fun q => some (Value.int q)) (by rw [if_pos hc6])
  · skip
    refine own_st (V := T1.setTop (mkF m 14 #[.val (.ref ob), .val (.int ii)] [(.int (1 : Int32))])) (fun tgt k => ?_) ?_
    · show Steps p.tables e below (T1.setTop (mkF m 6 #[.val (.ref ob), .val (.int ii)] [(.int (ff kk))])) tgt
      refine XS.ifNo X1.here hx rfl (hb hby d5_6) rfl ((if0 _ _).trans (feq hc6).1) ?_
      show Steps p.tables e below (T1.setTop (mkF m 9 #[.val (.ref ob), .val (.int ii)] [])) tgt
      refine XS.iconst X1.here hx rfl (hb hby d5_9) ?_
      show Steps p.tables e below (T1.setTop (mkF m 10 #[.val (.ref ob), .val (.int ii)] [(.int (1 : Int32))])) tgt
      refine XS.goto X1.here hx rfl (pc0 := 10) (pc' := 14) rfl (hb hby d5_10) (by decide) (by decide) ?_
      exact k
    refine own_retN X1 hx hlk (t := .boolean) (z' := (1 : Int32)) Bd.returns (by simp) rfl (hb hby d5_14) ?_ (by decide) (by decide)
    show Q5 Z ob ii dl nn ff kk h0 n0 (some (.int (1 : Int32))) T1.heap _
    rw [e1]
    refine ⟨?_, N0, rfl⟩
    exact congrArg (fun q => some (Value.int q)) (by rw [if_neg hc6])
theorem d4_0 : decode prog_29_method_7_code 0 = .ok (.aload_n 0, 1) := by decide +kernel
theorem d4_1 : decode prog_29_method_7_code 1 = .ok (.iload_n 1, 1) := by decide +kernel
theorem d4_2 : decode prog_29_method_7_code 2 = .ok (.invokevirtual 20, 3) := by decide +kernel
theorem d4_5 : decode prog_29_method_7_code 5 = .ok (.ifCond .ne 13, 3) := by decide +kernel
theorem d4_8 : decode prog_29_method_7_code 8 = .ok (.aload_n 0, 1) := by decide +kernel
theorem d4_9 : decode prog_29_method_7_code 9 = .ok (.dup, 1) := by decide +kernel
theorem d4_10 : decode prog_29_method_7_code 10 = .ok (.getfield 16, 3) := by decide +kernel
theorem d4_13 : decode prog_29_method_7_code 13 = .ok (.iconst 1, 1) := by decide +kernel
theorem d4_14 : decode prog_29_method_7_code 14 = .ok (.iadd, 1) := by decide +kernel
theorem d4_15 : decode prog_29_method_7_code 15 = .ok (.putfield 16, 3) := by decide +kernel
theorem d4_18 : decode prog_29_method_7_code 18 = .ok (.aload_n 0, 1) := by decide +kernel
theorem d4_19 : decode prog_29_method_7_code 19 = .ok (.getfield 7, 3) := by decide +kernel
theorem d4_22 : decode prog_29_method_7_code 22 = .ok (.iload_n 1, 1) := by decide +kernel
theorem d4_23 : decode prog_29_method_7_code 23 = .ok (.iload_n 2, 1) := by decide +kernel
theorem d4_24 : decode prog_29_method_7_code 24 = .ok (.iastore, 1) := by decide +kernel
theorem d4_25 : decode prog_29_method_7_code 25 = .ok (.return_, 1) := by decide +kernel
theorem pn_4 : plainName "com/example/chainwright/chainwright/State" = true := by first | (simp [plainName, overriddenIn]; done) | decide +kernel
theorem pd_4_0 : parseMethodDescriptor "(I)Z" = some ⟨[.int], some .boolean⟩ := by decide +kernel
theorem ef_4 (m : MethodId) (x0 : Addr) (x1 : Int32) (x2 : Int32) : entryFrame m #[(.ref x0), (.int x1), (.int x2)] 3 = mkF m 0 #[.val (.ref x0), .val (.int x1), .val (.int x2)] [] := by first | (simp [entryFrame, mkF, argsToLocals, Value.category]; done) | rfl
def Q4 (Z : State) (ob : Addr) (ii : Int32) (vv : Int32) (dl : Addr) (nn : Nat) (ff : Nat → Int32) (kk : Nat) (fl : Addr) (sz : Int32) (h0 : Heap) (n0 : Nat) (v : Option Value) (h : Heap) (L : List Loc) : Prop := v = none ∧ Fr n0 L ∧ Keep h0 h [ob, dl] ∧ (Exa Z h ob "com/example/chainwright/chainwright/State") ∧ (Fld Z h ob "com/example/chainwright/chainwright/State" "deadlines" "[I" (.ref dl)) ∧ (Fld Z h ob "com/example/chainwright/chainwright/State" "floors" "[I" (.ref fl)) ∧ (Fld Z h ob "com/example/chainwright/chainwright/State" "size" "I" (.int (if ff kk = 0 then sz + (1 : Int32) else sz))) ∧ (own_Ai Z h dl .int nn (own_up ff kk vv))
set_option maxRecDepth 65536 in
set_option maxHeartbeats 40000000 in
theorem rm4 (l : Launch) (Z : State) (a0 : Array Value) (hw : ∀ d ∈ tables_1, d.before a0 Z = true) (ws : List Jvm.Cond) (ob : Addr) (ii : Int32) (vv : Int32) (dl : Addr) (nn : Nat) (ff : Nat → Int32) (kk : Nat) (fl : Addr) (sz : Int32) (h0 : Heap) (n0 : Nat) (Z0 : n0 ≤ h0.size) (E1 : Exa Z h0 ob "com/example/chainwright/chainwright/State") (F1 : Fld Z h0 ob "com/example/chainwright/chainwright/State" "deadlines" "[I" (.ref dl)) (F2 : Fld Z h0 ob "com/example/chainwright/chainwright/State" "floors" "[I" (.ref fl)) (F3 : Fld Z h0 ob "com/example/chainwright/chainwright/State" "size" "I" (.int sz)) (A1 : own_Ai Z h0 dl .int nn ff) (I1 : ii.toInt = (kk : Int)) (I2 : kk < nn) (G1 : n0 ≤ ob) (G2 : n0 ≤ dl) (NE : ob ≠ dl) :
    MetFree l (⟨"com/example/chainwright/chainwright/State", "choose", "(II)V"⟩ : MethodName) (head1 (Jvm.Cond.code (⟨"com/example/chainwright/chainwright/State", "choose", "(II)V"⟩ : MethodName) prog_29_method_7_code 3 none :: ws) ({ frames := 1, cells := 0, slots := 0, locals := 13 } : Room)) (fun a U => a = #[(.ref ob), (.int ii), (.int vv)] ∧ Z.Warmed39 U.vm ∧ U.heap = h0) (fun _ _ _ _ _ => True) (fun _ U o U' => ∃ v L, o = .returned v ∧ Q4 Z ob ii vv dl nn ff kk fl sz h0 n0 v U'.heap L ∧ FrameEnd U o U' L ({ frames := 1, cells := 0, slots := 0, locals := 13 } : Room).cells ({ frames := 1, cells := 0, slots := 0, locals := 13 } : Room).slots) := by
  refine MetFree.of_bodySF (plainFor_of_name pn_4) hisR ?_
  intro p e s m args below meth c s₁ Bd hml0 hP hK
  obtain ⟨rfl, hZ, hh⟩ := hP
  have hx := Bd.exec
  have hby := Bd.bytes
  have hlk : meth.locks = false := BodyLoose.notSynchronized Bd
  have hml : c.maxLocals = 3 := hml0
  have hown : s.vm.findClass "com/example/chainwright/chainwright/State" = some m.cls := findClass_of_methodNamed Bd.named
  have hnm := (name_of_methodNamed Bd.named Bd.method).1
  have X0 : Stand p l e ({ frames := 1, cells := 0, slots := 0, locals := 13 } : Room) s m #[(.ref ob), (.int ii), (.int vv)] below meth c s₁ [] 0 0 := Stand.of_body Bd
  have e0 : s₁.heap = h0 := by rw [← hh, Bd.state]; rfl
  have N0 := Fr.nil n0
  have K0 : Keep h0 h0 [ob, dl] := Keep.refl _ _
  show own_Go p e below (own_G s (Q4 Z ob ii vv dl nn ff kk fl sz h0 n0) ({ frames := 1, cells := 0, slots := 0, locals := 13 } : Room).cells ({ frames := 1, cells := 0, slots := 0, locals := 13 } : Room).slots) (s₁.setTop (entryFrame m #[(.ref ob), (.int ii), (.int vv)] 3))
  refine own_st (fun tgt k => castTop (ef_4 m ob ii vv) k) ?_
  show own_Go p e below _ (s₁.setTop (mkF m 0 #[.val (.ref ob), .val (.int ii), .val (.int vv)] []))
  refine own_st (V := s₁.setTop (mkF m 2 #[.val (.ref ob), .val (.int ii), .val (.int vv)] [(.int ii), (.ref ob)])) (fun tgt k => ?_) ?_
  · show Steps p.tables e below (s₁.setTop (mkF m 0 #[.val (.ref ob), .val (.int ii), .val (.int vv)] [])) tgt
    refine XS.aloadN X0.here hx rfl (hb hby d4_0) rfl rfl ?_
    show Steps p.tables e below (s₁.setTop (mkF m 1 #[.val (.ref ob), .val (.int ii), .val (.int vv)] [(.ref ob)])) tgt
    refine XS.iloadN X0.here hx rfl (hb hby d4_1) rfl ?_
    exact k
  obtain ⟨cq1, kq1, q1a, q1b, q1c⟩ := isOf hZ e0 E1
  obtain ⟨_, _, ⟨T1, L1, k1, n1⟩, -, X1, ⟨Lc1, hQ1, l1, y1, z1⟩, st1⟩ := X0.virtualBack hx (y := (⟨"com/example/chainwright/chainwright/State", "isChosen", "(I)Z"⟩ : MethodName)) (z := (⟨"com/example/chainwright/chainwright/State", "isChosen", "(I)Z"⟩ : MethodName)) hown (mvT hZ (hw _ (List.mem_of_getElem? (i := 26) rfl))) (mvT hZ (hw _ (List.mem_of_getElem? (i := 27) rfl))) (notFace_of_selects (args := #[]) (mvT hZ (hw _ (List.mem_of_getElem? (i := 29) rfl)))) (mvT hZ (hw _ (List.mem_of_getElem? (i := 29) rfl))) (mvT hZ (hw _ (List.mem_of_getElem? (i := 28) rfl))) (by decide) (backOf (W := 0) (rm5 l Z a0 hw [] ob ii dl nn ff kk h0 n0 Z0 F1 A1 (by first | assumption | decide | rfl) (by first | assumption | decide | rfl)) hZ (hw _ (List.mem_of_getElem? (i := 30) rfl)) (hw _ (List.mem_of_getElem? (i := 8) rfl)) (by decide) (by decide)) q1a q1c (g := (mkF m 2 #[.val (.ref ob), .val (.int ii), .val (.int vv)] [(.int ii), (.ref ob)])) rfl (by rw [hml]; rfl) (Steps.refl _) (argsL := [(.int ii)]) (rest := []) (lenOf pd_4_0 rfl) rfl (by show 2 * 0 + _ ≤ _; exact Nat.le_of_eq rfl) (hb hby d4_2) (fun _ _ => ⟨rfl, e0, (by decide : 0 + 0 ≤ _), (by decide : 0 + 0 ≤ _)⟩)
  dsimp only [Pt.U, Pt.locs, Pt.cells, Pt.slots] at X1 l1 y1 z1 st1 hQ1
  subst l1 y1 z1
  obtain ⟨rfl, N1q, K1⟩ := hQ1
  have N1 := Fr.app N0 N1q
  refine own_st (fun tgt k => st1.trans k) ?_
  show own_Go p e below _ (T1.setTop (mkF m 5 #[.val (.ref ob), .val (.int ii), .val (.int vv)] [(.int (if ff kk = 0 then (0 : Int32) else (1 : Int32)))]))
  by_cases q0 : ff kk = 0
  · skip
    rw [show (if ff kk = 0 then (0 : Int32) else (1 : Int32)) = (0 : Int32) from if_pos q0]
    refine own_st (V := T1.setTop (mkF m 10 #[.val (.ref ob), .val (.int ii), .val (.int vv)] [(.ref ob), (.ref ob)])) (fun tgt k => ?_) ?_
    · show Steps p.tables e below (T1.setTop (mkF m 5 #[.val (.ref ob), .val (.int ii), .val (.int vv)] [(.int (0 : Int32))])) tgt
      refine XS.ifNo X1.here hx rfl (hb hby d4_5) rfl ((if0 _ _).trans (teq (by decide : (0 : Int32) = (0 : Int32))).2) ?_
      show Steps p.tables e below (T1.setTop (mkF m 8 #[.val (.ref ob), .val (.int ii), .val (.int vv)] [])) tgt
      refine XS.aloadN X1.here hx rfl (hb hby d4_8) rfl rfl ?_
      show Steps p.tables e below (T1.setTop (mkF m 9 #[.val (.ref ob), .val (.int ii), .val (.int vv)] [(.ref ob)])) tgt
      refine XS.dup X1.here hx rfl (hb hby d4_9) rfl rfl ?_
      exact k
    obtain ⟨T2, X2, e2, st2⟩ := getF X1 hx hZ hown (host := "") (Or.inl (hw _ (List.mem_of_getElem? (i := 19) rfl))) Via.refl K1 F3 (g := (mkF m 10 #[.val (.ref ob), .val (.int ii), .val (.int vv)] [(.ref ob), (.ref ob)])) rfl rfl (hb hby d4_10)
    refine own_st st2 ?_
    show own_Go p e below _ (T2.setTop (mkF m 13 #[.val (.ref ob), .val (.int ii), .val (.int vv)] [(.int sz), (.ref ob)]))
    refine own_st (V := T2.setTop (mkF m 15 #[.val (.ref ob), .val (.int ii), .val (.int vv)] [(.int (sz + (1 : Int32))), (.ref ob)])) (fun tgt k => ?_) ?_
    · show Steps p.tables e below (T2.setTop (mkF m 13 #[.val (.ref ob), .val (.int ii), .val (.int vv)] [(.int sz), (.ref ob)])) tgt
      refine XS.iconst X2.here hx rfl (hb hby d4_13) ?_
      show Steps p.tables e below (T2.setTop (mkF m 14 #[.val (.ref ob), .val (.int ii), .val (.int vv)] [(.int (1 : Int32)), (.int sz), (.ref ob)])) tgt
      refine XS.iadd X2.here hx rfl (hb hby d4_14) rfl ?_
      exact k
    obtain ⟨T3, h3, X3, e3, W3, st3⟩ := putF X2 hx hZ hown (host := "") (Or.inl (hw _ (List.mem_of_getElem? (i := 19) rfl))) Via.refl e2 F3 E1 (Or.inl (hw _ (List.mem_of_getElem? (i := 20) rfl))) (hw _ (List.mem_of_getElem? (i := 7) rfl)) (ty := .int) (by decide) rfl rfl (g := (mkF m 15 #[.val (.ref ob), .val (.int ii), .val (.int vv)] [(.int (sz + (1 : Int32))), (.ref ob)])) rfl rfl (hb hby d4_15)
    have E_ob_3 := E1.wr W3
    have F_ob_deadlines_3 := Fld.other W3 F1 (Or.inr (slot_ne (Or.inr (hw _ (List.mem_of_getElem? (i := 16) rfl))) (Or.inl (hw _ (List.mem_of_getElem? (i := 20) rfl))) (by decide) (t := (.array .int)) (t' := .int) (by decide) (by decide)))
    have F_ob_floors_3 := Fld.other W3 F2 (Or.inr (slot_ne (Or.inr (hw _ (List.mem_of_getElem? (i := 18) rfl))) (Or.inl (hw _ (List.mem_of_getElem? (i := 20) rfl))) (by decide) (t := (.array .int)) (t' := .int) (by decide) (by decide)))
    have A_dl_3 := A1.other W3 (Ne.symm NE)
    have F_ob_size_3 := Fld.same W3 F3
    have N3 := Fr.snoc X3 N1 G1
    have Zs3 : n0 ≤ h3.size := Nat.le_trans Z0 (Keep.of_wr W3).1
    have Kp3 := K0.wr W3 (Or.inl (List.mem_of_getElem? (i := 0) rfl))
    refine own_st st3 ?_
    show own_Go p e below _ (T3.setTop (mkF m 18 #[.val (.ref ob), .val (.int ii), .val (.int vv)] []))
    refine own_st (V := T3.setTop (mkF m 19 #[.val (.ref ob), .val (.int ii), .val (.int vv)] [(.ref ob)])) (fun tgt k => ?_) ?_
    · show Steps p.tables e below (T3.setTop (mkF m 18 #[.val (.ref ob), .val (.int ii), .val (.int vv)] [])) tgt
      refine XS.aloadN X3.here hx rfl (hb hby d4_18) rfl rfl ?_
      exact k
    obtain ⟨T4, X4, e4, st4⟩ := getF X3 hx hZ hown (host := "") (Or.inl (hw _ (List.mem_of_getElem? (i := 15) rfl))) Via.refl e3 F_ob_deadlines_3 (g := (mkF m 19 #[.val (.ref ob), .val (.int ii), .val (.int vv)] [(.ref ob)])) rfl rfl (hb hby d4_19)
    refine own_st st4 ?_
    show own_Go p e below _ (T4.setTop (mkF m 22 #[.val (.ref ob), .val (.int ii), .val (.int vv)] [(.ref dl)]))
    refine own_st (V := T4.setTop (mkF m 24 #[.val (.ref ob), .val (.int ii), .val (.int vv)] [(.int vv), (.int ii), (.ref dl)])) (fun tgt k => ?_) ?_
    · show Steps p.tables e below (T4.setTop (mkF m 22 #[.val (.ref ob), .val (.int ii), .val (.int vv)] [(.ref dl)])) tgt
      refine XS.iloadN X4.here hx rfl (hb hby d4_22) rfl ?_
      show Steps p.tables e below (T4.setTop (mkF m 23 #[.val (.ref ob), .val (.int ii), .val (.int vv)] [(.int ii), (.ref dl)])) tgt
      refine XS.iloadN X4.here hx rfl (hb hby d4_23) rfl ?_
      exact k
    obtain ⟨T5, h5, X5, e5, W5, A_dl_5, st5⟩ := own_iastore X4 hx hZ e4 A_dl_3 (j := ii) (k := kk) I1 I2 (g := (mkF m 24 #[.val (.ref ob), .val (.int ii), .val (.int vv)] [(.int vv), (.int ii), (.ref dl)])) rfl rfl (hb hby d4_24)
    have E_ob_5 := E_ob_3.wr W5
    have F_ob_deadlines_5 := Fld.other W5 F_ob_deadlines_3 (Or.inl NE)
    have F_ob_floors_5 := Fld.other W5 F_ob_floors_3 (Or.inl NE)
    have F_ob_size_5 := Fld.other W5 F_ob_size_3 (Or.inl NE)
    have N5 := Fr.snoc X5 N3 G2
    have Zs5 : n0 ≤ h5.size := Nat.le_trans Zs3 (Keep.of_wr W5).1
    have Kp5 := Kp3.wr W5 (Or.inl (List.mem_of_getElem? (i := 1) rfl))
    refine own_st st5 ?_
    show own_Go p e below _ (T5.setTop (mkF m 25 #[.val (.ref ob), .val (.int ii), .val (.int vv)] []))
    refine own_ret0 X5 hx hlk Bd.returns (hb hby d4_25) ?_ (by decide) (by decide)
    show Q4 Z ob ii vv dl nn ff kk fl sz h0 n0 none T5.heap _
    rw [e5]
    exact ⟨rfl, N5, Kp5, E_ob_5, F_ob_deadlines_5, F_ob_floors_5, (by rw [if_pos q0]; exact F_ob_size_5), A_dl_5⟩
  · skip
    rw [show (if ff kk = 0 then (0 : Int32) else (1 : Int32)) = (1 : Int32) from if_neg q0]
    refine own_st (V := T1.setTop (mkF m 19 #[.val (.ref ob), .val (.int ii), .val (.int vv)] [(.ref ob)])) (fun tgt k => ?_) ?_
    · show Steps p.tables e below (T1.setTop (mkF m 5 #[.val (.ref ob), .val (.int ii), .val (.int vv)] [(.int (1 : Int32))])) tgt
      refine XS.ifYes X1.here hx rfl (pc0 := 5) (pc' := 18) rfl (hb hby d4_5) rfl ((if0 _ _).trans (feq (by decide : ¬ ((1 : Int32) = (0 : Int32)))).2) (by decide) (by decide) ?_
      show Steps p.tables e below (T1.setTop (mkF m 18 #[.val (.ref ob), .val (.int ii), .val (.int vv)] [])) tgt
      refine XS.aloadN X1.here hx rfl (hb hby d4_18) rfl rfl ?_
      exact k
    obtain ⟨T7, X7, e7, st7⟩ := getF X1 hx hZ hown (host := "") (Or.inl (hw _ (List.mem_of_getElem? (i := 15) rfl))) Via.refl K1 F1 (g := (mkF m 19 #[.val (.ref ob), .val (.int ii), .val (.int vv)] [(.ref ob)])) rfl rfl (hb hby d4_19)
    refine own_st st7 ?_
    show own_Go p e below _ (T7.setTop (mkF m 22 #[.val (.ref ob), .val (.int ii), .val (.int vv)] [(.ref dl)]))
    refine own_st (V := T7.setTop (mkF m 24 #[.val (.ref ob), .val (.int ii), .val (.int vv)] [(.int vv), (.int ii), (.ref dl)])) (fun tgt k => ?_) ?_
    · show Steps p.tables e below (T7.setTop (mkF m 22 #[.val (.ref ob), .val (.int ii), .val (.int vv)] [(.ref dl)])) tgt
      refine XS.iloadN X7.here hx rfl (hb hby d4_22) rfl ?_
      show Steps p.tables e below (T7.setTop (mkF m 23 #[.val (.ref ob), .val (.int ii), .val (.int vv)] [(.int ii), (.ref dl)])) tgt
      refine XS.iloadN X7.here hx rfl (hb hby d4_23) rfl ?_
      exact k
    obtain ⟨T8, h8, X8, e8, W8, A_dl_8, st8⟩ := own_iastore X7 hx hZ e7 A1 (j := ii) (k := kk) I1 I2 (g := (mkF m 24 #[.val (.ref ob), .val (.int ii), .val (.int vv)] [(.int vv), (.int ii), (.ref dl)])) rfl rfl (hb hby d4_24)
    have E_ob_8 := E1.wr W8
    have F_ob_deadlines_8 := Fld.other W8 F1 (Or.inl NE)
    have F_ob_floors_8 := Fld.other W8 F2 (Or.inl NE)
    have F_ob_size_8 := Fld.other W8 F3 (Or.inl NE)
    have N8 := Fr.snoc X8 N1 G2
    have Zs8 : n0 ≤ h8.size := Nat.le_trans Z0 (Keep.of_wr W8).1
    have Kp8 := K0.wr W8 (Or.inl (List.mem_of_getElem? (i := 1) rfl))
    refine own_st st8 ?_
    show own_Go p e below _ (T8.setTop (mkF m 25 #[.val (.ref ob), .val (.int ii), .val (.int vv)] []))
    refine own_ret0 X8 hx hlk Bd.returns (hb hby d4_25) ?_ (by decide) (by decide)
    show Q4 Z ob ii vv dl nn ff kk fl sz h0 n0 none T8.heap _
    rw [e8]
    exact ⟨rfl, N8, Kp8, E_ob_8, F_ob_deadlines_8, F_ob_floors_8, (by rw [if_neg q0]; exact F_ob_size_8), A_dl_8⟩
theorem d7_0 : decode prog_29_method_3_code 0 = .ok (.aload_n 0, 1) := by decide +kernel
theorem d7_1 : decode prog_29_method_3_code 1 = .ok (.getfield 16, 3) := by decide +kernel
theorem d7_4 : decode prog_29_method_3_code 4 = .ok (.ireturn, 1) := by decide +kernel
theorem pn_7 : plainName "com/example/chainwright/chainwright/State" = true := by first | (simp [plainName, overriddenIn]; done) | decide +kernel
theorem ef_7 (m : MethodId) (x0 : Addr) : entryFrame m #[(.ref x0)] 1 = mkF m 0 #[.val (.ref x0)] [] := by first | (simp [entryFrame, mkF, argsToLocals, Value.category]; done) | rfl
def Q7 (Z : State) (ob : Addr) (sz : Int32) (h0 : Heap) (n0 : Nat) (v : Option Value) (h : Heap) (L : List Loc) : Prop := v = some (.int sz) ∧ Fr n0 L ∧ h = h0
set_option maxRecDepth 65536 in
set_option maxHeartbeats 40000000 in
theorem rm7 (l : Launch) (Z : State) (a0 : Array Value) (hw : ∀ d ∈ tables_1, d.before a0 Z = true) (ws : List Jvm.Cond) (ob : Addr) (sz : Int32) (h0 : Heap) (n0 : Nat) (Z0 : n0 ≤ h0.size) (F3 : Fld Z h0 ob "com/example/chainwright/chainwright/State" "size" "I" (.int sz)) :
    MetFree l (⟨"com/example/chainwright/chainwright/State", "size", "()I"⟩ : MethodName) (head1 (Jvm.Cond.code (⟨"com/example/chainwright/chainwright/State", "size", "()I"⟩ : MethodName) prog_29_method_3_code 1 (some .int) :: ws) ({ frames := 0, cells := 0, slots := 0, locals := 0 } : Room)) (fun a U => a = #[(.ref ob)] ∧ Z.Warmed39 U.vm ∧ U.heap = h0) (fun _ _ _ _ _ => True) (fun _ U o U' => ∃ v L, o = .returned v ∧ Q7 Z ob sz h0 n0 v U'.heap L ∧ FrameEnd U o U' L ({ frames := 0, cells := 0, slots := 0, locals := 0 } : Room).cells ({ frames := 0, cells := 0, slots := 0, locals := 0 } : Room).slots) := by
  refine MetFree.of_bodySF (plainFor_of_name pn_7) hisR ?_
  intro p e s m args below meth c s₁ Bd hml0 hP hK
  obtain ⟨rfl, hZ, hh⟩ := hP
  have hx := Bd.exec
  have hby := Bd.bytes
  have hlk : meth.locks = false := BodyLoose.notSynchronized Bd
  have hml : c.maxLocals = 1 := hml0
  have hown : s.vm.findClass "com/example/chainwright/chainwright/State" = some m.cls := findClass_of_methodNamed Bd.named
  have hnm := (name_of_methodNamed Bd.named Bd.method).1
  have X0 : Stand p l e ({ frames := 0, cells := 0, slots := 0, locals := 0 } : Room) s m #[(.ref ob)] below meth c s₁ [] 0 0 := Stand.of_body Bd
  have e0 : s₁.heap = h0 := by rw [← hh, Bd.state]; rfl
  have N0 := Fr.nil n0
  show own_Go p e below (own_G s (Q7 Z ob sz h0 n0) ({ frames := 0, cells := 0, slots := 0, locals := 0 } : Room).cells ({ frames := 0, cells := 0, slots := 0, locals := 0 } : Room).slots) (s₁.setTop (entryFrame m #[(.ref ob)] 1))
  refine own_st (fun tgt k => castTop (ef_7 m ob) k) ?_
  show own_Go p e below _ (s₁.setTop (mkF m 0 #[.val (.ref ob)] []))
  refine own_st (V := s₁.setTop (mkF m 1 #[.val (.ref ob)] [(.ref ob)])) (fun tgt k => ?_) ?_
  · show Steps p.tables e below (s₁.setTop (mkF m 0 #[.val (.ref ob)] [])) tgt
    refine XS.aloadN X0.here hx rfl (hb hby d7_0) rfl rfl ?_
    exact k
  obtain ⟨T1, X1, e1, st1⟩ := getF X0 hx hZ hown (host := "") (Or.inl (hw _ (List.mem_of_getElem? (i := 19) rfl))) Via.refl e0 F3 (g := (mkF m 1 #[.val (.ref ob)] [(.ref ob)])) rfl rfl (hb hby d7_1)
  refine own_st st1 ?_
  show own_Go p e below _ (T1.setTop (mkF m 4 #[.val (.ref ob)] [(.int sz)]))
  refine own_retI X1 hx hlk Bd.returns (hb hby d7_4) ?_ (by decide) (by decide)
  show Q7 Z ob sz h0 n0 (some (.int sz)) T1.heap _
  rw [e1]
  exact ⟨rfl, N0, rfl⟩
theorem d6_0 : decode prog_29_method_4_code 0 = .ok (.aload_n 0, 1) := by decide +kernel
theorem d6_1 : decode prog_29_method_4_code 1 = .ok (.getfield 7, 3) := by decide +kernel
theorem d6_4 : decode prog_29_method_4_code 4 = .ok (.iload_n 1, 1) := by decide +kernel
theorem d6_5 : decode prog_29_method_4_code 5 = .ok (.iaload, 1) := by decide +kernel
theorem d6_6 : decode prog_29_method_4_code 6 = .ok (.ireturn, 1) := by decide +kernel
theorem pn_6 : plainName "com/example/chainwright/chainwright/State" = true := by first | (simp [plainName, overriddenIn]; done) | decide +kernel
theorem ef_6 (m : MethodId) (x0 : Addr) (x1 : Int32) : entryFrame m #[(.ref x0), (.int x1)] 2 = mkF m 0 #[.val (.ref x0), .val (.int x1)] [] := by first | (simp [entryFrame, mkF, argsToLocals, Value.category]; done) | rfl
def Q6 (Z : State) (ob : Addr) (ii : Int32) (dl : Addr) (nn : Nat) (ff : Nat → Int32) (kk : Nat) (h0 : Heap) (n0 : Nat) (v : Option Value) (h : Heap) (L : List Loc) : Prop := v = some (.int (ff kk)) ∧ Fr n0 L ∧ h = h0
set_option maxRecDepth 65536 in
set_option maxHeartbeats 40000000 in
theorem rm6 (l : Launch) (Z : State) (a0 : Array Value) (hw : ∀ d ∈ tables_1, d.before a0 Z = true) (ws : List Jvm.Cond) (ob : Addr) (ii : Int32) (dl : Addr) (nn : Nat) (ff : Nat → Int32) (kk : Nat) (h0 : Heap) (n0 : Nat) (Z0 : n0 ≤ h0.size) (F1 : Fld Z h0 ob "com/example/chainwright/chainwright/State" "deadlines" "[I" (.ref dl)) (A1 : own_Ai Z h0 dl .int nn ff) (I1 : ii.toInt = (kk : Int)) (I2 : kk < nn) :
    MetFree l (⟨"com/example/chainwright/chainwright/State", "deadline", "(I)I"⟩ : MethodName) (head1 (Jvm.Cond.code (⟨"com/example/chainwright/chainwright/State", "deadline", "(I)I"⟩ : MethodName) prog_29_method_4_code 2 (some .int) :: ws) ({ frames := 0, cells := 0, slots := 0, locals := 0 } : Room)) (fun a U => a = #[(.ref ob), (.int ii)] ∧ Z.Warmed39 U.vm ∧ U.heap = h0) (fun _ _ _ _ _ => True) (fun _ U o U' => ∃ v L, o = .returned v ∧ Q6 Z ob ii dl nn ff kk h0 n0 v U'.heap L ∧ FrameEnd U o U' L ({ frames := 0, cells := 0, slots := 0, locals := 0 } : Room).cells ({ frames := 0, cells := 0, slots := 0, locals := 0 } : Room).slots) := by
  refine MetFree.of_bodySF (plainFor_of_name pn_6) hisR ?_
  intro p e s m args below meth c s₁ Bd hml0 hP hK
  obtain ⟨rfl, hZ, hh⟩ := hP
  have hx := Bd.exec
  have hby := Bd.bytes
  have hlk : meth.locks = false := BodyLoose.notSynchronized Bd
  have hml : c.maxLocals = 2 := hml0
  have hown : s.vm.findClass "com/example/chainwright/chainwright/State" = some m.cls := findClass_of_methodNamed Bd.named
  have hnm := (name_of_methodNamed Bd.named Bd.method).1
  have X0 : Stand p l e ({ frames := 0, cells := 0, slots := 0, locals := 0 } : Room) s m #[(.ref ob), (.int ii)] below meth c s₁ [] 0 0 := Stand.of_body Bd
  have e0 : s₁.heap = h0 := by rw [← hh, Bd.state]; rfl
  have N0 := Fr.nil n0
  show own_Go p e below (own_G s (Q6 Z ob ii dl nn ff kk h0 n0) ({ frames := 0, cells := 0, slots := 0, locals := 0 } : Room).cells ({ frames := 0, cells := 0, slots := 0, locals := 0 } : Room).slots) (s₁.setTop (entryFrame m #[(.ref ob), (.int ii)] 2))
  refine own_st (fun tgt k => castTop (ef_6 m ob ii) k) ?_
  show own_Go p e below _ (s₁.setTop (mkF m 0 #[.val (.ref ob), .val (.int ii)] []))
  refine own_st (V := s₁.setTop (mkF m 1 #[.val (.ref ob), .val (.int ii)] [(.ref ob)])) (fun tgt k => ?_) ?_
  · show Steps p.tables e below (s₁.setTop (mkF m 0 #[.val (.ref ob), .val (.int ii)] [])) tgt
    refine XS.aloadN X0.here hx rfl (hb hby d6_0) rfl rfl ?_
    exact k
  obtain ⟨T1, X1, e1, st1⟩ := getF X0 hx hZ hown (host := "") (Or.inl (hw _ (List.mem_of_getElem? (i := 15) rfl))) Via.refl e0 F1 (g := (mkF m 1 #[.val (.ref ob), .val (.int ii)] [(.ref ob)])) rfl rfl (hb hby d6_1)
  refine own_st st1 ?_
  show own_Go p e below _ (T1.setTop (mkF m 4 #[.val (.ref ob), .val (.int ii)] [(.ref dl)]))
  refine own_st (V := T1.setTop (mkF m 6 #[.val (.ref ob), .val (.int ii)] [(.int (ff kk))])) (fun tgt k => ?_) ?_
  · show Steps p.tables e below (T1.setTop (mkF m 4 #[.val (.ref ob), .val (.int ii)] [(.ref dl)])) tgt
    refine XS.iloadN X1.here hx rfl (hb hby d6_4) rfl ?_
    show Steps p.tables e below (T1.setTop (mkF m 5 #[.val (.ref ob), .val (.int ii)] [(.int ii), (.ref dl)])) tgt
    refine own_iaload X1 hx hZ e1 A1 (j := ii) (k := kk) I1 I2 (g := (mkF m 5 #[.val (.ref ob), .val (.int ii)] [(.int ii), (.ref dl)])) rfl rfl (hb hby d6_5) ?_
    exact k
  refine own_retI X1 hx hlk Bd.returns (hb hby d6_6) ?_ (by decide) (by decide)
  show Q6 Z ob ii dl nn ff kk h0 n0 (some (.int (ff kk))) T1.heap _
  rw [e1]
  exact ⟨rfl, N0, rfl⟩
theorem d8_0 : decode prog_29_method_6_code 0 = .ok (.aload_n 0, 1) := by decide +kernel
theorem d8_1 : decode prog_29_method_6_code 1 = .ok (.getfield 13, 3) := by decide +kernel
theorem d8_4 : decode prog_29_method_6_code 4 = .ok (.iload_n 1, 1) := by decide +kernel
theorem d8_5 : decode prog_29_method_6_code 5 = .ok (.iaload, 1) := by decide +kernel
theorem d8_6 : decode prog_29_method_6_code 6 = .ok (.ireturn, 1) := by decide +kernel
theorem pn_8 : plainName "com/example/chainwright/chainwright/State" = true := by first | (simp [plainName, overriddenIn]; done) | decide +kernel
theorem ef_8 (m : MethodId) (x0 : Addr) (x1 : Int32) : entryFrame m #[(.ref x0), (.int x1)] 2 = mkF m 0 #[.val (.ref x0), .val (.int x1)] [] := by first | (simp [entryFrame, mkF, argsToLocals, Value.category]; done) | rfl
def Q8 (Z : State) (ob : Addr) (ii : Int32) (dl : Addr) (nn : Nat) (ff : Nat → Int32) (kk : Nat) (h0 : Heap) (n0 : Nat) (v : Option Value) (h : Heap) (L : List Loc) : Prop := v = some (.int (ff kk)) ∧ Fr n0 L ∧ h = h0
set_option maxRecDepth 65536 in
set_option maxHeartbeats 40000000 in
theorem rm8 (l : Launch) (Z : State) (a0 : Array Value) (hw : ∀ d ∈ tables_1, d.before a0 Z = true) (ws : List Jvm.Cond) (ob : Addr) (ii : Int32) (dl : Addr) (nn : Nat) (ff : Nat → Int32) (kk : Nat) (h0 : Heap) (n0 : Nat) (Z0 : n0 ≤ h0.size) (F1 : Fld Z h0 ob "com/example/chainwright/chainwright/State" "floors" "[I" (.ref dl)) (A1 : own_Ai Z h0 dl .int nn ff) (I1 : ii.toInt = (kk : Int)) (I2 : kk < nn) :
    MetFree l (⟨"com/example/chainwright/chainwright/State", "floor", "(I)I"⟩ : MethodName) (head1 (Jvm.Cond.code (⟨"com/example/chainwright/chainwright/State", "floor", "(I)I"⟩ : MethodName) prog_29_method_6_code 2 (some .int) :: ws) ({ frames := 0, cells := 0, slots := 0, locals := 0 } : Room)) (fun a U => a = #[(.ref ob), (.int ii)] ∧ Z.Warmed39 U.vm ∧ U.heap = h0) (fun _ _ _ _ _ => True) (fun _ U o U' => ∃ v L, o = .returned v ∧ Q8 Z ob ii dl nn ff kk h0 n0 v U'.heap L ∧ FrameEnd U o U' L ({ frames := 0, cells := 0, slots := 0, locals := 0 } : Room).cells ({ frames := 0, cells := 0, slots := 0, locals := 0 } : Room).slots) := by
  refine MetFree.of_bodySF (plainFor_of_name pn_8) hisR ?_
  intro p e s m args below meth c s₁ Bd hml0 hP hK
  obtain ⟨rfl, hZ, hh⟩ := hP
  have hx := Bd.exec
  have hby := Bd.bytes
  have hlk : meth.locks = false := BodyLoose.notSynchronized Bd
  have hml : c.maxLocals = 2 := hml0
  have hown : s.vm.findClass "com/example/chainwright/chainwright/State" = some m.cls := findClass_of_methodNamed Bd.named
  have hnm := (name_of_methodNamed Bd.named Bd.method).1
  have X0 : Stand p l e ({ frames := 0, cells := 0, slots := 0, locals := 0 } : Room) s m #[(.ref ob), (.int ii)] below meth c s₁ [] 0 0 := Stand.of_body Bd
  have e0 : s₁.heap = h0 := by rw [← hh, Bd.state]; rfl
  have N0 := Fr.nil n0
  show own_Go p e below (own_G s (Q8 Z ob ii dl nn ff kk h0 n0) ({ frames := 0, cells := 0, slots := 0, locals := 0 } : Room).cells ({ frames := 0, cells := 0, slots := 0, locals := 0 } : Room).slots) (s₁.setTop (entryFrame m #[(.ref ob), (.int ii)] 2))
  refine own_st (fun tgt k => castTop (ef_8 m ob ii) k) ?_
  show own_Go p e below _ (s₁.setTop (mkF m 0 #[.val (.ref ob), .val (.int ii)] []))
  refine own_st (V := s₁.setTop (mkF m 1 #[.val (.ref ob), .val (.int ii)] [(.ref ob)])) (fun tgt k => ?_) ?_
  · show Steps p.tables e below (s₁.setTop (mkF m 0 #[.val (.ref ob), .val (.int ii)] [])) tgt
    refine XS.aloadN X0.here hx rfl (hb hby d8_0) rfl rfl ?_
    exact k
  obtain ⟨T1, X1, e1, st1⟩ := getF X0 hx hZ hown (host := "") (Or.inl (hw _ (List.mem_of_getElem? (i := 17) rfl))) Via.refl e0 F1 (g := (mkF m 1 #[.val (.ref ob), .val (.int ii)] [(.ref ob)])) rfl rfl (hb hby d8_1)
  refine own_st st1 ?_
  show own_Go p e below _ (T1.setTop (mkF m 4 #[.val (.ref ob), .val (.int ii)] [(.ref dl)]))
  refine own_st (V := T1.setTop (mkF m 6 #[.val (.ref ob), .val (.int ii)] [(.int (ff kk))])) (fun tgt k => ?_) ?_
  · show Steps p.tables e below (T1.setTop (mkF m 4 #[.val (.ref ob), .val (.int ii)] [(.ref dl)])) tgt
    refine XS.iloadN X1.here hx rfl (hb hby d8_4) rfl ?_
    show Steps p.tables e below (T1.setTop (mkF m 5 #[.val (.ref ob), .val (.int ii)] [(.int ii), (.ref dl)])) tgt
    refine own_iaload X1 hx hZ e1 A1 (j := ii) (k := kk) I1 I2 (g := (mkF m 5 #[.val (.ref ob), .val (.int ii)] [(.int ii), (.ref dl)])) rfl rfl (hb hby d8_5) ?_
    exact k
  refine own_retI X1 hx hlk Bd.returns (hb hby d8_6) ?_ (by decide) (by decide)
  show Q8 Z ob ii dl nn ff kk h0 n0 (some (.int (ff kk))) T1.heap _
  rw [e1]
  exact ⟨rfl, N0, rfl⟩
theorem d1_0 : decode method_2_code 0 = .ok (.iload_n 0, 1) := by decide +kernel
theorem d1_1 : decode method_2_code 1 = .ok (.ifCond .eq 7, 3) := by decide +kernel
theorem d1_4 : decode method_2_code 4 = .ok (.iconst 1, 1) := by decide +kernel
theorem d1_5 : decode method_2_code 5 = .ok (.goto 4, 3) := by decide +kernel
theorem d1_8 : decode method_2_code 8 = .ok (.iconst 0, 1) := by decide +kernel
theorem d1_9 : decode method_2_code 9 = .ok (.ireturn, 1) := by decide +kernel
theorem pn_1 : plainName "com/example/chainwright/chainwright/StateChoosePinLaw" = true := by first | (simp [plainName, overriddenIn]; done) | decide +kernel
theorem ef_1 (m : MethodId) (x0 : Int32) : entryFrame m #[(.int x0)] 1 = mkF m 0 #[.val (.int x0)] [] := by first | (simp [entryFrame, mkF, argsToLocals, Value.category]; done) | rfl
def Q1 (Z : State) (xx : Int32) (h0 : Heap) (n0 : Nat) (v : Option Value) (h : Heap) (L : List Loc) : Prop := v = some (.int (own_nz xx)) ∧ Fr n0 L ∧ h = h0
set_option maxRecDepth 65536 in
set_option maxHeartbeats 40000000 in
theorem rm1 (l : Launch) (Z : State) (a0 : Array Value) (hw : ∀ d ∈ tables_1, d.before a0 Z = true) (ws : List Jvm.Cond) (xx : Int32) (h0 : Heap) (n0 : Nat) (Z0 : n0 ≤ h0.size) :
    MetFree l (⟨"com/example/chainwright/chainwright/StateChoosePinLaw", "nz", "(I)I"⟩ : MethodName) (head1 (Jvm.Cond.code (⟨"com/example/chainwright/chainwright/StateChoosePinLaw", "nz", "(I)I"⟩ : MethodName) method_2_code 1 (some .int) :: ws) ({ frames := 0, cells := 0, slots := 0, locals := 0 } : Room)) (fun a U => a = #[(.int xx)] ∧ Z.Warmed39 U.vm ∧ U.heap = h0) (fun _ _ _ _ _ => True) (fun _ U o U' => ∃ v L, o = .returned v ∧ Q1 Z xx h0 n0 v U'.heap L ∧ FrameEnd U o U' L ({ frames := 0, cells := 0, slots := 0, locals := 0 } : Room).cells ({ frames := 0, cells := 0, slots := 0, locals := 0 } : Room).slots) := by
  refine MetFree.of_bodySF (plainFor_of_name pn_1) hisR ?_
  intro p e s m args below meth c s₁ Bd hml0 hP hK
  obtain ⟨rfl, hZ, hh⟩ := hP
  have hx := Bd.exec
  have hby := Bd.bytes
  have hlk : meth.locks = false := BodyLoose.notSynchronized Bd
  have hml : c.maxLocals = 1 := hml0
  have hown : s.vm.findClass "com/example/chainwright/chainwright/StateChoosePinLaw" = some m.cls := findClass_of_methodNamed Bd.named
  have hnm := (name_of_methodNamed Bd.named Bd.method).1
  have X0 : Stand p l e ({ frames := 0, cells := 0, slots := 0, locals := 0 } : Room) s m #[(.int xx)] below meth c s₁ [] 0 0 := Stand.of_body Bd
  have e0 : s₁.heap = h0 := by rw [← hh, Bd.state]; rfl
  have N0 := Fr.nil n0
  show own_Go p e below (own_G s (Q1 Z xx h0 n0) ({ frames := 0, cells := 0, slots := 0, locals := 0 } : Room).cells ({ frames := 0, cells := 0, slots := 0, locals := 0 } : Room).slots) (s₁.setTop (entryFrame m #[(.int xx)] 1))
  refine own_st (fun tgt k => castTop (ef_1 m xx) k) ?_
  show own_Go p e below _ (s₁.setTop (mkF m 0 #[.val (.int xx)] []))
  refine own_st (V := s₁.setTop (mkF m 1 #[.val (.int xx)] [(.int xx)])) (fun tgt k => ?_) ?_
  · show Steps p.tables e below (s₁.setTop (mkF m 0 #[.val (.int xx)] [])) tgt
    refine XS.iloadN X0.here hx rfl (hb hby d1_0) rfl ?_
    exact k
  by_cases hc1 : xx = (0 : Int32)
  · skip
    refine own_st (V := s₁.setTop (mkF m 9 #[.val (.int xx)] [(.int (0 : Int32))])) (fun tgt k => ?_) ?_
    · show Steps p.tables e below (s₁.setTop (mkF m 1 #[.val (.int xx)] [(.int xx)])) tgt
      refine XS.ifYes X0.here hx rfl (pc0 := 1) (pc' := 8) rfl (hb hby d1_1) rfl ((if0 _ _).trans (teq hc1).1) (by decide) (by decide) ?_
      show Steps p.tables e below (s₁.setTop (mkF m 8 #[.val (.int xx)] [])) tgt
      refine XS.iconst X0.here hx rfl (hb hby d1_8) ?_
      exact k
    refine own_retI X0 hx hlk Bd.returns (hb hby d1_9) ?_ (by decide) (by decide)
    show Q1 Z xx h0 n0 (some (.int (0 : Int32))) s₁.heap _
    rw [e0]
    refine ⟨?_, N0, rfl⟩
    exact congrArg (fun q => some (Value.int q)) (by unfold own_nz; rw [if_pos hc1])
  · skip
    refine own_st (V := s₁.setTop (mkF m 9 #[.val (.int xx)] [(.int (1 : Int32))])) (fun tgt k => ?_) ?_
    · show Steps p.tables e below (s₁.setTop (mkF m 1 #[.val (.int xx)] [(.int xx)])) tgt
      refine XS.ifNo X0.here hx rfl (hb hby d1_1) rfl ((if0 _ _).trans (feq hc1).1) ?_
      show Steps p.tables e below (s₁.setTop (mkF m 4 #[.val (.int xx)] [])) tgt
      refine XS.iconst X0.here hx rfl (hb hby d1_4) ?_
      show Steps p.tables e below (s₁.setTop (mkF m 5 #[.val (.int xx)] [(.int (1 : Int32))])) tgt
      refine XS.goto X0.here hx rfl (pc0 := 5) (pc' := 9) rfl (hb hby d1_5) (by decide) (by decide) ?_
      exact k
    refine own_retI X0 hx hlk Bd.returns (hb hby d1_9) ?_ (by decide) (by decide)
    show Q1 Z xx h0 n0 (some (.int (1 : Int32))) s₁.heap _
    rw [e0]
    refine ⟨?_, N0, rfl⟩
    exact congrArg (fun q => some (Value.int q)) (by unfold own_nz; rw [if_neg hc1])
theorem pn_0 : plainName "com/example/chainwright/chainwright/StateChoosePinLaw" = true := by first | (simp [plainName, overriddenIn]; done) | decide +kernel
theorem pd_0_0 : parseMethodDescriptor "(I)I" = some ⟨[.int], some .int⟩ := by decide +kernel
theorem pd_0_1 : parseMethodDescriptor "([I[II)V" = some ⟨[(.array .int), (.array .int), .int], none⟩ := by decide +kernel
theorem pd_0_2 : parseMethodDescriptor "(II)V" = some ⟨[.int, .int], none⟩ := by decide +kernel
theorem pd_0_3 : parseMethodDescriptor "()I" = some ⟨[], some .int⟩ := by decide +kernel
theorem pd_0_4 : parseMethodDescriptor "(I)Z" = some ⟨[.int], some .boolean⟩ := by decide +kernel
theorem ef_0 (m : MethodId) (x0 : Int32) (x1 : Int32) (x2 : Int32) (x3 : Int32) (x4 : Int32) (x5 : Int32) : entryFrame m #[(.int x0), (.int x1), (.int x2), (.int x3), (.int x4), (.int x5)] maxLocals = mkF m 0 #[.val (.int x0), .val (.int x1), .val (.int x2), .val (.int x3), .val (.int x4), .val (.int x5), .unset, .unset, .unset, .unset, .unset, .unset, .unset, .unset, .unset, .unset, .unset, .unset, .unset, .unset, .unset, .unset] [] := by first | (simp [entryFrame, mkF, argsToLocals, Value.category, maxLocals]; done) | rfl
def Q0 (Z : State) (d0 : Int32) (d1 : Int32) (d2 : Int32) (sl : Int32) (dd : Int32) (fz : Int32) (h0 : Heap) (n0 : Nat) (v : Option Value) (h : Heap) (L : List Loc) : Prop := v = some (.int (1 : Int32)) ∧ Fr n0 L
set_option maxRecDepth 65536 in
set_option maxHeartbeats 40000000 in
theorem rm0 (l : Launch) (Z : State) (a0 : Array Value) (hw : ∀ d ∈ tables_1, d.before a0 Z = true) (ws : List Jvm.Cond) (d0 : Int32) (d1 : Int32) (d2 : Int32) (sl : Int32) (dd : Int32) (fz : Int32) (h0 : Heap) (n0 : Nat) (Z0 : n0 ≤ h0.size) :
    MetFree l x (head1 (Jvm.Cond.code x code maxLocals ret :: ws) room_1) (fun a U => a = #[(.int d0), (.int d1), (.int d2), (.int sl), (.int dd), (.int fz)] ∧ Z.Warmed39 U.vm ∧ U.heap = h0) (fun _ _ _ _ _ => True) (fun _ U o U' => ∃ v L, o = .returned v ∧ Q0 Z d0 d1 d2 sl dd fz h0 n0 v U'.heap L ∧ FrameEnd U o U' L 16 128) := by
  refine MetFree.of_bodySF (plainFor_of_name pn_0) hisR ?_
  intro p e s m args below meth c s₁ Bd hml0 hP hK
  obtain ⟨rfl, hZ, hh⟩ := hP
  have hx := Bd.exec
  have hby := Bd.bytes
  have hlk : meth.locks = false := BodyLoose.notSynchronized Bd
  have hml : c.maxLocals = 22 := hml0
  have hown : s.vm.findClass "com/example/chainwright/chainwright/StateChoosePinLaw" = some m.cls := findClass_of_methodNamed Bd.named
  have hnm := (name_of_methodNamed Bd.named Bd.method).1
  have X0 : Stand p l e room_1 s m #[(.int d0), (.int d1), (.int d2), (.int sl), (.int dd), (.int fz)] below meth c s₁ [] 0 0 := Stand.of_body Bd
  have e0 : s₁.heap = h0 := by rw [← hh, Bd.state]; rfl
  have N0 := Fr.nil n0
  show own_Go p e below (own_G s (Q0 Z d0 d1 d2 sl dd fz h0 n0) 16 128) (s₁.setTop (entryFrame m #[(.int d0), (.int d1), (.int d2), (.int sl), (.int dd), (.int fz)] maxLocals))
  refine own_st (fun tgt k => castTop (ef_0 m d0 d1 d2 sl dd fz) k) ?_
  show own_Go p e below _ (s₁.setTop (mkF m 0 #[.val (.int d0), .val (.int d1), .val (.int d2), .val (.int sl), .val (.int dd), .val (.int fz), .unset, .unset, .unset, .unset, .unset, .unset, .unset, .unset, .unset, .unset, .unset, .unset, .unset, .unset, .unset, .unset] []))
  refine own_st (V := s₁.setTop (mkF m 14 #[.val (.int d0), .val (.int d1), .val (.int d2), .val (.int sl), .val (.int dd), .val (.int fz), .val (.int ((sl &&& (2147483647 : Int32)) % (3 : Int32))), .unset, .unset, .unset, .unset, .unset, .unset, .unset, .unset, .unset, .unset, .unset, .unset, .unset, .unset, .unset] [(.int (((sl.toUInt32 >>> ((8 : Int32) &&& 31).toUInt32).toInt32) &&& (1 : Int32)))])) (fun tgt k => ?_) ?_
  · show Steps p.tables e below (s₁.setTop (mkF m 0 #[.val (.int d0), .val (.int d1), .val (.int d2), .val (.int sl), .val (.int dd), .val (.int fz), .unset, .unset, .unset, .unset, .unset, .unset, .unset, .unset, .unset, .unset, .unset, .unset, .unset, .unset, .unset, .unset] [])) tgt
    refine XS.iloadN X0.here hx rfl (hb hby at_0) rfl ?_
    show Steps p.tables e below (s₁.setTop (mkF m 1 #[.val (.int d0), .val (.int d1), .val (.int d2), .val (.int sl), .val (.int dd), .val (.int fz), .unset, .unset, .unset, .unset, .unset, .unset, .unset, .unset, .unset, .unset, .unset, .unset, .unset, .unset, .unset, .unset] [(.int sl)])) tgt
    refine X0.ldcInt hx hown (mvT hZ (hw _ (List.mem_of_getElem? (i := 0) rfl))) (g := (mkF m 1 #[.val (.int d0), .val (.int d1), .val (.int d2), .val (.int sl), .val (.int dd), .val (.int fz), .unset, .unset, .unset, .unset, .unset, .unset, .unset, .unset, .unset, .unset, .unset, .unset, .unset, .unset, .unset, .unset] [(.int sl)])) rfl (hb hby at_1) _ ?_
    show Steps p.tables e below (s₁.setTop (mkF m 3 #[.val (.int d0), .val (.int d1), .val (.int d2), .val (.int sl), .val (.int dd), .val (.int fz), .unset, .unset, .unset, .unset, .unset, .unset, .unset, .unset, .unset, .unset, .unset, .unset, .unset, .unset, .unset, .unset] [(.int (2147483647 : Int32)), (.int sl)])) tgt
    refine XS.iand X0.here hx rfl (hb hby at_3) rfl ?_
    show Steps p.tables e below (s₁.setTop (mkF m 4 #[.val (.int d0), .val (.int d1), .val (.int d2), .val (.int sl), .val (.int dd), .val (.int fz), .unset, .unset, .unset, .unset, .unset, .unset, .unset, .unset, .unset, .unset, .unset, .unset, .unset, .unset, .unset, .unset] [(.int (sl &&& (2147483647 : Int32)))])) tgt
    refine XS.iconst X0.here hx rfl (hb hby at_4) ?_
    show Steps p.tables e below (s₁.setTop (mkF m 5 #[.val (.int d0), .val (.int d1), .val (.int d2), .val (.int sl), .val (.int dd), .val (.int fz), .unset, .unset, .unset, .unset, .unset, .unset, .unset, .unset, .unset, .unset, .unset, .unset, .unset, .unset, .unset, .unset] [(.int (3 : Int32)), (.int (sl &&& (2147483647 : Int32)))])) tgt
    refine iremM X0 hx rfl (hb hby at_5) rfl (by decide) ?_
    show Steps p.tables e below (s₁.setTop (mkF m 6 #[.val (.int d0), .val (.int d1), .val (.int d2), .val (.int sl), .val (.int dd), .val (.int fz), .unset, .unset, .unset, .unset, .unset, .unset, .unset, .unset, .unset, .unset, .unset, .unset, .unset, .unset, .unset, .unset] [(.int ((sl &&& (2147483647 : Int32)) % (3 : Int32)))])) tgt
    refine XS.istore X0.here hx rfl (hb hby at_6) rfl (l' := #[.val (.int d0), .val (.int d1), .val (.int d2), .val (.int sl), .val (.int dd), .val (.int fz), .val (.int ((sl &&& (2147483647 : Int32)) % (3 : Int32))), .unset, .unset, .unset, .unset, .unset, .unset, .unset, .unset, .unset, .unset, .unset, .unset, .unset, .unset, .unset]) rfl ?_
    show Steps p.tables e below (s₁.setTop (mkF m 8 #[.val (.int d0), .val (.int d1), .val (.int d2), .val (.int sl), .val (.int dd), .val (.int fz), .val (.int ((sl &&& (2147483647 : Int32)) % (3 : Int32))), .unset, .unset, .unset, .unset, .unset, .unset, .unset, .unset, .unset, .unset, .unset, .unset, .unset, .unset, .unset] [])) tgt
    refine XS.iloadN X0.here hx rfl (hb hby at_8) rfl ?_
    show Steps p.tables e below (s₁.setTop (mkF m 9 #[.val (.int d0), .val (.int d1), .val (.int d2), .val (.int sl), .val (.int dd), .val (.int fz), .val (.int ((sl &&& (2147483647 : Int32)) % (3 : Int32))), .unset, .unset, .unset, .unset, .unset, .unset, .unset, .unset, .unset, .unset, .unset, .unset, .unset, .unset, .unset] [(.int sl)])) tgt
    refine XS.bipush X0.here hx rfl (hb hby at_9) ?_
    show Steps p.tables e below (s₁.setTop (mkF m 11 #[.val (.int d0), .val (.int d1), .val (.int d2), .val (.int sl), .val (.int dd), .val (.int fz), .val (.int ((sl &&& (2147483647 : Int32)) % (3 : Int32))), .unset, .unset, .unset, .unset, .unset, .unset, .unset, .unset, .unset, .unset, .unset, .unset, .unset, .unset, .unset] [(.int (8 : Int32)), (.int sl)])) tgt
    refine XS.iushr X0.here hx rfl (hb hby at_11) rfl ?_
    show Steps p.tables e below (s₁.setTop (mkF m 12 #[.val (.int d0), .val (.int d1), .val (.int d2), .val (.int sl), .val (.int dd), .val (.int fz), .val (.int ((sl &&& (2147483647 : Int32)) % (3 : Int32))), .unset, .unset, .unset, .unset, .unset, .unset, .unset, .unset, .unset, .unset, .unset, .unset, .unset, .unset, .unset] [(.int ((sl.toUInt32 >>> ((8 : Int32) &&& 31).toUInt32).toInt32))])) tgt
    refine XS.iconst X0.here hx rfl (hb hby at_12) ?_
    show Steps p.tables e below (s₁.setTop (mkF m 13 #[.val (.int d0), .val (.int d1), .val (.int d2), .val (.int sl), .val (.int dd), .val (.int fz), .val (.int ((sl &&& (2147483647 : Int32)) % (3 : Int32))), .unset, .unset, .unset, .unset, .unset, .unset, .unset, .unset, .unset, .unset, .unset, .unset, .unset, .unset, .unset] [(.int (1 : Int32)), (.int ((sl.toUInt32 >>> ((8 : Int32) &&& 31).toUInt32).toInt32))])) tgt
    refine XS.iand X0.here hx rfl (hb hby at_13) rfl ?_
    exact k
  obtain ⟨o0, ho0⟩ : ∃ z : Int32, z = (if (((sl.toUInt32 >>> ((8 : Int32) &&& 31).toUInt32).toInt32) &&& (1 : Int32)) = (0 : Int32) then d0 else (0 : Int32)) := ⟨_, rfl⟩
  refine own_st (V := s₁.setTop (mkF m 22 #[.val (.int d0), .val (.int d1), .val (.int d2), .val (.int sl), .val (.int dd), .val (.int fz), .val (.int ((sl &&& (2147483647 : Int32)) % (3 : Int32))), .unset, .unset, .unset, .unset, .unset, .unset, .unset, .unset, .unset, .unset, .unset, .unset, .unset, .unset, .unset] [(.int o0)])) (fun tgt k => ?_) ?_
  · skip
    by_cases hc14_2 : (((sl.toUInt32 >>> ((8 : Int32) &&& 31).toUInt32).toInt32) &&& (1 : Int32)) = (0 : Int32)
    · skip
      rw [if_pos hc14_2] at ho0
      show Steps p.tables e below (s₁.setTop (mkF m 14 #[.val (.int d0), .val (.int d1), .val (.int d2), .val (.int sl), .val (.int dd), .val (.int fz), .val (.int ((sl &&& (2147483647 : Int32)) % (3 : Int32))), .unset, .unset, .unset, .unset, .unset, .unset, .unset, .unset, .unset, .unset, .unset, .unset, .unset, .unset, .unset] [(.int (((sl.toUInt32 >>> ((8 : Int32) &&& 31).toUInt32).toInt32) &&& (1 : Int32)))])) tgt
      refine XS.ifYes X0.here hx rfl (pc0 := 14) (pc' := 21) rfl (hb hby at_14) rfl ((if0 _ _).trans (teq hc14_2).1) (by decide) (by decide) ?_
      show Steps p.tables e below (s₁.setTop (mkF m 21 #[.val (.int d0), .val (.int d1), .val (.int d2), .val (.int sl), .val (.int dd), .val (.int fz), .val (.int ((sl &&& (2147483647 : Int32)) % (3 : Int32))), .unset, .unset, .unset, .unset, .unset, .unset, .unset, .unset, .unset, .unset, .unset, .unset, .unset, .unset, .unset] [])) tgt
      refine XS.iloadN X0.here hx rfl (hb hby at_21) rfl ?_
      rw [ho0] at k
      exact k
    · skip
      rw [if_neg hc14_2] at ho0
      show Steps p.tables e below (s₁.setTop (mkF m 14 #[.val (.int d0), .val (.int d1), .val (.int d2), .val (.int sl), .val (.int dd), .val (.int fz), .val (.int ((sl &&& (2147483647 : Int32)) % (3 : Int32))), .unset, .unset, .unset, .unset, .unset, .unset, .unset, .unset, .unset, .unset, .unset, .unset, .unset, .unset, .unset] [(.int (((sl.toUInt32 >>> ((8 : Int32) &&& 31).toUInt32).toInt32) &&& (1 : Int32)))])) tgt
      refine XS.ifNo X0.here hx rfl (hb hby at_14) rfl ((if0 _ _).trans (feq hc14_2).1) ?_
      show Steps p.tables e below (s₁.setTop (mkF m 17 #[.val (.int d0), .val (.int d1), .val (.int d2), .val (.int sl), .val (.int dd), .val (.int fz), .val (.int ((sl &&& (2147483647 : Int32)) % (3 : Int32))), .unset, .unset, .unset, .unset, .unset, .unset, .unset, .unset, .unset, .unset, .unset, .unset, .unset, .unset, .unset] [])) tgt
      refine XS.iconst X0.here hx rfl (hb hby at_17) ?_
      show Steps p.tables e below (s₁.setTop (mkF m 18 #[.val (.int d0), .val (.int d1), .val (.int d2), .val (.int sl), .val (.int dd), .val (.int fz), .val (.int ((sl &&& (2147483647 : Int32)) % (3 : Int32))), .unset, .unset, .unset, .unset, .unset, .unset, .unset, .unset, .unset, .unset, .unset, .unset, .unset, .unset, .unset] [(.int (0 : Int32))])) tgt
      refine XS.goto X0.here hx rfl (pc0 := 18) (pc' := 22) rfl (hb hby at_18) (by decide) (by decide) ?_
      rw [ho0] at k
      exact k
  refine own_st (V := s₁.setTop (mkF m 30 #[.val (.int d0), .val (.int d1), .val (.int d2), .val (.int sl), .val (.int dd), .val (.int fz), .val (.int ((sl &&& (2147483647 : Int32)) % (3 : Int32))), .val (.int o0), .unset, .unset, .unset, .unset, .unset, .unset, .unset, .unset, .unset, .unset, .unset, .unset, .unset, .unset] [(.int (((sl.toUInt32 >>> ((9 : Int32) &&& 31).toUInt32).toInt32) &&& (1 : Int32)))])) (fun tgt k => ?_) ?_
  · show Steps p.tables e below (s₁.setTop (mkF m 22 #[.val (.int d0), .val (.int d1), .val (.int d2), .val (.int sl), .val (.int dd), .val (.int fz), .val (.int ((sl &&& (2147483647 : Int32)) % (3 : Int32))), .unset, .unset, .unset, .unset, .unset, .unset, .unset, .unset, .unset, .unset, .unset, .unset, .unset, .unset, .unset] [(.int o0)])) tgt
    refine XS.istore X0.here hx rfl (hb hby at_22) rfl (l' := #[.val (.int d0), .val (.int d1), .val (.int d2), .val (.int sl), .val (.int dd), .val (.int fz), .val (.int ((sl &&& (2147483647 : Int32)) % (3 : Int32))), .val (.int o0), .unset, .unset, .unset, .unset, .unset, .unset, .unset, .unset, .unset, .unset, .unset, .unset, .unset, .unset]) rfl ?_
    show Steps p.tables e below (s₁.setTop (mkF m 24 #[.val (.int d0), .val (.int d1), .val (.int d2), .val (.int sl), .val (.int dd), .val (.int fz), .val (.int ((sl &&& (2147483647 : Int32)) % (3 : Int32))), .val (.int o0), .unset, .unset, .unset, .unset, .unset, .unset, .unset, .unset, .unset, .unset, .unset, .unset, .unset, .unset] [])) tgt
    refine XS.iloadN X0.here hx rfl (hb hby at_24) rfl ?_
    show Steps p.tables e below (s₁.setTop (mkF m 25 #[.val (.int d0), .val (.int d1), .val (.int d2), .val (.int sl), .val (.int dd), .val (.int fz), .val (.int ((sl &&& (2147483647 : Int32)) % (3 : Int32))), .val (.int o0), .unset, .unset, .unset, .unset, .unset, .unset, .unset, .unset, .unset, .unset, .unset, .unset, .unset, .unset] [(.int sl)])) tgt
    refine XS.bipush X0.here hx rfl (hb hby at_25) ?_
    show Steps p.tables e below (s₁.setTop (mkF m 27 #[.val (.int d0), .val (.int d1), .val (.int d2), .val (.int sl), .val (.int dd), .val (.int fz), .val (.int ((sl &&& (2147483647 : Int32)) % (3 : Int32))), .val (.int o0), .unset, .unset, .unset, .unset, .unset, .unset, .unset, .unset, .unset, .unset, .unset, .unset, .unset, .unset] [(.int (9 : Int32)), (.int sl)])) tgt
    refine XS.iushr X0.here hx rfl (hb hby at_27) rfl ?_
    show Steps p.tables e below (s₁.setTop (mkF m 28 #[.val (.int d0), .val (.int d1), .val (.int d2), .val (.int sl), .val (.int dd), .val (.int fz), .val (.int ((sl &&& (2147483647 : Int32)) % (3 : Int32))), .val (.int o0), .unset, .unset, .unset, .unset, .unset, .unset, .unset, .unset, .unset, .unset, .unset, .unset, .unset, .unset] [(.int ((sl.toUInt32 >>> ((9 : Int32) &&& 31).toUInt32).toInt32))])) tgt
    refine XS.iconst X0.here hx rfl (hb hby at_28) ?_
    show Steps p.tables e below (s₁.setTop (mkF m 29 #[.val (.int d0), .val (.int d1), .val (.int d2), .val (.int sl), .val (.int dd), .val (.int fz), .val (.int ((sl &&& (2147483647 : Int32)) % (3 : Int32))), .val (.int o0), .unset, .unset, .unset, .unset, .unset, .unset, .unset, .unset, .unset, .unset, .unset, .unset, .unset, .unset] [(.int (1 : Int32)), (.int ((sl.toUInt32 >>> ((9 : Int32) &&& 31).toUInt32).toInt32))])) tgt
    refine XS.iand X0.here hx rfl (hb hby at_29) rfl ?_
    exact k
  obtain ⟨o1, ho1⟩ : ∃ z : Int32, z = (if (((sl.toUInt32 >>> ((9 : Int32) &&& 31).toUInt32).toInt32) &&& (1 : Int32)) = (0 : Int32) then d1 else (0 : Int32)) := ⟨_, rfl⟩
  refine own_st (V := s₁.setTop (mkF m 38 #[.val (.int d0), .val (.int d1), .val (.int d2), .val (.int sl), .val (.int dd), .val (.int fz), .val (.int ((sl &&& (2147483647 : Int32)) % (3 : Int32))), .val (.int o0), .unset, .unset, .unset, .unset, .unset, .unset, .unset, .unset, .unset, .unset, .unset, .unset, .unset, .unset] [(.int o1)])) (fun tgt k => ?_) ?_
  · skip
    by_cases hc30_2 : (((sl.toUInt32 >>> ((9 : Int32) &&& 31).toUInt32).toInt32) &&& (1 : Int32)) = (0 : Int32)
    · skip
      rw [if_pos hc30_2] at ho1
      show Steps p.tables e below (s₁.setTop (mkF m 30 #[.val (.int d0), .val (.int d1), .val (.int d2), .val (.int sl), .val (.int dd), .val (.int fz), .val (.int ((sl &&& (2147483647 : Int32)) % (3 : Int32))), .val (.int o0), .unset, .unset, .unset, .unset, .unset, .unset, .unset, .unset, .unset, .unset, .unset, .unset, .unset, .unset] [(.int (((sl.toUInt32 >>> ((9 : Int32) &&& 31).toUInt32).toInt32) &&& (1 : Int32)))])) tgt
      refine XS.ifYes X0.here hx rfl (pc0 := 30) (pc' := 37) rfl (hb hby at_30) rfl ((if0 _ _).trans (teq hc30_2).1) (by decide) (by decide) ?_
      show Steps p.tables e below (s₁.setTop (mkF m 37 #[.val (.int d0), .val (.int d1), .val (.int d2), .val (.int sl), .val (.int dd), .val (.int fz), .val (.int ((sl &&& (2147483647 : Int32)) % (3 : Int32))), .val (.int o0), .unset, .unset, .unset, .unset, .unset, .unset, .unset, .unset, .unset, .unset, .unset, .unset, .unset, .unset] [])) tgt
      refine XS.iloadN X0.here hx rfl (hb hby at_37) rfl ?_
      rw [ho1] at k
      exact k
    · skip
      rw [if_neg hc30_2] at ho1
      show Steps p.tables e below (s₁.setTop (mkF m 30 #[.val (.int d0), .val (.int d1), .val (.int d2), .val (.int sl), .val (.int dd), .val (.int fz), .val (.int ((sl &&& (2147483647 : Int32)) % (3 : Int32))), .val (.int o0), .unset, .unset, .unset, .unset, .unset, .unset, .unset, .unset, .unset, .unset, .unset, .unset, .unset, .unset] [(.int (((sl.toUInt32 >>> ((9 : Int32) &&& 31).toUInt32).toInt32) &&& (1 : Int32)))])) tgt
      refine XS.ifNo X0.here hx rfl (hb hby at_30) rfl ((if0 _ _).trans (feq hc30_2).1) ?_
      show Steps p.tables e below (s₁.setTop (mkF m 33 #[.val (.int d0), .val (.int d1), .val (.int d2), .val (.int sl), .val (.int dd), .val (.int fz), .val (.int ((sl &&& (2147483647 : Int32)) % (3 : Int32))), .val (.int o0), .unset, .unset, .unset, .unset, .unset, .unset, .unset, .unset, .unset, .unset, .unset, .unset, .unset, .unset] [])) tgt
      refine XS.iconst X0.here hx rfl (hb hby at_33) ?_
      show Steps p.tables e below (s₁.setTop (mkF m 34 #[.val (.int d0), .val (.int d1), .val (.int d2), .val (.int sl), .val (.int dd), .val (.int fz), .val (.int ((sl &&& (2147483647 : Int32)) % (3 : Int32))), .val (.int o0), .unset, .unset, .unset, .unset, .unset, .unset, .unset, .unset, .unset, .unset, .unset, .unset, .unset, .unset] [(.int (0 : Int32))])) tgt
      refine XS.goto X0.here hx rfl (pc0 := 34) (pc' := 38) rfl (hb hby at_34) (by decide) (by decide) ?_
      rw [ho1] at k
      exact k
  refine own_st (V := s₁.setTop (mkF m 46 #[.val (.int d0), .val (.int d1), .val (.int d2), .val (.int sl), .val (.int dd), .val (.int fz), .val (.int ((sl &&& (2147483647 : Int32)) % (3 : Int32))), .val (.int o0), .val (.int o1), .unset, .unset, .unset, .unset, .unset, .unset, .unset, .unset, .unset, .unset, .unset, .unset, .unset] [(.int (((sl.toUInt32 >>> ((10 : Int32) &&& 31).toUInt32).toInt32) &&& (1 : Int32)))])) (fun tgt k => ?_) ?_
  · show Steps p.tables e below (s₁.setTop (mkF m 38 #[.val (.int d0), .val (.int d1), .val (.int d2), .val (.int sl), .val (.int dd), .val (.int fz), .val (.int ((sl &&& (2147483647 : Int32)) % (3 : Int32))), .val (.int o0), .unset, .unset, .unset, .unset, .unset, .unset, .unset, .unset, .unset, .unset, .unset, .unset, .unset, .unset] [(.int o1)])) tgt
    refine XS.istore X0.here hx rfl (hb hby at_38) rfl (l' := #[.val (.int d0), .val (.int d1), .val (.int d2), .val (.int sl), .val (.int dd), .val (.int fz), .val (.int ((sl &&& (2147483647 : Int32)) % (3 : Int32))), .val (.int o0), .val (.int o1), .unset, .unset, .unset, .unset, .unset, .unset, .unset, .unset, .unset, .unset, .unset, .unset, .unset]) rfl ?_
    show Steps p.tables e below (s₁.setTop (mkF m 40 #[.val (.int d0), .val (.int d1), .val (.int d2), .val (.int sl), .val (.int dd), .val (.int fz), .val (.int ((sl &&& (2147483647 : Int32)) % (3 : Int32))), .val (.int o0), .val (.int o1), .unset, .unset, .unset, .unset, .unset, .unset, .unset, .unset, .unset, .unset, .unset, .unset, .unset] [])) tgt
    refine XS.iloadN X0.here hx rfl (hb hby at_40) rfl ?_
    show Steps p.tables e below (s₁.setTop (mkF m 41 #[.val (.int d0), .val (.int d1), .val (.int d2), .val (.int sl), .val (.int dd), .val (.int fz), .val (.int ((sl &&& (2147483647 : Int32)) % (3 : Int32))), .val (.int o0), .val (.int o1), .unset, .unset, .unset, .unset, .unset, .unset, .unset, .unset, .unset, .unset, .unset, .unset, .unset] [(.int sl)])) tgt
    refine XS.bipush X0.here hx rfl (hb hby at_41) ?_
    show Steps p.tables e below (s₁.setTop (mkF m 43 #[.val (.int d0), .val (.int d1), .val (.int d2), .val (.int sl), .val (.int dd), .val (.int fz), .val (.int ((sl &&& (2147483647 : Int32)) % (3 : Int32))), .val (.int o0), .val (.int o1), .unset, .unset, .unset, .unset, .unset, .unset, .unset, .unset, .unset, .unset, .unset, .unset, .unset] [(.int (10 : Int32)), (.int sl)])) tgt
    refine XS.iushr X0.here hx rfl (hb hby at_43) rfl ?_
    show Steps p.tables e below (s₁.setTop (mkF m 44 #[.val (.int d0), .val (.int d1), .val (.int d2), .val (.int sl), .val (.int dd), .val (.int fz), .val (.int ((sl &&& (2147483647 : Int32)) % (3 : Int32))), .val (.int o0), .val (.int o1), .unset, .unset, .unset, .unset, .unset, .unset, .unset, .unset, .unset, .unset, .unset, .unset, .unset] [(.int ((sl.toUInt32 >>> ((10 : Int32) &&& 31).toUInt32).toInt32))])) tgt
    refine XS.iconst X0.here hx rfl (hb hby at_44) ?_
    show Steps p.tables e below (s₁.setTop (mkF m 45 #[.val (.int d0), .val (.int d1), .val (.int d2), .val (.int sl), .val (.int dd), .val (.int fz), .val (.int ((sl &&& (2147483647 : Int32)) % (3 : Int32))), .val (.int o0), .val (.int o1), .unset, .unset, .unset, .unset, .unset, .unset, .unset, .unset, .unset, .unset, .unset, .unset, .unset] [(.int (1 : Int32)), (.int ((sl.toUInt32 >>> ((10 : Int32) &&& 31).toUInt32).toInt32))])) tgt
    refine XS.iand X0.here hx rfl (hb hby at_45) rfl ?_
    exact k
  obtain ⟨o2, ho2⟩ : ∃ z : Int32, z = (if (((sl.toUInt32 >>> ((10 : Int32) &&& 31).toUInt32).toInt32) &&& (1 : Int32)) = (0 : Int32) then d2 else (0 : Int32)) := ⟨_, rfl⟩
  refine own_st (V := s₁.setTop (mkF m 54 #[.val (.int d0), .val (.int d1), .val (.int d2), .val (.int sl), .val (.int dd), .val (.int fz), .val (.int ((sl &&& (2147483647 : Int32)) % (3 : Int32))), .val (.int o0), .val (.int o1), .unset, .unset, .unset, .unset, .unset, .unset, .unset, .unset, .unset, .unset, .unset, .unset, .unset] [(.int o2)])) (fun tgt k => ?_) ?_
  · skip
    by_cases hc46_2 : (((sl.toUInt32 >>> ((10 : Int32) &&& 31).toUInt32).toInt32) &&& (1 : Int32)) = (0 : Int32)
    · skip
      rw [if_pos hc46_2] at ho2
      show Steps p.tables e below (s₁.setTop (mkF m 46 #[.val (.int d0), .val (.int d1), .val (.int d2), .val (.int sl), .val (.int dd), .val (.int fz), .val (.int ((sl &&& (2147483647 : Int32)) % (3 : Int32))), .val (.int o0), .val (.int o1), .unset, .unset, .unset, .unset, .unset, .unset, .unset, .unset, .unset, .unset, .unset, .unset, .unset] [(.int (((sl.toUInt32 >>> ((10 : Int32) &&& 31).toUInt32).toInt32) &&& (1 : Int32)))])) tgt
      refine XS.ifYes X0.here hx rfl (pc0 := 46) (pc' := 53) rfl (hb hby at_46) rfl ((if0 _ _).trans (teq hc46_2).1) (by decide) (by decide) ?_
      show Steps p.tables e below (s₁.setTop (mkF m 53 #[.val (.int d0), .val (.int d1), .val (.int d2), .val (.int sl), .val (.int dd), .val (.int fz), .val (.int ((sl &&& (2147483647 : Int32)) % (3 : Int32))), .val (.int o0), .val (.int o1), .unset, .unset, .unset, .unset, .unset, .unset, .unset, .unset, .unset, .unset, .unset, .unset, .unset] [])) tgt
      refine XS.iloadN X0.here hx rfl (hb hby at_53) rfl ?_
      rw [ho2] at k
      exact k
    · skip
      rw [if_neg hc46_2] at ho2
      show Steps p.tables e below (s₁.setTop (mkF m 46 #[.val (.int d0), .val (.int d1), .val (.int d2), .val (.int sl), .val (.int dd), .val (.int fz), .val (.int ((sl &&& (2147483647 : Int32)) % (3 : Int32))), .val (.int o0), .val (.int o1), .unset, .unset, .unset, .unset, .unset, .unset, .unset, .unset, .unset, .unset, .unset, .unset, .unset] [(.int (((sl.toUInt32 >>> ((10 : Int32) &&& 31).toUInt32).toInt32) &&& (1 : Int32)))])) tgt
      refine XS.ifNo X0.here hx rfl (hb hby at_46) rfl ((if0 _ _).trans (feq hc46_2).1) ?_
      show Steps p.tables e below (s₁.setTop (mkF m 49 #[.val (.int d0), .val (.int d1), .val (.int d2), .val (.int sl), .val (.int dd), .val (.int fz), .val (.int ((sl &&& (2147483647 : Int32)) % (3 : Int32))), .val (.int o0), .val (.int o1), .unset, .unset, .unset, .unset, .unset, .unset, .unset, .unset, .unset, .unset, .unset, .unset, .unset] [])) tgt
      refine XS.iconst X0.here hx rfl (hb hby at_49) ?_
      show Steps p.tables e below (s₁.setTop (mkF m 50 #[.val (.int d0), .val (.int d1), .val (.int d2), .val (.int sl), .val (.int dd), .val (.int fz), .val (.int ((sl &&& (2147483647 : Int32)) % (3 : Int32))), .val (.int o0), .val (.int o1), .unset, .unset, .unset, .unset, .unset, .unset, .unset, .unset, .unset, .unset, .unset, .unset, .unset] [(.int (0 : Int32))])) tgt
      refine XS.goto X0.here hx rfl (pc0 := 50) (pc' := 54) rfl (hb hby at_50) (by decide) (by decide) ?_
      rw [ho2] at k
      exact k
  refine own_st (V := s₁.setTop (mkF m 58 #[.val (.int d0), .val (.int d1), .val (.int d2), .val (.int sl), .val (.int dd), .val (.int fz), .val (.int ((sl &&& (2147483647 : Int32)) % (3 : Int32))), .val (.int o0), .val (.int o1), .val (.int o2), .unset, .unset, .unset, .unset, .unset, .unset, .unset, .unset, .unset, .unset, .unset, .unset] [(.int dd)])) (fun tgt k => ?_) ?_
  · show Steps p.tables e below (s₁.setTop (mkF m 54 #[.val (.int d0), .val (.int d1), .val (.int d2), .val (.int sl), .val (.int dd), .val (.int fz), .val (.int ((sl &&& (2147483647 : Int32)) % (3 : Int32))), .val (.int o0), .val (.int o1), .unset, .unset, .unset, .unset, .unset, .unset, .unset, .unset, .unset, .unset, .unset, .unset, .unset] [(.int o2)])) tgt
    refine XS.istore X0.here hx rfl (hb hby at_54) rfl (l' := #[.val (.int d0), .val (.int d1), .val (.int d2), .val (.int sl), .val (.int dd), .val (.int fz), .val (.int ((sl &&& (2147483647 : Int32)) % (3 : Int32))), .val (.int o0), .val (.int o1), .val (.int o2), .unset, .unset, .unset, .unset, .unset, .unset, .unset, .unset, .unset, .unset, .unset, .unset]) rfl ?_
    show Steps p.tables e below (s₁.setTop (mkF m 56 #[.val (.int d0), .val (.int d1), .val (.int d2), .val (.int sl), .val (.int dd), .val (.int fz), .val (.int ((sl &&& (2147483647 : Int32)) % (3 : Int32))), .val (.int o0), .val (.int o1), .val (.int o2), .unset, .unset, .unset, .unset, .unset, .unset, .unset, .unset, .unset, .unset, .unset, .unset] [])) tgt
    refine XS.iload X0.here hx rfl (hb hby at_56) rfl ?_
    exact k
  obtain ⟨dn, hdn⟩ : ∃ z : Int32, z = (if dd = (0 : Int32) then (1 : Int32) else dd) := ⟨_, rfl⟩
  refine own_st (V := s₁.setTop (mkF m 67 #[.val (.int d0), .val (.int d1), .val (.int d2), .val (.int sl), .val (.int dd), .val (.int fz), .val (.int ((sl &&& (2147483647 : Int32)) % (3 : Int32))), .val (.int o0), .val (.int o1), .val (.int o2), .unset, .unset, .unset, .unset, .unset, .unset, .unset, .unset, .unset, .unset, .unset, .unset] [(.int dn)])) (fun tgt k => ?_) ?_
  · skip
    by_cases hc58_2 : dd = (0 : Int32)
    · skip
      rw [if_pos hc58_2] at hdn
      show Steps p.tables e below (s₁.setTop (mkF m 58 #[.val (.int d0), .val (.int d1), .val (.int d2), .val (.int sl), .val (.int dd), .val (.int fz), .val (.int ((sl &&& (2147483647 : Int32)) % (3 : Int32))), .val (.int o0), .val (.int o1), .val (.int o2), .unset, .unset, .unset, .unset, .unset, .unset, .unset, .unset, .unset, .unset, .unset, .unset] [(.int dd)])) tgt
      refine XS.ifNo X0.here hx rfl (hb hby at_58) rfl ((if0 _ _).trans (teq hc58_2).2) ?_
      show Steps p.tables e below (s₁.setTop (mkF m 61 #[.val (.int d0), .val (.int d1), .val (.int d2), .val (.int sl), .val (.int dd), .val (.int fz), .val (.int ((sl &&& (2147483647 : Int32)) % (3 : Int32))), .val (.int o0), .val (.int o1), .val (.int o2), .unset, .unset, .unset, .unset, .unset, .unset, .unset, .unset, .unset, .unset, .unset, .unset] [])) tgt
      refine XS.iconst X0.here hx rfl (hb hby at_61) ?_
      show Steps p.tables e below (s₁.setTop (mkF m 62 #[.val (.int d0), .val (.int d1), .val (.int d2), .val (.int sl), .val (.int dd), .val (.int fz), .val (.int ((sl &&& (2147483647 : Int32)) % (3 : Int32))), .val (.int o0), .val (.int o1), .val (.int o2), .unset, .unset, .unset, .unset, .unset, .unset, .unset, .unset, .unset, .unset, .unset, .unset] [(.int (1 : Int32))])) tgt
      refine XS.goto X0.here hx rfl (pc0 := 62) (pc' := 67) rfl (hb hby at_62) (by decide) (by decide) ?_
      rw [hdn] at k
      exact k
    · skip
      rw [if_neg hc58_2] at hdn
      show Steps p.tables e below (s₁.setTop (mkF m 58 #[.val (.int d0), .val (.int d1), .val (.int d2), .val (.int sl), .val (.int dd), .val (.int fz), .val (.int ((sl &&& (2147483647 : Int32)) % (3 : Int32))), .val (.int o0), .val (.int o1), .val (.int o2), .unset, .unset, .unset, .unset, .unset, .unset, .unset, .unset, .unset, .unset, .unset, .unset] [(.int dd)])) tgt
      refine XS.ifYes X0.here hx rfl (pc0 := 58) (pc' := 65) rfl (hb hby at_58) rfl ((if0 _ _).trans (feq hc58_2).2) (by decide) (by decide) ?_
      show Steps p.tables e below (s₁.setTop (mkF m 65 #[.val (.int d0), .val (.int d1), .val (.int d2), .val (.int sl), .val (.int dd), .val (.int fz), .val (.int ((sl &&& (2147483647 : Int32)) % (3 : Int32))), .val (.int o0), .val (.int o1), .val (.int o2), .unset, .unset, .unset, .unset, .unset, .unset, .unset, .unset, .unset, .unset, .unset, .unset] [])) tgt
      refine XS.iload X0.here hx rfl (hb hby at_65) rfl ?_
      rw [hdn] at k
      exact k
  have hdn0 : dn ≠ 0 := by
    rw [hdn]
    split
    · decide
    · assumption
  refine own_st (V := s₁.setTop (mkF m 71 #[.val (.int d0), .val (.int d1), .val (.int d2), .val (.int sl), .val (.int dd), .val (.int fz), .val (.int ((sl &&& (2147483647 : Int32)) % (3 : Int32))), .val (.int o0), .val (.int o1), .val (.int o2), .val (.int dn), .unset, .unset, .unset, .unset, .unset, .unset, .unset, .unset, .unset, .unset, .unset] [(.int o0)])) (fun tgt k => ?_) ?_
  · show Steps p.tables e below (s₁.setTop (mkF m 67 #[.val (.int d0), .val (.int d1), .val (.int d2), .val (.int sl), .val (.int dd), .val (.int fz), .val (.int ((sl &&& (2147483647 : Int32)) % (3 : Int32))), .val (.int o0), .val (.int o1), .val (.int o2), .unset, .unset, .unset, .unset, .unset, .unset, .unset, .unset, .unset, .unset, .unset, .unset] [(.int dn)])) tgt
    refine XS.istore X0.here hx rfl (hb hby at_67) rfl (l' := #[.val (.int d0), .val (.int d1), .val (.int d2), .val (.int sl), .val (.int dd), .val (.int fz), .val (.int ((sl &&& (2147483647 : Int32)) % (3 : Int32))), .val (.int o0), .val (.int o1), .val (.int o2), .val (.int dn), .unset, .unset, .unset, .unset, .unset, .unset, .unset, .unset, .unset, .unset, .unset]) rfl ?_
    show Steps p.tables e below (s₁.setTop (mkF m 69 #[.val (.int d0), .val (.int d1), .val (.int d2), .val (.int sl), .val (.int dd), .val (.int fz), .val (.int ((sl &&& (2147483647 : Int32)) % (3 : Int32))), .val (.int o0), .val (.int o1), .val (.int o2), .val (.int dn), .unset, .unset, .unset, .unset, .unset, .unset, .unset, .unset, .unset, .unset, .unset] [])) tgt
    refine XS.iload X0.here hx rfl (hb hby at_69) rfl ?_
    exact k
  obtain ⟨_, _, ⟨T1, L1, k1, n1⟩, -, X1, ⟨Lc1, hQ1, l1, y1, z1⟩, st1⟩ := Jvm.LawKit.callS X0 hx (y := (⟨"com/example/chainwright/chainwright/StateChoosePinLaw", "nz", "(I)I"⟩ : MethodName)) hown (mvT hZ (hw _ (List.mem_of_getElem? (i := 1) rfl))) (mvT hZ (hw _ (List.mem_of_getElem? (i := 2) rfl))) (mvT hZ (hw _ (List.mem_of_getElem? (i := 3) rfl))) (mvT hZ (hw _ (List.mem_of_getElem? (i := 4) rfl))) (by decide) (backOf (W := 0) (rm1 l Z a0 hw [] o0 h0 n0 Z0 ) hZ (hw _ (List.mem_of_getElem? (i := 4) rfl)) (hw _ (List.mem_of_getElem? (i := 3) rfl)) (by decide) (by decide)) (g := (mkF m 71 #[.val (.int d0), .val (.int d1), .val (.int d2), .val (.int sl), .val (.int dd), .val (.int fz), .val (.int ((sl &&& (2147483647 : Int32)) % (3 : Int32))), .val (.int o0), .val (.int o1), .val (.int o2), .val (.int dn), .unset, .unset, .unset, .unset, .unset, .unset, .unset, .unset, .unset, .unset, .unset] [(.int o0)])) rfl (by rw [hml]; rfl) (argsL := [(.int o0)]) (rest := []) (lenOf pd_0_0 rfl) rfl (by show 2 * 0 + _ ≤ _; exact Nat.le_of_eq rfl) (hb hby at_71) (fun _ _ => ⟨rfl, e0, (by decide : 0 + 0 ≤ _), (by decide : 0 + 0 ≤ _)⟩)
  dsimp only [Pt.U, Pt.locs, Pt.cells, Pt.slots] at X1 l1 y1 z1 st1 hQ1
  subst l1 y1 z1
  obtain ⟨rfl, N1q, K1⟩ := hQ1
  have N1 := Fr.app N0 N1q
  refine own_st st1 ?_
  show own_Go p e below _ (T1.setTop (mkF m 74 #[.val (.int d0), .val (.int d1), .val (.int d2), .val (.int sl), .val (.int dd), .val (.int fz), .val (.int ((sl &&& (2147483647 : Int32)) % (3 : Int32))), .val (.int o0), .val (.int o1), .val (.int o2), .val (.int dn), .unset, .unset, .unset, .unset, .unset, .unset, .unset, .unset, .unset, .unset, .unset] [(.int (own_nz o0))]))
  refine own_st (V := T1.setTop (mkF m 76 #[.val (.int d0), .val (.int d1), .val (.int d2), .val (.int sl), .val (.int dd), .val (.int fz), .val (.int ((sl &&& (2147483647 : Int32)) % (3 : Int32))), .val (.int o0), .val (.int o1), .val (.int o2), .val (.int dn), .unset, .unset, .unset, .unset, .unset, .unset, .unset, .unset, .unset, .unset, .unset] [(.int o1), (.int (own_nz o0))])) (fun tgt k => ?_) ?_
  · show Steps p.tables e below (T1.setTop (mkF m 74 #[.val (.int d0), .val (.int d1), .val (.int d2), .val (.int sl), .val (.int dd), .val (.int fz), .val (.int ((sl &&& (2147483647 : Int32)) % (3 : Int32))), .val (.int o0), .val (.int o1), .val (.int o2), .val (.int dn), .unset, .unset, .unset, .unset, .unset, .unset, .unset, .unset, .unset, .unset, .unset] [(.int (own_nz o0))])) tgt
    refine XS.iload X1.here hx rfl (hb hby at_74) rfl ?_
    exact k
  obtain ⟨_, _, ⟨T2, L2, k2, n2⟩, -, X2, ⟨Lc2, hQ2, l2, y2, z2⟩, st2⟩ := Jvm.LawKit.callS X1 hx (y := (⟨"com/example/chainwright/chainwright/StateChoosePinLaw", "nz", "(I)I"⟩ : MethodName)) hown (mvT hZ (hw _ (List.mem_of_getElem? (i := 1) rfl))) (mvT hZ (hw _ (List.mem_of_getElem? (i := 2) rfl))) (mvT hZ (hw _ (List.mem_of_getElem? (i := 3) rfl))) (mvT hZ (hw _ (List.mem_of_getElem? (i := 4) rfl))) (by decide) (backOf (W := 1) (rm1 l Z a0 hw [] o1 h0 n0 Z0 ) hZ (hw _ (List.mem_of_getElem? (i := 4) rfl)) (hw _ (List.mem_of_getElem? (i := 3) rfl)) (by decide) (by decide)) (g := (mkF m 76 #[.val (.int d0), .val (.int d1), .val (.int d2), .val (.int sl), .val (.int dd), .val (.int fz), .val (.int ((sl &&& (2147483647 : Int32)) % (3 : Int32))), .val (.int o0), .val (.int o1), .val (.int o2), .val (.int dn), .unset, .unset, .unset, .unset, .unset, .unset, .unset, .unset, .unset, .unset, .unset] [(.int o1), (.int (own_nz o0))])) rfl (by rw [hml]; rfl) (argsL := [(.int o1)]) (rest := [(.int (own_nz o0))]) (lenOf pd_0_0 rfl) rfl (by show 2 * 0 + _ ≤ _; exact Nat.le_of_eq rfl) (hb hby at_76) (fun _ _ => ⟨rfl, K1, (by decide : 0 + 0 ≤ _), (by decide : 0 + 0 ≤ _)⟩)
  dsimp only [Pt.U, Pt.locs, Pt.cells, Pt.slots] at X2 l2 y2 z2 st2 hQ2
  subst l2 y2 z2
  obtain ⟨rfl, N2q, K2⟩ := hQ2
  have N2 := Fr.app N1 N2q
  refine own_st st2 ?_
  show own_Go p e below _ (T2.setTop (mkF m 79 #[.val (.int d0), .val (.int d1), .val (.int d2), .val (.int sl), .val (.int dd), .val (.int fz), .val (.int ((sl &&& (2147483647 : Int32)) % (3 : Int32))), .val (.int o0), .val (.int o1), .val (.int o2), .val (.int dn), .unset, .unset, .unset, .unset, .unset, .unset, .unset, .unset, .unset, .unset, .unset] [(.int (own_nz o1)), (.int (own_nz o0))]))
  refine own_st (V := T2.setTop (mkF m 82 #[.val (.int d0), .val (.int d1), .val (.int d2), .val (.int sl), .val (.int dd), .val (.int fz), .val (.int ((sl &&& (2147483647 : Int32)) % (3 : Int32))), .val (.int o0), .val (.int o1), .val (.int o2), .val (.int dn), .unset, .unset, .unset, .unset, .unset, .unset, .unset, .unset, .unset, .unset, .unset] [(.int o2), (.int ((own_nz o0) + (own_nz o1)))])) (fun tgt k => ?_) ?_
  · show Steps p.tables e below (T2.setTop (mkF m 79 #[.val (.int d0), .val (.int d1), .val (.int d2), .val (.int sl), .val (.int dd), .val (.int fz), .val (.int ((sl &&& (2147483647 : Int32)) % (3 : Int32))), .val (.int o0), .val (.int o1), .val (.int o2), .val (.int dn), .unset, .unset, .unset, .unset, .unset, .unset, .unset, .unset, .unset, .unset, .unset] [(.int (own_nz o1)), (.int (own_nz o0))])) tgt
    refine XS.iadd X2.here hx rfl (hb hby at_79) rfl ?_
    show Steps p.tables e below (T2.setTop (mkF m 80 #[.val (.int d0), .val (.int d1), .val (.int d2), .val (.int sl), .val (.int dd), .val (.int fz), .val (.int ((sl &&& (2147483647 : Int32)) % (3 : Int32))), .val (.int o0), .val (.int o1), .val (.int o2), .val (.int dn), .unset, .unset, .unset, .unset, .unset, .unset, .unset, .unset, .unset, .unset, .unset] [(.int ((own_nz o0) + (own_nz o1)))])) tgt
    refine XS.iload X2.here hx rfl (hb hby at_80) rfl ?_
    exact k
  obtain ⟨_, _, ⟨T3, L3, k3, n3⟩, -, X3, ⟨Lc3, hQ3, l3, y3, z3⟩, st3⟩ := Jvm.LawKit.callS X2 hx (y := (⟨"com/example/chainwright/chainwright/StateChoosePinLaw", "nz", "(I)I"⟩ : MethodName)) hown (mvT hZ (hw _ (List.mem_of_getElem? (i := 1) rfl))) (mvT hZ (hw _ (List.mem_of_getElem? (i := 2) rfl))) (mvT hZ (hw _ (List.mem_of_getElem? (i := 3) rfl))) (mvT hZ (hw _ (List.mem_of_getElem? (i := 4) rfl))) (by decide) (backOf (W := 1) (rm1 l Z a0 hw [] o2 h0 n0 Z0 ) hZ (hw _ (List.mem_of_getElem? (i := 4) rfl)) (hw _ (List.mem_of_getElem? (i := 3) rfl)) (by decide) (by decide)) (g := (mkF m 82 #[.val (.int d0), .val (.int d1), .val (.int d2), .val (.int sl), .val (.int dd), .val (.int fz), .val (.int ((sl &&& (2147483647 : Int32)) % (3 : Int32))), .val (.int o0), .val (.int o1), .val (.int o2), .val (.int dn), .unset, .unset, .unset, .unset, .unset, .unset, .unset, .unset, .unset, .unset, .unset] [(.int o2), (.int ((own_nz o0) + (own_nz o1)))])) rfl (by rw [hml]; rfl) (argsL := [(.int o2)]) (rest := [(.int ((own_nz o0) + (own_nz o1)))]) (lenOf pd_0_0 rfl) rfl (by show 2 * 0 + _ ≤ _; exact Nat.le_of_eq rfl) (hb hby at_82) (fun _ _ => ⟨rfl, K2, (by decide : 0 + 0 ≤ _), (by decide : 0 + 0 ≤ _)⟩)
  dsimp only [Pt.U, Pt.locs, Pt.cells, Pt.slots] at X3 l3 y3 z3 st3 hQ3
  subst l3 y3 z3
  obtain ⟨rfl, N3q, K3⟩ := hQ3
  have N3 := Fr.app N2 N3q
  refine own_st st3 ?_
  show own_Go p e below _ (T3.setTop (mkF m 85 #[.val (.int d0), .val (.int d1), .val (.int d2), .val (.int sl), .val (.int dd), .val (.int fz), .val (.int ((sl &&& (2147483647 : Int32)) % (3 : Int32))), .val (.int o0), .val (.int o1), .val (.int o2), .val (.int dn), .unset, .unset, .unset, .unset, .unset, .unset, .unset, .unset, .unset, .unset, .unset] [(.int (own_nz o2)), (.int ((own_nz o0) + (own_nz o1)))]))
  refine own_st (V := T3.setTop (mkF m 89 #[.val (.int d0), .val (.int d1), .val (.int d2), .val (.int sl), .val (.int dd), .val (.int fz), .val (.int ((sl &&& (2147483647 : Int32)) % (3 : Int32))), .val (.int o0), .val (.int o1), .val (.int o2), .val (.int dn), .val (.int (((own_nz o0) + (own_nz o1)) + (own_nz o2))), .unset, .unset, .unset, .unset, .unset, .unset, .unset, .unset, .unset, .unset] [(.int (3 : Int32))])) (fun tgt k => ?_) ?_
  · show Steps p.tables e below (T3.setTop (mkF m 85 #[.val (.int d0), .val (.int d1), .val (.int d2), .val (.int sl), .val (.int dd), .val (.int fz), .val (.int ((sl &&& (2147483647 : Int32)) % (3 : Int32))), .val (.int o0), .val (.int o1), .val (.int o2), .val (.int dn), .unset, .unset, .unset, .unset, .unset, .unset, .unset, .unset, .unset, .unset, .unset] [(.int (own_nz o2)), (.int ((own_nz o0) + (own_nz o1)))])) tgt
    refine XS.iadd X3.here hx rfl (hb hby at_85) rfl ?_
    show Steps p.tables e below (T3.setTop (mkF m 86 #[.val (.int d0), .val (.int d1), .val (.int d2), .val (.int sl), .val (.int dd), .val (.int fz), .val (.int ((sl &&& (2147483647 : Int32)) % (3 : Int32))), .val (.int o0), .val (.int o1), .val (.int o2), .val (.int dn), .unset, .unset, .unset, .unset, .unset, .unset, .unset, .unset, .unset, .unset, .unset] [(.int (((own_nz o0) + (own_nz o1)) + (own_nz o2)))])) tgt
    refine XS.istore X3.here hx rfl (hb hby at_86) rfl (l' := #[.val (.int d0), .val (.int d1), .val (.int d2), .val (.int sl), .val (.int dd), .val (.int fz), .val (.int ((sl &&& (2147483647 : Int32)) % (3 : Int32))), .val (.int o0), .val (.int o1), .val (.int o2), .val (.int dn), .val (.int (((own_nz o0) + (own_nz o1)) + (own_nz o2))), .unset, .unset, .unset, .unset, .unset, .unset, .unset, .unset, .unset, .unset]) rfl ?_
    show Steps p.tables e below (T3.setTop (mkF m 88 #[.val (.int d0), .val (.int d1), .val (.int d2), .val (.int sl), .val (.int dd), .val (.int fz), .val (.int ((sl &&& (2147483647 : Int32)) % (3 : Int32))), .val (.int o0), .val (.int o1), .val (.int o2), .val (.int dn), .val (.int (((own_nz o0) + (own_nz o1)) + (own_nz o2))), .unset, .unset, .unset, .unset, .unset, .unset, .unset, .unset, .unset, .unset] [])) tgt
    refine XS.iconst X3.here hx rfl (hb hby at_88) ?_
    exact k
  obtain ⟨T4, h4, c4, X4, e4, E4, A4, st4⟩ := own_newarr X3 hx hZ (hw _ (List.mem_of_getElem? (i := 5) rfl)) K3 (g := (mkF m 89 #[.val (.int d0), .val (.int d1), .val (.int d2), .val (.int sl), .val (.int dd), .val (.int fz), .val (.int ((sl &&& (2147483647 : Int32)) % (3 : Int32))), .val (.int o0), .val (.int o1), .val (.int o2), .val (.int dn), .val (.int (((own_nz o0) + (own_nz o1)) + (own_nz o2))), .unset, .unset, .unset, .unset, .unset, .unset, .unset, .unset, .unset, .unset] [(.int (3 : Int32))])) rfl (hb hby at_89) rfl (k := 3) rfl (cap := 3) (by decide) (by decide) (by decide) (by decide)
  obtain ⟨dv, g4⟩ : ∃ z, z = h0.size := ⟨_, rfl⟩
  rw [← g4] at A4 st4
  have g_dv : n0 ≤ dv := Nat.le_trans Z0 (Nat.le_of_eq g4.symm)
  have A_dv_4 : own_Ai Z h4 dv .int 3 (fun _ => 0) := own_Ai.new A4
  have Zs4 : n0 ≤ h4.size := Nat.le_trans Z0 E4.1
  refine own_st st4 ?_
  show own_Go p e below _ (T4.setTop (mkF m 91 #[.val (.int d0), .val (.int d1), .val (.int d2), .val (.int sl), .val (.int dd), .val (.int fz), .val (.int ((sl &&& (2147483647 : Int32)) % (3 : Int32))), .val (.int o0), .val (.int o1), .val (.int o2), .val (.int dn), .val (.int (((own_nz o0) + (own_nz o1)) + (own_nz o2))), .unset, .unset, .unset, .unset, .unset, .unset, .unset, .unset, .unset, .unset] [(.ref dv)]))
  refine own_st (V := T4.setTop (mkF m 95 #[.val (.int d0), .val (.int d1), .val (.int d2), .val (.int sl), .val (.int dd), .val (.int fz), .val (.int ((sl &&& (2147483647 : Int32)) % (3 : Int32))), .val (.int o0), .val (.int o1), .val (.int o2), .val (.int dn), .val (.int (((own_nz o0) + (own_nz o1)) + (own_nz o2))), .unset, .unset, .unset, .unset, .unset, .unset, .unset, .unset, .unset, .unset] [(.int o0), (.int (0 : Int32)), (.ref dv), (.ref dv)])) (fun tgt k => ?_) ?_
  · show Steps p.tables e below (T4.setTop (mkF m 91 #[.val (.int d0), .val (.int d1), .val (.int d2), .val (.int sl), .val (.int dd), .val (.int fz), .val (.int ((sl &&& (2147483647 : Int32)) % (3 : Int32))), .val (.int o0), .val (.int o1), .val (.int o2), .val (.int dn), .val (.int (((own_nz o0) + (own_nz o1)) + (own_nz o2))), .unset, .unset, .unset, .unset, .unset, .unset, .unset, .unset, .unset, .unset] [(.ref dv)])) tgt
    refine XS.dup X4.here hx rfl (hb hby at_91) rfl rfl ?_
    show Steps p.tables e below (T4.setTop (mkF m 92 #[.val (.int d0), .val (.int d1), .val (.int d2), .val (.int sl), .val (.int dd), .val (.int fz), .val (.int ((sl &&& (2147483647 : Int32)) % (3 : Int32))), .val (.int o0), .val (.int o1), .val (.int o2), .val (.int dn), .val (.int (((own_nz o0) + (own_nz o1)) + (own_nz o2))), .unset, .unset, .unset, .unset, .unset, .unset, .unset, .unset, .unset, .unset] [(.ref dv), (.ref dv)])) tgt
    refine XS.iconst X4.here hx rfl (hb hby at_92) ?_
    show Steps p.tables e below (T4.setTop (mkF m 93 #[.val (.int d0), .val (.int d1), .val (.int d2), .val (.int sl), .val (.int dd), .val (.int fz), .val (.int ((sl &&& (2147483647 : Int32)) % (3 : Int32))), .val (.int o0), .val (.int o1), .val (.int o2), .val (.int dn), .val (.int (((own_nz o0) + (own_nz o1)) + (own_nz o2))), .unset, .unset, .unset, .unset, .unset, .unset, .unset, .unset, .unset, .unset] [(.int (0 : Int32)), (.ref dv), (.ref dv)])) tgt
    refine XS.iload X4.here hx rfl (hb hby at_93) rfl ?_
    exact k
  obtain ⟨T5, h5, X5, e5, W5, A_dv_5, st5⟩ := own_iastore X4 hx hZ e4 A_dv_4 (j := (0 : Int32)) (k := 0) rfl (by decide) (g := (mkF m 95 #[.val (.int d0), .val (.int d1), .val (.int d2), .val (.int sl), .val (.int dd), .val (.int fz), .val (.int ((sl &&& (2147483647 : Int32)) % (3 : Int32))), .val (.int o0), .val (.int o1), .val (.int o2), .val (.int dn), .val (.int (((own_nz o0) + (own_nz o1)) + (own_nz o2))), .unset, .unset, .unset, .unset, .unset, .unset, .unset, .unset, .unset, .unset] [(.int o0), (.int (0 : Int32)), (.ref dv), (.ref dv)])) rfl rfl (hb hby at_95)
  have N5 := Fr.snoc X5 N3 g_dv
  have Zs5 : n0 ≤ h5.size := Nat.le_trans Zs4 (Keep.of_wr W5).1
  refine own_st st5 ?_
  show own_Go p e below _ (T5.setTop (mkF m 96 #[.val (.int d0), .val (.int d1), .val (.int d2), .val (.int sl), .val (.int dd), .val (.int fz), .val (.int ((sl &&& (2147483647 : Int32)) % (3 : Int32))), .val (.int o0), .val (.int o1), .val (.int o2), .val (.int dn), .val (.int (((own_nz o0) + (own_nz o1)) + (own_nz o2))), .unset, .unset, .unset, .unset, .unset, .unset, .unset, .unset, .unset, .unset] [(.ref dv)]))
  refine own_st (V := T5.setTop (mkF m 100 #[.val (.int d0), .val (.int d1), .val (.int d2), .val (.int sl), .val (.int dd), .val (.int fz), .val (.int ((sl &&& (2147483647 : Int32)) % (3 : Int32))), .val (.int o0), .val (.int o1), .val (.int o2), .val (.int dn), .val (.int (((own_nz o0) + (own_nz o1)) + (own_nz o2))), .unset, .unset, .unset, .unset, .unset, .unset, .unset, .unset, .unset, .unset] [(.int o1), (.int (1 : Int32)), (.ref dv), (.ref dv)])) (fun tgt k => ?_) ?_
  · show Steps p.tables e below (T5.setTop (mkF m 96 #[.val (.int d0), .val (.int d1), .val (.int d2), .val (.int sl), .val (.int dd), .val (.int fz), .val (.int ((sl &&& (2147483647 : Int32)) % (3 : Int32))), .val (.int o0), .val (.int o1), .val (.int o2), .val (.int dn), .val (.int (((own_nz o0) + (own_nz o1)) + (own_nz o2))), .unset, .unset, .unset, .unset, .unset, .unset, .unset, .unset, .unset, .unset] [(.ref dv)])) tgt
    refine XS.dup X5.here hx rfl (hb hby at_96) rfl rfl ?_
    show Steps p.tables e below (T5.setTop (mkF m 97 #[.val (.int d0), .val (.int d1), .val (.int d2), .val (.int sl), .val (.int dd), .val (.int fz), .val (.int ((sl &&& (2147483647 : Int32)) % (3 : Int32))), .val (.int o0), .val (.int o1), .val (.int o2), .val (.int dn), .val (.int (((own_nz o0) + (own_nz o1)) + (own_nz o2))), .unset, .unset, .unset, .unset, .unset, .unset, .unset, .unset, .unset, .unset] [(.ref dv), (.ref dv)])) tgt
    refine XS.iconst X5.here hx rfl (hb hby at_97) ?_
    show Steps p.tables e below (T5.setTop (mkF m 98 #[.val (.int d0), .val (.int d1), .val (.int d2), .val (.int sl), .val (.int dd), .val (.int fz), .val (.int ((sl &&& (2147483647 : Int32)) % (3 : Int32))), .val (.int o0), .val (.int o1), .val (.int o2), .val (.int dn), .val (.int (((own_nz o0) + (own_nz o1)) + (own_nz o2))), .unset, .unset, .unset, .unset, .unset, .unset, .unset, .unset, .unset, .unset] [(.int (1 : Int32)), (.ref dv), (.ref dv)])) tgt
    refine XS.iload X5.here hx rfl (hb hby at_98) rfl ?_
    exact k
  obtain ⟨T6, h6, X6, e6, W6, A_dv_6, st6⟩ := own_iastore X5 hx hZ e5 A_dv_5 (j := (1 : Int32)) (k := 1) rfl (by decide) (g := (mkF m 100 #[.val (.int d0), .val (.int d1), .val (.int d2), .val (.int sl), .val (.int dd), .val (.int fz), .val (.int ((sl &&& (2147483647 : Int32)) % (3 : Int32))), .val (.int o0), .val (.int o1), .val (.int o2), .val (.int dn), .val (.int (((own_nz o0) + (own_nz o1)) + (own_nz o2))), .unset, .unset, .unset, .unset, .unset, .unset, .unset, .unset, .unset, .unset] [(.int o1), (.int (1 : Int32)), (.ref dv), (.ref dv)])) rfl rfl (hb hby at_100)
  have N6 := Fr.snoc X6 N5 g_dv
  have Zs6 : n0 ≤ h6.size := Nat.le_trans Zs5 (Keep.of_wr W6).1
  refine own_st st6 ?_
  show own_Go p e below _ (T6.setTop (mkF m 101 #[.val (.int d0), .val (.int d1), .val (.int d2), .val (.int sl), .val (.int dd), .val (.int fz), .val (.int ((sl &&& (2147483647 : Int32)) % (3 : Int32))), .val (.int o0), .val (.int o1), .val (.int o2), .val (.int dn), .val (.int (((own_nz o0) + (own_nz o1)) + (own_nz o2))), .unset, .unset, .unset, .unset, .unset, .unset, .unset, .unset, .unset, .unset] [(.ref dv)]))
  refine own_st (V := T6.setTop (mkF m 105 #[.val (.int d0), .val (.int d1), .val (.int d2), .val (.int sl), .val (.int dd), .val (.int fz), .val (.int ((sl &&& (2147483647 : Int32)) % (3 : Int32))), .val (.int o0), .val (.int o1), .val (.int o2), .val (.int dn), .val (.int (((own_nz o0) + (own_nz o1)) + (own_nz o2))), .unset, .unset, .unset, .unset, .unset, .unset, .unset, .unset, .unset, .unset] [(.int o2), (.int (2 : Int32)), (.ref dv), (.ref dv)])) (fun tgt k => ?_) ?_
  · show Steps p.tables e below (T6.setTop (mkF m 101 #[.val (.int d0), .val (.int d1), .val (.int d2), .val (.int sl), .val (.int dd), .val (.int fz), .val (.int ((sl &&& (2147483647 : Int32)) % (3 : Int32))), .val (.int o0), .val (.int o1), .val (.int o2), .val (.int dn), .val (.int (((own_nz o0) + (own_nz o1)) + (own_nz o2))), .unset, .unset, .unset, .unset, .unset, .unset, .unset, .unset, .unset, .unset] [(.ref dv)])) tgt
    refine XS.dup X6.here hx rfl (hb hby at_101) rfl rfl ?_
    show Steps p.tables e below (T6.setTop (mkF m 102 #[.val (.int d0), .val (.int d1), .val (.int d2), .val (.int sl), .val (.int dd), .val (.int fz), .val (.int ((sl &&& (2147483647 : Int32)) % (3 : Int32))), .val (.int o0), .val (.int o1), .val (.int o2), .val (.int dn), .val (.int (((own_nz o0) + (own_nz o1)) + (own_nz o2))), .unset, .unset, .unset, .unset, .unset, .unset, .unset, .unset, .unset, .unset] [(.ref dv), (.ref dv)])) tgt
    refine XS.iconst X6.here hx rfl (hb hby at_102) ?_
    show Steps p.tables e below (T6.setTop (mkF m 103 #[.val (.int d0), .val (.int d1), .val (.int d2), .val (.int sl), .val (.int dd), .val (.int fz), .val (.int ((sl &&& (2147483647 : Int32)) % (3 : Int32))), .val (.int o0), .val (.int o1), .val (.int o2), .val (.int dn), .val (.int (((own_nz o0) + (own_nz o1)) + (own_nz o2))), .unset, .unset, .unset, .unset, .unset, .unset, .unset, .unset, .unset, .unset] [(.int (2 : Int32)), (.ref dv), (.ref dv)])) tgt
    refine XS.iload X6.here hx rfl (hb hby at_103) rfl ?_
    exact k
  obtain ⟨T7, h7, X7, e7, W7, A_dv_7, st7⟩ := own_iastore X6 hx hZ e6 A_dv_6 (j := (2 : Int32)) (k := 2) rfl (by decide) (g := (mkF m 105 #[.val (.int d0), .val (.int d1), .val (.int d2), .val (.int sl), .val (.int dd), .val (.int fz), .val (.int ((sl &&& (2147483647 : Int32)) % (3 : Int32))), .val (.int o0), .val (.int o1), .val (.int o2), .val (.int dn), .val (.int (((own_nz o0) + (own_nz o1)) + (own_nz o2))), .unset, .unset, .unset, .unset, .unset, .unset, .unset, .unset, .unset, .unset] [(.int o2), (.int (2 : Int32)), (.ref dv), (.ref dv)])) rfl rfl (hb hby at_105)
  have N7 := Fr.snoc X7 N6 g_dv
  have Zs7 : n0 ≤ h7.size := Nat.le_trans Zs6 (Keep.of_wr W7).1
  refine own_st st7 ?_
  show own_Go p e below _ (T7.setTop (mkF m 106 #[.val (.int d0), .val (.int d1), .val (.int d2), .val (.int sl), .val (.int dd), .val (.int fz), .val (.int ((sl &&& (2147483647 : Int32)) % (3 : Int32))), .val (.int o0), .val (.int o1), .val (.int o2), .val (.int dn), .val (.int (((own_nz o0) + (own_nz o1)) + (own_nz o2))), .unset, .unset, .unset, .unset, .unset, .unset, .unset, .unset, .unset, .unset] [(.ref dv)]))
  refine own_st (V := T7.setTop (mkF m 109 #[.val (.int d0), .val (.int d1), .val (.int d2), .val (.int sl), .val (.int dd), .val (.int fz), .val (.int ((sl &&& (2147483647 : Int32)) % (3 : Int32))), .val (.int o0), .val (.int o1), .val (.int o2), .val (.int dn), .val (.int (((own_nz o0) + (own_nz o1)) + (own_nz o2))), .val (.ref dv), .unset, .unset, .unset, .unset, .unset, .unset, .unset, .unset, .unset] [(.int (3 : Int32))])) (fun tgt k => ?_) ?_
  · show Steps p.tables e below (T7.setTop (mkF m 106 #[.val (.int d0), .val (.int d1), .val (.int d2), .val (.int sl), .val (.int dd), .val (.int fz), .val (.int ((sl &&& (2147483647 : Int32)) % (3 : Int32))), .val (.int o0), .val (.int o1), .val (.int o2), .val (.int dn), .val (.int (((own_nz o0) + (own_nz o1)) + (own_nz o2))), .unset, .unset, .unset, .unset, .unset, .unset, .unset, .unset, .unset, .unset] [(.ref dv)])) tgt
    refine XS.astore X7.here hx rfl (hb hby at_106) rfl rfl (l' := #[.val (.int d0), .val (.int d1), .val (.int d2), .val (.int sl), .val (.int dd), .val (.int fz), .val (.int ((sl &&& (2147483647 : Int32)) % (3 : Int32))), .val (.int o0), .val (.int o1), .val (.int o2), .val (.int dn), .val (.int (((own_nz o0) + (own_nz o1)) + (own_nz o2))), .val (.ref dv), .unset, .unset, .unset, .unset, .unset, .unset, .unset, .unset, .unset]) rfl ?_
    show Steps p.tables e below (T7.setTop (mkF m 108 #[.val (.int d0), .val (.int d1), .val (.int d2), .val (.int sl), .val (.int dd), .val (.int fz), .val (.int ((sl &&& (2147483647 : Int32)) % (3 : Int32))), .val (.int o0), .val (.int o1), .val (.int o2), .val (.int dn), .val (.int (((own_nz o0) + (own_nz o1)) + (own_nz o2))), .val (.ref dv), .unset, .unset, .unset, .unset, .unset, .unset, .unset, .unset, .unset] [])) tgt
    refine XS.iconst X7.here hx rfl (hb hby at_108) ?_
    exact k
  obtain ⟨T8, h8, c8, X8, e8, E8, A8, st8⟩ := own_newarr X7 hx hZ (hw _ (List.mem_of_getElem? (i := 5) rfl)) e7 (g := (mkF m 109 #[.val (.int d0), .val (.int d1), .val (.int d2), .val (.int sl), .val (.int dd), .val (.int fz), .val (.int ((sl &&& (2147483647 : Int32)) % (3 : Int32))), .val (.int o0), .val (.int o1), .val (.int o2), .val (.int dn), .val (.int (((own_nz o0) + (own_nz o1)) + (own_nz o2))), .val (.ref dv), .unset, .unset, .unset, .unset, .unset, .unset, .unset, .unset, .unset] [(.int (3 : Int32))])) rfl (hb hby at_109) rfl (k := 3) rfl (cap := 3) (by decide) (by decide) (by decide) (by decide)
  obtain ⟨fv, g8⟩ : ∃ z, z = h7.size := ⟨_, rfl⟩
  rw [← g8] at A8 st8
  have ne_dv_fv : dv ≠ fv := Nat.ne_of_lt (Nat.lt_of_lt_of_le A_dv_7.lt (Nat.le_of_eq g8.symm))
  have A_dv_8 := A_dv_7.ext E8
  have g_fv : n0 ≤ fv := Nat.le_trans Zs7 (Nat.le_of_eq g8.symm)
  have A_fv_8 : own_Ai Z h8 fv .int 3 (fun _ => 0) := own_Ai.new A8
  have Zs8 : n0 ≤ h8.size := Nat.le_trans Zs7 E8.1
  refine own_st st8 ?_
  show own_Go p e below _ (T8.setTop (mkF m 111 #[.val (.int d0), .val (.int d1), .val (.int d2), .val (.int sl), .val (.int dd), .val (.int fz), .val (.int ((sl &&& (2147483647 : Int32)) % (3 : Int32))), .val (.int o0), .val (.int o1), .val (.int o2), .val (.int dn), .val (.int (((own_nz o0) + (own_nz o1)) + (own_nz o2))), .val (.ref dv), .unset, .unset, .unset, .unset, .unset, .unset, .unset, .unset, .unset] [(.ref fv)]))
  refine own_st (V := T8.setTop (mkF m 115 #[.val (.int d0), .val (.int d1), .val (.int d2), .val (.int sl), .val (.int dd), .val (.int fz), .val (.int ((sl &&& (2147483647 : Int32)) % (3 : Int32))), .val (.int o0), .val (.int o1), .val (.int o2), .val (.int dn), .val (.int (((own_nz o0) + (own_nz o1)) + (own_nz o2))), .val (.ref dv), .unset, .unset, .unset, .unset, .unset, .unset, .unset, .unset, .unset] [(.int fz), (.int (0 : Int32)), (.ref fv), (.ref fv)])) (fun tgt k => ?_) ?_
  · show Steps p.tables e below (T8.setTop (mkF m 111 #[.val (.int d0), .val (.int d1), .val (.int d2), .val (.int sl), .val (.int dd), .val (.int fz), .val (.int ((sl &&& (2147483647 : Int32)) % (3 : Int32))), .val (.int o0), .val (.int o1), .val (.int o2), .val (.int dn), .val (.int (((own_nz o0) + (own_nz o1)) + (own_nz o2))), .val (.ref dv), .unset, .unset, .unset, .unset, .unset, .unset, .unset, .unset, .unset] [(.ref fv)])) tgt
    refine XS.dup X8.here hx rfl (hb hby at_111) rfl rfl ?_
    show Steps p.tables e below (T8.setTop (mkF m 112 #[.val (.int d0), .val (.int d1), .val (.int d2), .val (.int sl), .val (.int dd), .val (.int fz), .val (.int ((sl &&& (2147483647 : Int32)) % (3 : Int32))), .val (.int o0), .val (.int o1), .val (.int o2), .val (.int dn), .val (.int (((own_nz o0) + (own_nz o1)) + (own_nz o2))), .val (.ref dv), .unset, .unset, .unset, .unset, .unset, .unset, .unset, .unset, .unset] [(.ref fv), (.ref fv)])) tgt
    refine XS.iconst X8.here hx rfl (hb hby at_112) ?_
    show Steps p.tables e below (T8.setTop (mkF m 113 #[.val (.int d0), .val (.int d1), .val (.int d2), .val (.int sl), .val (.int dd), .val (.int fz), .val (.int ((sl &&& (2147483647 : Int32)) % (3 : Int32))), .val (.int o0), .val (.int o1), .val (.int o2), .val (.int dn), .val (.int (((own_nz o0) + (own_nz o1)) + (own_nz o2))), .val (.ref dv), .unset, .unset, .unset, .unset, .unset, .unset, .unset, .unset, .unset] [(.int (0 : Int32)), (.ref fv), (.ref fv)])) tgt
    refine XS.iload X8.here hx rfl (hb hby at_113) rfl ?_
    exact k
  obtain ⟨T9, h9, X9, e9, W9, A_fv_9, st9⟩ := own_iastore X8 hx hZ e8 A_fv_8 (j := (0 : Int32)) (k := 0) rfl (by decide) (g := (mkF m 115 #[.val (.int d0), .val (.int d1), .val (.int d2), .val (.int sl), .val (.int dd), .val (.int fz), .val (.int ((sl &&& (2147483647 : Int32)) % (3 : Int32))), .val (.int o0), .val (.int o1), .val (.int o2), .val (.int dn), .val (.int (((own_nz o0) + (own_nz o1)) + (own_nz o2))), .val (.ref dv), .unset, .unset, .unset, .unset, .unset, .unset, .unset, .unset, .unset] [(.int fz), (.int (0 : Int32)), (.ref fv), (.ref fv)])) rfl rfl (hb hby at_115)
  have A_dv_9 := A_dv_8.other W9 ne_dv_fv
  have N9 := Fr.snoc X9 N7 g_fv
  have Zs9 : n0 ≤ h9.size := Nat.le_trans Zs8 (Keep.of_wr W9).1
  refine own_st st9 ?_
  show own_Go p e below _ (T9.setTop (mkF m 116 #[.val (.int d0), .val (.int d1), .val (.int d2), .val (.int sl), .val (.int dd), .val (.int fz), .val (.int ((sl &&& (2147483647 : Int32)) % (3 : Int32))), .val (.int o0), .val (.int o1), .val (.int o2), .val (.int dn), .val (.int (((own_nz o0) + (own_nz o1)) + (own_nz o2))), .val (.ref dv), .unset, .unset, .unset, .unset, .unset, .unset, .unset, .unset, .unset] [(.ref fv)]))
  refine own_st (V := T9.setTop (mkF m 119 #[.val (.int d0), .val (.int d1), .val (.int d2), .val (.int sl), .val (.int dd), .val (.int fz), .val (.int ((sl &&& (2147483647 : Int32)) % (3 : Int32))), .val (.int o0), .val (.int o1), .val (.int o2), .val (.int dn), .val (.int (((own_nz o0) + (own_nz o1)) + (own_nz o2))), .val (.ref dv), .unset, .unset, .unset, .unset, .unset, .unset, .unset, .unset, .unset] [(.int d0), (.int (1 : Int32)), (.ref fv), (.ref fv)])) (fun tgt k => ?_) ?_
  · show Steps p.tables e below (T9.setTop (mkF m 116 #[.val (.int d0), .val (.int d1), .val (.int d2), .val (.int sl), .val (.int dd), .val (.int fz), .val (.int ((sl &&& (2147483647 : Int32)) % (3 : Int32))), .val (.int o0), .val (.int o1), .val (.int o2), .val (.int dn), .val (.int (((own_nz o0) + (own_nz o1)) + (own_nz o2))), .val (.ref dv), .unset, .unset, .unset, .unset, .unset, .unset, .unset, .unset, .unset] [(.ref fv)])) tgt
    refine XS.dup X9.here hx rfl (hb hby at_116) rfl rfl ?_
    show Steps p.tables e below (T9.setTop (mkF m 117 #[.val (.int d0), .val (.int d1), .val (.int d2), .val (.int sl), .val (.int dd), .val (.int fz), .val (.int ((sl &&& (2147483647 : Int32)) % (3 : Int32))), .val (.int o0), .val (.int o1), .val (.int o2), .val (.int dn), .val (.int (((own_nz o0) + (own_nz o1)) + (own_nz o2))), .val (.ref dv), .unset, .unset, .unset, .unset, .unset, .unset, .unset, .unset, .unset] [(.ref fv), (.ref fv)])) tgt
    refine XS.iconst X9.here hx rfl (hb hby at_117) ?_
    show Steps p.tables e below (T9.setTop (mkF m 118 #[.val (.int d0), .val (.int d1), .val (.int d2), .val (.int sl), .val (.int dd), .val (.int fz), .val (.int ((sl &&& (2147483647 : Int32)) % (3 : Int32))), .val (.int o0), .val (.int o1), .val (.int o2), .val (.int dn), .val (.int (((own_nz o0) + (own_nz o1)) + (own_nz o2))), .val (.ref dv), .unset, .unset, .unset, .unset, .unset, .unset, .unset, .unset, .unset] [(.int (1 : Int32)), (.ref fv), (.ref fv)])) tgt
    refine XS.iloadN X9.here hx rfl (hb hby at_118) rfl ?_
    exact k
  obtain ⟨T10, h10, X10, e10, W10, A_fv_10, st10⟩ := own_iastore X9 hx hZ e9 A_fv_9 (j := (1 : Int32)) (k := 1) rfl (by decide) (g := (mkF m 119 #[.val (.int d0), .val (.int d1), .val (.int d2), .val (.int sl), .val (.int dd), .val (.int fz), .val (.int ((sl &&& (2147483647 : Int32)) % (3 : Int32))), .val (.int o0), .val (.int o1), .val (.int o2), .val (.int dn), .val (.int (((own_nz o0) + (own_nz o1)) + (own_nz o2))), .val (.ref dv), .unset, .unset, .unset, .unset, .unset, .unset, .unset, .unset, .unset] [(.int d0), (.int (1 : Int32)), (.ref fv), (.ref fv)])) rfl rfl (hb hby at_119)
  have A_dv_10 := A_dv_9.other W10 ne_dv_fv
  have N10 := Fr.snoc X10 N9 g_fv
  have Zs10 : n0 ≤ h10.size := Nat.le_trans Zs9 (Keep.of_wr W10).1
  refine own_st st10 ?_
  show own_Go p e below _ (T10.setTop (mkF m 120 #[.val (.int d0), .val (.int d1), .val (.int d2), .val (.int sl), .val (.int dd), .val (.int fz), .val (.int ((sl &&& (2147483647 : Int32)) % (3 : Int32))), .val (.int o0), .val (.int o1), .val (.int o2), .val (.int dn), .val (.int (((own_nz o0) + (own_nz o1)) + (own_nz o2))), .val (.ref dv), .unset, .unset, .unset, .unset, .unset, .unset, .unset, .unset, .unset] [(.ref fv)]))
  refine own_st (V := T10.setTop (mkF m 123 #[.val (.int d0), .val (.int d1), .val (.int d2), .val (.int sl), .val (.int dd), .val (.int fz), .val (.int ((sl &&& (2147483647 : Int32)) % (3 : Int32))), .val (.int o0), .val (.int o1), .val (.int o2), .val (.int dn), .val (.int (((own_nz o0) + (own_nz o1)) + (own_nz o2))), .val (.ref dv), .unset, .unset, .unset, .unset, .unset, .unset, .unset, .unset, .unset] [(.int d2), (.int (2 : Int32)), (.ref fv), (.ref fv)])) (fun tgt k => ?_) ?_
  · show Steps p.tables e below (T10.setTop (mkF m 120 #[.val (.int d0), .val (.int d1), .val (.int d2), .val (.int sl), .val (.int dd), .val (.int fz), .val (.int ((sl &&& (2147483647 : Int32)) % (3 : Int32))), .val (.int o0), .val (.int o1), .val (.int o2), .val (.int dn), .val (.int (((own_nz o0) + (own_nz o1)) + (own_nz o2))), .val (.ref dv), .unset, .unset, .unset, .unset, .unset, .unset, .unset, .unset, .unset] [(.ref fv)])) tgt
    refine XS.dup X10.here hx rfl (hb hby at_120) rfl rfl ?_
    show Steps p.tables e below (T10.setTop (mkF m 121 #[.val (.int d0), .val (.int d1), .val (.int d2), .val (.int sl), .val (.int dd), .val (.int fz), .val (.int ((sl &&& (2147483647 : Int32)) % (3 : Int32))), .val (.int o0), .val (.int o1), .val (.int o2), .val (.int dn), .val (.int (((own_nz o0) + (own_nz o1)) + (own_nz o2))), .val (.ref dv), .unset, .unset, .unset, .unset, .unset, .unset, .unset, .unset, .unset] [(.ref fv), (.ref fv)])) tgt
    refine XS.iconst X10.here hx rfl (hb hby at_121) ?_
    show Steps p.tables e below (T10.setTop (mkF m 122 #[.val (.int d0), .val (.int d1), .val (.int d2), .val (.int sl), .val (.int dd), .val (.int fz), .val (.int ((sl &&& (2147483647 : Int32)) % (3 : Int32))), .val (.int o0), .val (.int o1), .val (.int o2), .val (.int dn), .val (.int (((own_nz o0) + (own_nz o1)) + (own_nz o2))), .val (.ref dv), .unset, .unset, .unset, .unset, .unset, .unset, .unset, .unset, .unset] [(.int (2 : Int32)), (.ref fv), (.ref fv)])) tgt
    refine XS.iloadN X10.here hx rfl (hb hby at_122) rfl ?_
    exact k
  obtain ⟨T11, h11, X11, e11, W11, A_fv_11, st11⟩ := own_iastore X10 hx hZ e10 A_fv_10 (j := (2 : Int32)) (k := 2) rfl (by decide) (g := (mkF m 123 #[.val (.int d0), .val (.int d1), .val (.int d2), .val (.int sl), .val (.int dd), .val (.int fz), .val (.int ((sl &&& (2147483647 : Int32)) % (3 : Int32))), .val (.int o0), .val (.int o1), .val (.int o2), .val (.int dn), .val (.int (((own_nz o0) + (own_nz o1)) + (own_nz o2))), .val (.ref dv), .unset, .unset, .unset, .unset, .unset, .unset, .unset, .unset, .unset] [(.int d2), (.int (2 : Int32)), (.ref fv), (.ref fv)])) rfl rfl (hb hby at_123)
  have A_dv_11 := A_dv_10.other W11 ne_dv_fv
  have N11 := Fr.snoc X11 N10 g_fv
  have Zs11 : n0 ≤ h11.size := Nat.le_trans Zs10 (Keep.of_wr W11).1
  refine own_st st11 ?_
  show own_Go p e below _ (T11.setTop (mkF m 124 #[.val (.int d0), .val (.int d1), .val (.int d2), .val (.int sl), .val (.int dd), .val (.int fz), .val (.int ((sl &&& (2147483647 : Int32)) % (3 : Int32))), .val (.int o0), .val (.int o1), .val (.int o2), .val (.int dn), .val (.int (((own_nz o0) + (own_nz o1)) + (own_nz o2))), .val (.ref dv), .unset, .unset, .unset, .unset, .unset, .unset, .unset, .unset, .unset] [(.ref fv)]))
  refine own_st (V := T11.setTop (mkF m 126 #[.val (.int d0), .val (.int d1), .val (.int d2), .val (.int sl), .val (.int dd), .val (.int fz), .val (.int ((sl &&& (2147483647 : Int32)) % (3 : Int32))), .val (.int o0), .val (.int o1), .val (.int o2), .val (.int dn), .val (.int (((own_nz o0) + (own_nz o1)) + (own_nz o2))), .val (.ref dv), .val (.ref fv), .unset, .unset, .unset, .unset, .unset, .unset, .unset, .unset] [])) (fun tgt k => ?_) ?_
  · show Steps p.tables e below (T11.setTop (mkF m 124 #[.val (.int d0), .val (.int d1), .val (.int d2), .val (.int sl), .val (.int dd), .val (.int fz), .val (.int ((sl &&& (2147483647 : Int32)) % (3 : Int32))), .val (.int o0), .val (.int o1), .val (.int o2), .val (.int dn), .val (.int (((own_nz o0) + (own_nz o1)) + (own_nz o2))), .val (.ref dv), .unset, .unset, .unset, .unset, .unset, .unset, .unset, .unset, .unset] [(.ref fv)])) tgt
    refine XS.astore X11.here hx rfl (hb hby at_124) rfl rfl (l' := #[.val (.int d0), .val (.int d1), .val (.int d2), .val (.int sl), .val (.int dd), .val (.int fz), .val (.int ((sl &&& (2147483647 : Int32)) % (3 : Int32))), .val (.int o0), .val (.int o1), .val (.int o2), .val (.int dn), .val (.int (((own_nz o0) + (own_nz o1)) + (own_nz o2))), .val (.ref dv), .val (.ref fv), .unset, .unset, .unset, .unset, .unset, .unset, .unset, .unset]) rfl ?_
    exact k
  obtain ⟨T12, h12, X12, e12, E12, A12, D12, -, st12⟩ := newO X11 hx hZ hown (hw _ (List.mem_of_getElem? (i := 6) rfl)) (hw _ (List.mem_of_getElem? (i := 7) rfl)) (hw _ (List.mem_of_getElem? (i := 8) rfl)) e11 (g := (mkF m 126 #[.val (.int d0), .val (.int d1), .val (.int d2), .val (.int sl), .val (.int dd), .val (.int fz), .val (.int ((sl &&& (2147483647 : Int32)) % (3 : Int32))), .val (.int o0), .val (.int o1), .val (.int o2), .val (.int dn), .val (.int (((own_nz o0) + (own_nz o1)) + (own_nz o2))), .val (.ref dv), .val (.ref fv), .unset, .unset, .unset, .unset, .unset, .unset, .unset, .unset] [])) rfl (hb hby at_126) (by decide) (by decide)
  obtain ⟨sv, g12⟩ : ∃ z, z = h11.size := ⟨_, rfl⟩
  rw [← g12] at A12 D12 st12
  have ne_dv_sv : dv ≠ sv := Nat.ne_of_lt (Nat.lt_of_lt_of_le A_dv_11.lt (Nat.le_of_eq g12.symm))
  have ne_fv_sv : fv ≠ sv := Nat.ne_of_lt (Nat.lt_of_lt_of_le A_fv_11.lt (Nat.le_of_eq g12.symm))
  have A_dv_12 := A_dv_11.ext E12
  have A_fv_12 := A_fv_11.ext E12
  have g_sv : n0 ≤ sv := Nat.le_trans Zs11 (Nat.le_of_eq g12.symm)
  have Zs12 : n0 ≤ h12.size := Nat.le_trans Zs11 E12.1
  have F_sv_deadlines_12 : Fld Z h12 sv "com/example/chainwright/chainwright/State" "deadlines" "[I" .null := D12 (Or.inr (hw _ (List.mem_of_getElem? (i := 16) rfl))) (ty := (.array .int)) (by decide)
  have F_sv_floors_12 : Fld Z h12 sv "com/example/chainwright/chainwright/State" "floors" "[I" .null := D12 (Or.inr (hw _ (List.mem_of_getElem? (i := 18) rfl))) (ty := (.array .int)) (by decide)
  have F_sv_size_12 : Fld Z h12 sv "com/example/chainwright/chainwright/State" "size" "I" (.int (0 : Int32)) := D12 (Or.inl (hw _ (List.mem_of_getElem? (i := 20) rfl))) (ty := .int) (by decide)
  refine own_st st12 ?_
  show own_Go p e below _ (T12.setTop (mkF m 129 #[.val (.int d0), .val (.int d1), .val (.int d2), .val (.int sl), .val (.int dd), .val (.int fz), .val (.int ((sl &&& (2147483647 : Int32)) % (3 : Int32))), .val (.int o0), .val (.int o1), .val (.int o2), .val (.int dn), .val (.int (((own_nz o0) + (own_nz o1)) + (own_nz o2))), .val (.ref dv), .val (.ref fv), .unset, .unset, .unset, .unset, .unset, .unset, .unset, .unset] [(.ref sv)]))
  refine own_st (V := T12.setTop (mkF m 136 #[.val (.int d0), .val (.int d1), .val (.int d2), .val (.int sl), .val (.int dd), .val (.int fz), .val (.int ((sl &&& (2147483647 : Int32)) % (3 : Int32))), .val (.int o0), .val (.int o1), .val (.int o2), .val (.int dn), .val (.int (((own_nz o0) + (own_nz o1)) + (own_nz o2))), .val (.ref dv), .val (.ref fv), .unset, .unset, .unset, .unset, .unset, .unset, .unset, .unset] [(.int (((own_nz o0) + (own_nz o1)) + (own_nz o2))), (.ref fv), (.ref dv), (.ref sv), (.ref sv)])) (fun tgt k => ?_) ?_
  · show Steps p.tables e below (T12.setTop (mkF m 129 #[.val (.int d0), .val (.int d1), .val (.int d2), .val (.int sl), .val (.int dd), .val (.int fz), .val (.int ((sl &&& (2147483647 : Int32)) % (3 : Int32))), .val (.int o0), .val (.int o1), .val (.int o2), .val (.int dn), .val (.int (((own_nz o0) + (own_nz o1)) + (own_nz o2))), .val (.ref dv), .val (.ref fv), .unset, .unset, .unset, .unset, .unset, .unset, .unset, .unset] [(.ref sv)])) tgt
    refine XS.dup X12.here hx rfl (hb hby at_129) rfl rfl ?_
    show Steps p.tables e below (T12.setTop (mkF m 130 #[.val (.int d0), .val (.int d1), .val (.int d2), .val (.int sl), .val (.int dd), .val (.int fz), .val (.int ((sl &&& (2147483647 : Int32)) % (3 : Int32))), .val (.int o0), .val (.int o1), .val (.int o2), .val (.int dn), .val (.int (((own_nz o0) + (own_nz o1)) + (own_nz o2))), .val (.ref dv), .val (.ref fv), .unset, .unset, .unset, .unset, .unset, .unset, .unset, .unset] [(.ref sv), (.ref sv)])) tgt
    refine XS.aload X12.here hx rfl (hb hby at_130) rfl rfl ?_
    show Steps p.tables e below (T12.setTop (mkF m 132 #[.val (.int d0), .val (.int d1), .val (.int d2), .val (.int sl), .val (.int dd), .val (.int fz), .val (.int ((sl &&& (2147483647 : Int32)) % (3 : Int32))), .val (.int o0), .val (.int o1), .val (.int o2), .val (.int dn), .val (.int (((own_nz o0) + (own_nz o1)) + (own_nz o2))), .val (.ref dv), .val (.ref fv), .unset, .unset, .unset, .unset, .unset, .unset, .unset, .unset] [(.ref dv), (.ref sv), (.ref sv)])) tgt
    refine XS.aload X12.here hx rfl (hb hby at_132) rfl rfl ?_
    show Steps p.tables e below (T12.setTop (mkF m 134 #[.val (.int d0), .val (.int d1), .val (.int d2), .val (.int sl), .val (.int dd), .val (.int fz), .val (.int ((sl &&& (2147483647 : Int32)) % (3 : Int32))), .val (.int o0), .val (.int o1), .val (.int o2), .val (.int dn), .val (.int (((own_nz o0) + (own_nz o1)) + (own_nz o2))), .val (.ref dv), .val (.ref fv), .unset, .unset, .unset, .unset, .unset, .unset, .unset, .unset] [(.ref fv), (.ref dv), (.ref sv), (.ref sv)])) tgt
    refine XS.iload X12.here hx rfl (hb hby at_134) rfl ?_
    exact k
  obtain ⟨_, _, ⟨T13, L13, k13, n13⟩, -, X13, ⟨Lc13, hQ13, l13, y13, z13⟩, st13⟩ := X12.specialBack hx (y := (⟨"com/example/chainwright/chainwright/State", "<init>", "([I[II)V"⟩ : MethodName)) rfl hown (mvT hZ (hw _ (List.mem_of_getElem? (i := 9) rfl))) (mvT hZ (hw _ (List.mem_of_getElem? (i := 10) rfl))) (mvT hZ (hw _ (List.mem_of_getElem? (i := 11) rfl))) (by decide) (backOf (W := 1) (rm2 l Z a0 hw [] sv dv fv (((own_nz o0) + (own_nz o1)) + (own_nz o2)) h12 n0 Zs12 A12 F_sv_deadlines_12 F_sv_floors_12 F_sv_size_12 g_sv) hZ (hw _ (List.mem_of_getElem? (i := 11) rfl)) (hw _ (List.mem_of_getElem? (i := 8) rfl)) (by decide) (by decide)) (g := (mkF m 136 #[.val (.int d0), .val (.int d1), .val (.int d2), .val (.int sl), .val (.int dd), .val (.int fz), .val (.int ((sl &&& (2147483647 : Int32)) % (3 : Int32))), .val (.int o0), .val (.int o1), .val (.int o2), .val (.int dn), .val (.int (((own_nz o0) + (own_nz o1)) + (own_nz o2))), .val (.ref dv), .val (.ref fv), .unset, .unset, .unset, .unset, .unset, .unset, .unset, .unset] [(.int (((own_nz o0) + (own_nz o1)) + (own_nz o2))), (.ref fv), (.ref dv), (.ref sv), (.ref sv)])) rfl (by rw [hml]; rfl) (Steps.refl _) (a := sv) (argsL := [(.ref dv), (.ref fv), (.int (((own_nz o0) + (own_nz o1)) + (own_nz o2)))]) (rest := [(.ref sv)]) (lenOf pd_0_1 rfl) rfl (by show 2 * 0 + _ ≤ _; exact Nat.le_of_eq rfl) (hb hby at_136) (fun _ _ => ⟨rfl, e12, (by decide : 3 + 0 ≤ _), (by decide : 9 + 0 ≤ _)⟩)
  dsimp only [Pt.U, Pt.locs, Pt.cells, Pt.slots] at X13 l13 y13 z13 st13 hQ13
  subst l13 y13 z13
  obtain ⟨rfl, N13q, K13, g13_0, g13_1, g13_2, g13_3⟩ := hQ13
  have N13 := Fr.app N11 N13q
  have A_dv_13 := A_dv_12.keep K13 (ninS ne_dv_sv nin0)
  have A_fv_13 := A_fv_12.keep K13 (ninS ne_fv_sv nin0)
  have E_sv_13 := A12.keep K13
  have Zs13 : n0 ≤ T13.heap.size := Nat.le_trans Zs12 K13.1
  refine own_st (fun tgt k => st13.trans k) ?_
  show own_Go p e below _ (T13.setTop (mkF m 139 #[.val (.int d0), .val (.int d1), .val (.int d2), .val (.int sl), .val (.int dd), .val (.int fz), .val (.int ((sl &&& (2147483647 : Int32)) % (3 : Int32))), .val (.int o0), .val (.int o1), .val (.int o2), .val (.int dn), .val (.int (((own_nz o0) + (own_nz o1)) + (own_nz o2))), .val (.ref dv), .val (.ref fv), .unset, .unset, .unset, .unset, .unset, .unset, .unset, .unset] [(.ref sv)]))
  refine own_st (V := T13.setTop (mkF m 141 #[.val (.int d0), .val (.int d1), .val (.int d2), .val (.int sl), .val (.int dd), .val (.int fz), .val (.int ((sl &&& (2147483647 : Int32)) % (3 : Int32))), .val (.int o0), .val (.int o1), .val (.int o2), .val (.int dn), .val (.int (((own_nz o0) + (own_nz o1)) + (own_nz o2))), .val (.ref dv), .val (.ref fv), .val (.ref sv), .unset, .unset, .unset, .unset, .unset, .unset, .unset] [])) (fun tgt k => ?_) ?_
  · show Steps p.tables e below (T13.setTop (mkF m 139 #[.val (.int d0), .val (.int d1), .val (.int d2), .val (.int sl), .val (.int dd), .val (.int fz), .val (.int ((sl &&& (2147483647 : Int32)) % (3 : Int32))), .val (.int o0), .val (.int o1), .val (.int o2), .val (.int dn), .val (.int (((own_nz o0) + (own_nz o1)) + (own_nz o2))), .val (.ref dv), .val (.ref fv), .unset, .unset, .unset, .unset, .unset, .unset, .unset, .unset] [(.ref sv)])) tgt
    refine XS.astore X13.here hx rfl (hb hby at_139) rfl rfl (l' := #[.val (.int d0), .val (.int d1), .val (.int d2), .val (.int sl), .val (.int dd), .val (.int fz), .val (.int ((sl &&& (2147483647 : Int32)) % (3 : Int32))), .val (.int o0), .val (.int o1), .val (.int o2), .val (.int dn), .val (.int (((own_nz o0) + (own_nz o1)) + (own_nz o2))), .val (.ref dv), .val (.ref fv), .val (.ref sv), .unset, .unset, .unset, .unset, .unset, .unset, .unset]) rfl ?_
    exact k
  rcases own_m3 sl with q | q | q
  · skip
    rw [show ((sl &&& (2147483647 : Int32)) % (3 : Int32)) = (0 : Int32) from q]
    refine own_st (V := T13.setTop (mkF m 195 #[.val (.int d0), .val (.int d1), .val (.int d2), .val (.int sl), .val (.int dd), .val (.int fz), .val (.int (0 : Int32)), .val (.int o0), .val (.int o1), .val (.int o2), .val (.int dn), .val (.int (((own_nz o0) + (own_nz o1)) + (own_nz o2))), .val (.ref dv), .val (.ref fv), .val (.ref sv), .val (.int o0), .val (.int fz), .unset, .unset, .unset, .unset, .unset] [(.int dn), (.int (0 : Int32)), (.ref sv)])) (fun tgt k => ?_) ?_
    · show Steps p.tables e below (T13.setTop (mkF m 141 #[.val (.int d0), .val (.int d1), .val (.int d2), .val (.int sl), .val (.int dd), .val (.int fz), .val (.int (0 : Int32)), .val (.int o0), .val (.int o1), .val (.int o2), .val (.int dn), .val (.int (((own_nz o0) + (own_nz o1)) + (own_nz o2))), .val (.ref dv), .val (.ref fv), .val (.ref sv), .unset, .unset, .unset, .unset, .unset, .unset, .unset] [])) tgt
      refine XS.iload X13.here hx rfl (hb hby at_141) rfl ?_
      show Steps p.tables e below (T13.setTop (mkF m 143 #[.val (.int d0), .val (.int d1), .val (.int d2), .val (.int sl), .val (.int dd), .val (.int fz), .val (.int (0 : Int32)), .val (.int o0), .val (.int o1), .val (.int o2), .val (.int dn), .val (.int (((own_nz o0) + (own_nz o1)) + (own_nz o2))), .val (.ref dv), .val (.ref fv), .val (.ref sv), .unset, .unset, .unset, .unset, .unset, .unset, .unset] [(.int (0 : Int32))])) tgt
      refine XS.ifNo X13.here hx rfl (hb hby at_143) rfl ((if0 _ _).trans (teq (by decide : (0 : Int32) = (0 : Int32))).2) ?_
      show Steps p.tables e below (T13.setTop (mkF m 146 #[.val (.int d0), .val (.int d1), .val (.int d2), .val (.int sl), .val (.int dd), .val (.int fz), .val (.int (0 : Int32)), .val (.int o0), .val (.int o1), .val (.int o2), .val (.int dn), .val (.int (((own_nz o0) + (own_nz o1)) + (own_nz o2))), .val (.ref dv), .val (.ref fv), .val (.ref sv), .unset, .unset, .unset, .unset, .unset, .unset, .unset] [])) tgt
      refine XS.iload X13.here hx rfl (hb hby at_146) rfl ?_
      show Steps p.tables e below (T13.setTop (mkF m 148 #[.val (.int d0), .val (.int d1), .val (.int d2), .val (.int sl), .val (.int dd), .val (.int fz), .val (.int (0 : Int32)), .val (.int o0), .val (.int o1), .val (.int o2), .val (.int dn), .val (.int (((own_nz o0) + (own_nz o1)) + (own_nz o2))), .val (.ref dv), .val (.ref fv), .val (.ref sv), .unset, .unset, .unset, .unset, .unset, .unset, .unset] [(.int o0)])) tgt
      refine XS.goto X13.here hx rfl (pc0 := 148) (pc' := 164) rfl (hb hby at_148) (by decide) (by decide) ?_
      show Steps p.tables e below (T13.setTop (mkF m 164 #[.val (.int d0), .val (.int d1), .val (.int d2), .val (.int sl), .val (.int dd), .val (.int fz), .val (.int (0 : Int32)), .val (.int o0), .val (.int o1), .val (.int o2), .val (.int dn), .val (.int (((own_nz o0) + (own_nz o1)) + (own_nz o2))), .val (.ref dv), .val (.ref fv), .val (.ref sv), .unset, .unset, .unset, .unset, .unset, .unset, .unset] [(.int o0)])) tgt
      refine XS.istore X13.here hx rfl (hb hby at_164) rfl (l' := #[.val (.int d0), .val (.int d1), .val (.int d2), .val (.int sl), .val (.int dd), .val (.int fz), .val (.int (0 : Int32)), .val (.int o0), .val (.int o1), .val (.int o2), .val (.int dn), .val (.int (((own_nz o0) + (own_nz o1)) + (own_nz o2))), .val (.ref dv), .val (.ref fv), .val (.ref sv), .val (.int o0), .unset, .unset, .unset, .unset, .unset, .unset]) rfl ?_
      show Steps p.tables e below (T13.setTop (mkF m 166 #[.val (.int d0), .val (.int d1), .val (.int d2), .val (.int sl), .val (.int dd), .val (.int fz), .val (.int (0 : Int32)), .val (.int o0), .val (.int o1), .val (.int o2), .val (.int dn), .val (.int (((own_nz o0) + (own_nz o1)) + (own_nz o2))), .val (.ref dv), .val (.ref fv), .val (.ref sv), .val (.int o0), .unset, .unset, .unset, .unset, .unset, .unset] [])) tgt
      refine XS.iload X13.here hx rfl (hb hby at_166) rfl ?_
      show Steps p.tables e below (T13.setTop (mkF m 168 #[.val (.int d0), .val (.int d1), .val (.int d2), .val (.int sl), .val (.int dd), .val (.int fz), .val (.int (0 : Int32)), .val (.int o0), .val (.int o1), .val (.int o2), .val (.int dn), .val (.int (((own_nz o0) + (own_nz o1)) + (own_nz o2))), .val (.ref dv), .val (.ref fv), .val (.ref sv), .val (.int o0), .unset, .unset, .unset, .unset, .unset, .unset] [(.int (0 : Int32))])) tgt
      refine XS.ifNo X13.here hx rfl (hb hby at_168) rfl ((if0 _ _).trans (teq (by decide : (0 : Int32) = (0 : Int32))).2) ?_
      show Steps p.tables e below (T13.setTop (mkF m 171 #[.val (.int d0), .val (.int d1), .val (.int d2), .val (.int sl), .val (.int dd), .val (.int fz), .val (.int (0 : Int32)), .val (.int o0), .val (.int o1), .val (.int o2), .val (.int dn), .val (.int (((own_nz o0) + (own_nz o1)) + (own_nz o2))), .val (.ref dv), .val (.ref fv), .val (.ref sv), .val (.int o0), .unset, .unset, .unset, .unset, .unset, .unset] [])) tgt
      refine XS.iload X13.here hx rfl (hb hby at_171) rfl ?_
      show Steps p.tables e below (T13.setTop (mkF m 173 #[.val (.int d0), .val (.int d1), .val (.int d2), .val (.int sl), .val (.int dd), .val (.int fz), .val (.int (0 : Int32)), .val (.int o0), .val (.int o1), .val (.int o2), .val (.int dn), .val (.int (((own_nz o0) + (own_nz o1)) + (own_nz o2))), .val (.ref dv), .val (.ref fv), .val (.ref sv), .val (.int o0), .unset, .unset, .unset, .unset, .unset, .unset] [(.int fz)])) tgt
      refine XS.goto X13.here hx rfl (pc0 := 173) (pc' := 187) rfl (hb hby at_173) (by decide) (by decide) ?_
      show Steps p.tables e below (T13.setTop (mkF m 187 #[.val (.int d0), .val (.int d1), .val (.int d2), .val (.int sl), .val (.int dd), .val (.int fz), .val (.int (0 : Int32)), .val (.int o0), .val (.int o1), .val (.int o2), .val (.int dn), .val (.int (((own_nz o0) + (own_nz o1)) + (own_nz o2))), .val (.ref dv), .val (.ref fv), .val (.ref sv), .val (.int o0), .unset, .unset, .unset, .unset, .unset, .unset] [(.int fz)])) tgt
      refine XS.istore X13.here hx rfl (hb hby at_187) rfl (l' := #[.val (.int d0), .val (.int d1), .val (.int d2), .val (.int sl), .val (.int dd), .val (.int fz), .val (.int (0 : Int32)), .val (.int o0), .val (.int o1), .val (.int o2), .val (.int dn), .val (.int (((own_nz o0) + (own_nz o1)) + (own_nz o2))), .val (.ref dv), .val (.ref fv), .val (.ref sv), .val (.int o0), .val (.int fz), .unset, .unset, .unset, .unset, .unset]) rfl ?_
      show Steps p.tables e below (T13.setTop (mkF m 189 #[.val (.int d0), .val (.int d1), .val (.int d2), .val (.int sl), .val (.int dd), .val (.int fz), .val (.int (0 : Int32)), .val (.int o0), .val (.int o1), .val (.int o2), .val (.int dn), .val (.int (((own_nz o0) + (own_nz o1)) + (own_nz o2))), .val (.ref dv), .val (.ref fv), .val (.ref sv), .val (.int o0), .val (.int fz), .unset, .unset, .unset, .unset, .unset] [])) tgt
      refine XS.aload X13.here hx rfl (hb hby at_189) rfl rfl ?_
      show Steps p.tables e below (T13.setTop (mkF m 191 #[.val (.int d0), .val (.int d1), .val (.int d2), .val (.int sl), .val (.int dd), .val (.int fz), .val (.int (0 : Int32)), .val (.int o0), .val (.int o1), .val (.int o2), .val (.int dn), .val (.int (((own_nz o0) + (own_nz o1)) + (own_nz o2))), .val (.ref dv), .val (.ref fv), .val (.ref sv), .val (.int o0), .val (.int fz), .unset, .unset, .unset, .unset, .unset] [(.ref sv)])) tgt
      refine XS.iload X13.here hx rfl (hb hby at_191) rfl ?_
      show Steps p.tables e below (T13.setTop (mkF m 193 #[.val (.int d0), .val (.int d1), .val (.int d2), .val (.int sl), .val (.int dd), .val (.int fz), .val (.int (0 : Int32)), .val (.int o0), .val (.int o1), .val (.int o2), .val (.int dn), .val (.int (((own_nz o0) + (own_nz o1)) + (own_nz o2))), .val (.ref dv), .val (.ref fv), .val (.ref sv), .val (.int o0), .val (.int fz), .unset, .unset, .unset, .unset, .unset] [(.int (0 : Int32)), (.ref sv)])) tgt
      refine XS.iload X13.here hx rfl (hb hby at_193) rfl ?_
      exact k
    obtain ⟨cq14, kq14, q14a, q14b, q14c⟩ := isOf hZ rfl g13_0
    obtain ⟨_, _, ⟨T14, L14, k14, n14⟩, -, X14, ⟨Lc14, hQ14, l14, y14, z14⟩, st14⟩ := X13.virtualBack hx (y := (⟨"com/example/chainwright/chainwright/State", "choose", "(II)V"⟩ : MethodName)) (z := (⟨"com/example/chainwright/chainwright/State", "choose", "(II)V"⟩ : MethodName)) hown (mvT hZ (hw _ (List.mem_of_getElem? (i := 21) rfl))) (mvT hZ (hw _ (List.mem_of_getElem? (i := 22) rfl))) (notFace_of_selects (args := #[]) (mvT hZ (hw _ (List.mem_of_getElem? (i := 24) rfl)))) (mvT hZ (hw _ (List.mem_of_getElem? (i := 24) rfl))) (mvT hZ (hw _ (List.mem_of_getElem? (i := 23) rfl))) (by decide) (backOf (W := 0) (rm4 l Z a0 hw [] sv (0 : Int32) dn dv 3 (own_up (own_up (own_up (fun _ => 0) 0 o0) 1 o1) 2 o2) 0 fv (((own_nz o0) + (own_nz o1)) + (own_nz o2)) T13.heap n0 Zs13 g13_0 g13_1 g13_2 g13_3 A_dv_13 (by first | assumption | decide | rfl) (by first | assumption | decide | rfl) g_sv g_dv (Ne.symm ne_dv_sv)) hZ (hw _ (List.mem_of_getElem? (i := 25) rfl)) (hw _ (List.mem_of_getElem? (i := 8) rfl)) (by decide) (by decide)) q14a q14c (g := (mkF m 195 #[.val (.int d0), .val (.int d1), .val (.int d2), .val (.int sl), .val (.int dd), .val (.int fz), .val (.int (0 : Int32)), .val (.int o0), .val (.int o1), .val (.int o2), .val (.int dn), .val (.int (((own_nz o0) + (own_nz o1)) + (own_nz o2))), .val (.ref dv), .val (.ref fv), .val (.ref sv), .val (.int o0), .val (.int fz), .unset, .unset, .unset, .unset, .unset] [(.int dn), (.int (0 : Int32)), (.ref sv)])) rfl (by rw [hml]; rfl) (Steps.refl _) (argsL := [(.int (0 : Int32)), (.int dn)]) (rest := []) (lenOf pd_0_2 rfl) rfl (by show 2 * 0 + _ ≤ _; exact Nat.le_of_eq rfl) (hb hby at_195) (fun _ _ => ⟨rfl, rfl, (by decide : 3 + 0 ≤ _), (by decide : 9 + 0 ≤ _)⟩)
    dsimp only [Pt.U, Pt.locs, Pt.cells, Pt.slots] at X14 l14 y14 z14 st14 hQ14
    subst l14 y14 z14
    obtain ⟨rfl, N14q, K14, g14_0, g14_1, g14_2, g14_3, g14_4⟩ := hQ14
    have N14 := Fr.app N13 N14q
    have A_fv_14 := A_fv_13.keep K14 (ninS ne_fv_sv (ninS (Ne.symm ne_dv_fv) nin0))
    have E_sv_14 := g13_0.keep K14
    have Zs14 : n0 ≤ T14.heap.size := Nat.le_trans Zs13 K14.1
    refine own_st (fun tgt k => st14.trans k) ?_
    show own_Go p e below _ (T14.setTop (mkF m 198 #[.val (.int d0), .val (.int d1), .val (.int d2), .val (.int sl), .val (.int dd), .val (.int fz), .val (.int (0 : Int32)), .val (.int o0), .val (.int o1), .val (.int o2), .val (.int dn), .val (.int (((own_nz o0) + (own_nz o1)) + (own_nz o2))), .val (.ref dv), .val (.ref fv), .val (.ref sv), .val (.int o0), .val (.int fz), .unset, .unset, .unset, .unset, .unset] []))
    refine own_st (V := T14.setTop (mkF m 246 #[.val (.int d0), .val (.int d1), .val (.int d2), .val (.int sl), .val (.int dd), .val (.int fz), .val (.int (0 : Int32)), .val (.int o0), .val (.int o1), .val (.int o2), .val (.int dn), .val (.int (((own_nz o0) + (own_nz o1)) + (own_nz o2))), .val (.ref dv), .val (.ref fv), .val (.ref sv), .val (.int o0), .val (.int fz), .val (.int dn), .val (.int o1), .val (.int o2), .unset, .unset] [(.int o0), (.int (((own_nz o0) + (own_nz o1)) + (own_nz o2)))])) (fun tgt k => ?_) ?_
    · show Steps p.tables e below (T14.setTop (mkF m 198 #[.val (.int d0), .val (.int d1), .val (.int d2), .val (.int sl), .val (.int dd), .val (.int fz), .val (.int (0 : Int32)), .val (.int o0), .val (.int o1), .val (.int o2), .val (.int dn), .val (.int (((own_nz o0) + (own_nz o1)) + (own_nz o2))), .val (.ref dv), .val (.ref fv), .val (.ref sv), .val (.int o0), .val (.int fz), .unset, .unset, .unset, .unset, .unset] [])) tgt
      refine XS.iload X14.here hx rfl (hb hby at_198) rfl ?_
      show Steps p.tables e below (T14.setTop (mkF m 200 #[.val (.int d0), .val (.int d1), .val (.int d2), .val (.int sl), .val (.int dd), .val (.int fz), .val (.int (0 : Int32)), .val (.int o0), .val (.int o1), .val (.int o2), .val (.int dn), .val (.int (((own_nz o0) + (own_nz o1)) + (own_nz o2))), .val (.ref dv), .val (.ref fv), .val (.ref sv), .val (.int o0), .val (.int fz), .unset, .unset, .unset, .unset, .unset] [(.int (0 : Int32))])) tgt
      refine XS.ifNo X14.here hx rfl (hb hby at_200) rfl ((if0 _ _).trans (teq (by decide : (0 : Int32) = (0 : Int32))).2) ?_
      show Steps p.tables e below (T14.setTop (mkF m 203 #[.val (.int d0), .val (.int d1), .val (.int d2), .val (.int sl), .val (.int dd), .val (.int fz), .val (.int (0 : Int32)), .val (.int o0), .val (.int o1), .val (.int o2), .val (.int dn), .val (.int (((own_nz o0) + (own_nz o1)) + (own_nz o2))), .val (.ref dv), .val (.ref fv), .val (.ref sv), .val (.int o0), .val (.int fz), .unset, .unset, .unset, .unset, .unset] [])) tgt
      refine XS.iload X14.here hx rfl (hb hby at_203) rfl ?_
      show Steps p.tables e below (T14.setTop (mkF m 205 #[.val (.int d0), .val (.int d1), .val (.int d2), .val (.int sl), .val (.int dd), .val (.int fz), .val (.int (0 : Int32)), .val (.int o0), .val (.int o1), .val (.int o2), .val (.int dn), .val (.int (((own_nz o0) + (own_nz o1)) + (own_nz o2))), .val (.ref dv), .val (.ref fv), .val (.ref sv), .val (.int o0), .val (.int fz), .unset, .unset, .unset, .unset, .unset] [(.int dn)])) tgt
      refine XS.goto X14.here hx rfl (pc0 := 205) (pc' := 210) rfl (hb hby at_205) (by decide) (by decide) ?_
      show Steps p.tables e below (T14.setTop (mkF m 210 #[.val (.int d0), .val (.int d1), .val (.int d2), .val (.int sl), .val (.int dd), .val (.int fz), .val (.int (0 : Int32)), .val (.int o0), .val (.int o1), .val (.int o2), .val (.int dn), .val (.int (((own_nz o0) + (own_nz o1)) + (own_nz o2))), .val (.ref dv), .val (.ref fv), .val (.ref sv), .val (.int o0), .val (.int fz), .unset, .unset, .unset, .unset, .unset] [(.int dn)])) tgt
      refine XS.istore X14.here hx rfl (hb hby at_210) rfl (l' := #[.val (.int d0), .val (.int d1), .val (.int d2), .val (.int sl), .val (.int dd), .val (.int fz), .val (.int (0 : Int32)), .val (.int o0), .val (.int o1), .val (.int o2), .val (.int dn), .val (.int (((own_nz o0) + (own_nz o1)) + (own_nz o2))), .val (.ref dv), .val (.ref fv), .val (.ref sv), .val (.int o0), .val (.int fz), .val (.int dn), .unset, .unset, .unset, .unset]) rfl ?_
      show Steps p.tables e below (T14.setTop (mkF m 212 #[.val (.int d0), .val (.int d1), .val (.int d2), .val (.int sl), .val (.int dd), .val (.int fz), .val (.int (0 : Int32)), .val (.int o0), .val (.int o1), .val (.int o2), .val (.int dn), .val (.int (((own_nz o0) + (own_nz o1)) + (own_nz o2))), .val (.ref dv), .val (.ref fv), .val (.ref sv), .val (.int o0), .val (.int fz), .val (.int dn), .unset, .unset, .unset, .unset] [])) tgt
      refine XS.iload X14.here hx rfl (hb hby at_212) rfl ?_
      show Steps p.tables e below (T14.setTop (mkF m 214 #[.val (.int d0), .val (.int d1), .val (.int d2), .val (.int sl), .val (.int dd), .val (.int fz), .val (.int (0 : Int32)), .val (.int o0), .val (.int o1), .val (.int o2), .val (.int dn), .val (.int (((own_nz o0) + (own_nz o1)) + (own_nz o2))), .val (.ref dv), .val (.ref fv), .val (.ref sv), .val (.int o0), .val (.int fz), .val (.int dn), .unset, .unset, .unset, .unset] [(.int (0 : Int32))])) tgt
      refine XS.iconst X14.here hx rfl (hb hby at_214) ?_
      show Steps p.tables e below (T14.setTop (mkF m 215 #[.val (.int d0), .val (.int d1), .val (.int d2), .val (.int sl), .val (.int dd), .val (.int fz), .val (.int (0 : Int32)), .val (.int o0), .val (.int o1), .val (.int o2), .val (.int dn), .val (.int (((own_nz o0) + (own_nz o1)) + (own_nz o2))), .val (.ref dv), .val (.ref fv), .val (.ref sv), .val (.int o0), .val (.int fz), .val (.int dn), .unset, .unset, .unset, .unset] [(.int (1 : Int32)), (.int (0 : Int32))])) tgt
      refine XS.icmpYes X14.here hx rfl (pc0 := 215) (pc' := 223) rfl (hb hby at_215) rfl (feq (by decide : ¬ ((0 : Int32) = (1 : Int32)))).2 (by decide) (by decide) ?_
      show Steps p.tables e below (T14.setTop (mkF m 223 #[.val (.int d0), .val (.int d1), .val (.int d2), .val (.int sl), .val (.int dd), .val (.int fz), .val (.int (0 : Int32)), .val (.int o0), .val (.int o1), .val (.int o2), .val (.int dn), .val (.int (((own_nz o0) + (own_nz o1)) + (own_nz o2))), .val (.ref dv), .val (.ref fv), .val (.ref sv), .val (.int o0), .val (.int fz), .val (.int dn), .unset, .unset, .unset, .unset] [])) tgt
      refine XS.iload X14.here hx rfl (hb hby at_223) rfl ?_
      show Steps p.tables e below (T14.setTop (mkF m 225 #[.val (.int d0), .val (.int d1), .val (.int d2), .val (.int sl), .val (.int dd), .val (.int fz), .val (.int (0 : Int32)), .val (.int o0), .val (.int o1), .val (.int o2), .val (.int dn), .val (.int (((own_nz o0) + (own_nz o1)) + (own_nz o2))), .val (.ref dv), .val (.ref fv), .val (.ref sv), .val (.int o0), .val (.int fz), .val (.int dn), .unset, .unset, .unset, .unset] [(.int o1)])) tgt
      refine XS.istore X14.here hx rfl (hb hby at_225) rfl (l' := #[.val (.int d0), .val (.int d1), .val (.int d2), .val (.int sl), .val (.int dd), .val (.int fz), .val (.int (0 : Int32)), .val (.int o0), .val (.int o1), .val (.int o2), .val (.int dn), .val (.int (((own_nz o0) + (own_nz o1)) + (own_nz o2))), .val (.ref dv), .val (.ref fv), .val (.ref sv), .val (.int o0), .val (.int fz), .val (.int dn), .val (.int o1), .unset, .unset, .unset]) rfl ?_
      show Steps p.tables e below (T14.setTop (mkF m 227 #[.val (.int d0), .val (.int d1), .val (.int d2), .val (.int sl), .val (.int dd), .val (.int fz), .val (.int (0 : Int32)), .val (.int o0), .val (.int o1), .val (.int o2), .val (.int dn), .val (.int (((own_nz o0) + (own_nz o1)) + (own_nz o2))), .val (.ref dv), .val (.ref fv), .val (.ref sv), .val (.int o0), .val (.int fz), .val (.int dn), .val (.int o1), .unset, .unset, .unset] [])) tgt
      refine XS.iload X14.here hx rfl (hb hby at_227) rfl ?_
      show Steps p.tables e below (T14.setTop (mkF m 229 #[.val (.int d0), .val (.int d1), .val (.int d2), .val (.int sl), .val (.int dd), .val (.int fz), .val (.int (0 : Int32)), .val (.int o0), .val (.int o1), .val (.int o2), .val (.int dn), .val (.int (((own_nz o0) + (own_nz o1)) + (own_nz o2))), .val (.ref dv), .val (.ref fv), .val (.ref sv), .val (.int o0), .val (.int fz), .val (.int dn), .val (.int o1), .unset, .unset, .unset] [(.int (0 : Int32))])) tgt
      refine XS.iconst X14.here hx rfl (hb hby at_229) ?_
      show Steps p.tables e below (T14.setTop (mkF m 230 #[.val (.int d0), .val (.int d1), .val (.int d2), .val (.int sl), .val (.int dd), .val (.int fz), .val (.int (0 : Int32)), .val (.int o0), .val (.int o1), .val (.int o2), .val (.int dn), .val (.int (((own_nz o0) + (own_nz o1)) + (own_nz o2))), .val (.ref dv), .val (.ref fv), .val (.ref sv), .val (.int o0), .val (.int fz), .val (.int dn), .val (.int o1), .unset, .unset, .unset] [(.int (2 : Int32)), (.int (0 : Int32))])) tgt
      refine XS.icmpYes X14.here hx rfl (pc0 := 230) (pc' := 238) rfl (hb hby at_230) rfl (feq (by decide : ¬ ((0 : Int32) = (2 : Int32)))).2 (by decide) (by decide) ?_
      show Steps p.tables e below (T14.setTop (mkF m 238 #[.val (.int d0), .val (.int d1), .val (.int d2), .val (.int sl), .val (.int dd), .val (.int fz), .val (.int (0 : Int32)), .val (.int o0), .val (.int o1), .val (.int o2), .val (.int dn), .val (.int (((own_nz o0) + (own_nz o1)) + (own_nz o2))), .val (.ref dv), .val (.ref fv), .val (.ref sv), .val (.int o0), .val (.int fz), .val (.int dn), .val (.int o1), .unset, .unset, .unset] [])) tgt
      refine XS.iload X14.here hx rfl (hb hby at_238) rfl ?_
      show Steps p.tables e below (T14.setTop (mkF m 240 #[.val (.int d0), .val (.int d1), .val (.int d2), .val (.int sl), .val (.int dd), .val (.int fz), .val (.int (0 : Int32)), .val (.int o0), .val (.int o1), .val (.int o2), .val (.int dn), .val (.int (((own_nz o0) + (own_nz o1)) + (own_nz o2))), .val (.ref dv), .val (.ref fv), .val (.ref sv), .val (.int o0), .val (.int fz), .val (.int dn), .val (.int o1), .unset, .unset, .unset] [(.int o2)])) tgt
      refine XS.istore X14.here hx rfl (hb hby at_240) rfl (l' := #[.val (.int d0), .val (.int d1), .val (.int d2), .val (.int sl), .val (.int dd), .val (.int fz), .val (.int (0 : Int32)), .val (.int o0), .val (.int o1), .val (.int o2), .val (.int dn), .val (.int (((own_nz o0) + (own_nz o1)) + (own_nz o2))), .val (.ref dv), .val (.ref fv), .val (.ref sv), .val (.int o0), .val (.int fz), .val (.int dn), .val (.int o1), .val (.int o2), .unset, .unset]) rfl ?_
      show Steps p.tables e below (T14.setTop (mkF m 242 #[.val (.int d0), .val (.int d1), .val (.int d2), .val (.int sl), .val (.int dd), .val (.int fz), .val (.int (0 : Int32)), .val (.int o0), .val (.int o1), .val (.int o2), .val (.int dn), .val (.int (((own_nz o0) + (own_nz o1)) + (own_nz o2))), .val (.ref dv), .val (.ref fv), .val (.ref sv), .val (.int o0), .val (.int fz), .val (.int dn), .val (.int o1), .val (.int o2), .unset, .unset] [])) tgt
      refine XS.iload X14.here hx rfl (hb hby at_242) rfl ?_
      show Steps p.tables e below (T14.setTop (mkF m 244 #[.val (.int d0), .val (.int d1), .val (.int d2), .val (.int sl), .val (.int dd), .val (.int fz), .val (.int (0 : Int32)), .val (.int o0), .val (.int o1), .val (.int o2), .val (.int dn), .val (.int (((own_nz o0) + (own_nz o1)) + (own_nz o2))), .val (.ref dv), .val (.ref fv), .val (.ref sv), .val (.int o0), .val (.int fz), .val (.int dn), .val (.int o1), .val (.int o2), .unset, .unset] [(.int (((own_nz o0) + (own_nz o1)) + (own_nz o2)))])) tgt
      refine XS.iload X14.here hx rfl (hb hby at_244) rfl ?_
      exact k
    obtain ⟨xs, hxs⟩ : ∃ z : Int32, z = (if o0 = (0 : Int32) then (1 : Int32) else (0 : Int32)) := ⟨_, rfl⟩
    refine own_st (V := T14.setTop (mkF m 254 #[.val (.int d0), .val (.int d1), .val (.int d2), .val (.int sl), .val (.int dd), .val (.int fz), .val (.int (0 : Int32)), .val (.int o0), .val (.int o1), .val (.int o2), .val (.int dn), .val (.int (((own_nz o0) + (own_nz o1)) + (own_nz o2))), .val (.ref dv), .val (.ref fv), .val (.ref sv), .val (.int o0), .val (.int fz), .val (.int dn), .val (.int o1), .val (.int o2), .unset, .unset] [(.int xs), (.int (((own_nz o0) + (own_nz o1)) + (own_nz o2)))])) (fun tgt k => ?_) ?_
    · skip
      by_cases hc246_2 : o0 = (0 : Int32)
      · skip
        rw [if_pos hc246_2] at hxs
        show Steps p.tables e below (T14.setTop (mkF m 246 #[.val (.int d0), .val (.int d1), .val (.int d2), .val (.int sl), .val (.int dd), .val (.int fz), .val (.int (0 : Int32)), .val (.int o0), .val (.int o1), .val (.int o2), .val (.int dn), .val (.int (((own_nz o0) + (own_nz o1)) + (own_nz o2))), .val (.ref dv), .val (.ref fv), .val (.ref sv), .val (.int o0), .val (.int fz), .val (.int dn), .val (.int o1), .val (.int o2), .unset, .unset] [(.int o0), (.int (((own_nz o0) + (own_nz o1)) + (own_nz o2)))])) tgt
        refine XS.ifNo X14.here hx rfl (hb hby at_246) rfl ((if0 _ _).trans (teq hc246_2).2) ?_
        show Steps p.tables e below (T14.setTop (mkF m 249 #[.val (.int d0), .val (.int d1), .val (.int d2), .val (.int sl), .val (.int dd), .val (.int fz), .val (.int (0 : Int32)), .val (.int o0), .val (.int o1), .val (.int o2), .val (.int dn), .val (.int (((own_nz o0) + (own_nz o1)) + (own_nz o2))), .val (.ref dv), .val (.ref fv), .val (.ref sv), .val (.int o0), .val (.int fz), .val (.int dn), .val (.int o1), .val (.int o2), .unset, .unset] [(.int (((own_nz o0) + (own_nz o1)) + (own_nz o2)))])) tgt
        refine XS.iconst X14.here hx rfl (hb hby at_249) ?_
        show Steps p.tables e below (T14.setTop (mkF m 250 #[.val (.int d0), .val (.int d1), .val (.int d2), .val (.int sl), .val (.int dd), .val (.int fz), .val (.int (0 : Int32)), .val (.int o0), .val (.int o1), .val (.int o2), .val (.int dn), .val (.int (((own_nz o0) + (own_nz o1)) + (own_nz o2))), .val (.ref dv), .val (.ref fv), .val (.ref sv), .val (.int o0), .val (.int fz), .val (.int dn), .val (.int o1), .val (.int o2), .unset, .unset] [(.int (1 : Int32)), (.int (((own_nz o0) + (own_nz o1)) + (own_nz o2)))])) tgt
        refine XS.goto X14.here hx rfl (pc0 := 250) (pc' := 254) rfl (hb hby at_250) (by decide) (by decide) ?_
        rw [hxs] at k
        exact k
      · skip
        rw [if_neg hc246_2] at hxs
        show Steps p.tables e below (T14.setTop (mkF m 246 #[.val (.int d0), .val (.int d1), .val (.int d2), .val (.int sl), .val (.int dd), .val (.int fz), .val (.int (0 : Int32)), .val (.int o0), .val (.int o1), .val (.int o2), .val (.int dn), .val (.int (((own_nz o0) + (own_nz o1)) + (own_nz o2))), .val (.ref dv), .val (.ref fv), .val (.ref sv), .val (.int o0), .val (.int fz), .val (.int dn), .val (.int o1), .val (.int o2), .unset, .unset] [(.int o0), (.int (((own_nz o0) + (own_nz o1)) + (own_nz o2)))])) tgt
        refine XS.ifYes X14.here hx rfl (pc0 := 246) (pc' := 253) rfl (hb hby at_246) rfl ((if0 _ _).trans (feq hc246_2).2) (by decide) (by decide) ?_
        show Steps p.tables e below (T14.setTop (mkF m 253 #[.val (.int d0), .val (.int d1), .val (.int d2), .val (.int sl), .val (.int dd), .val (.int fz), .val (.int (0 : Int32)), .val (.int o0), .val (.int o1), .val (.int o2), .val (.int dn), .val (.int (((own_nz o0) + (own_nz o1)) + (own_nz o2))), .val (.ref dv), .val (.ref fv), .val (.ref sv), .val (.int o0), .val (.int fz), .val (.int dn), .val (.int o1), .val (.int o2), .unset, .unset] [(.int (((own_nz o0) + (own_nz o1)) + (own_nz o2)))])) tgt
        refine XS.iconst X14.here hx rfl (hb hby at_253) ?_
        rw [hxs] at k
        exact k
    refine own_st (V := T14.setTop (mkF m 259 #[.val (.int d0), .val (.int d1), .val (.int d2), .val (.int sl), .val (.int dd), .val (.int fz), .val (.int (0 : Int32)), .val (.int o0), .val (.int o1), .val (.int o2), .val (.int dn), .val (.int (((own_nz o0) + (own_nz o1)) + (own_nz o2))), .val (.ref dv), .val (.ref fv), .val (.ref sv), .val (.int o0), .val (.int fz), .val (.int dn), .val (.int o1), .val (.int o2), .val (.int ((((own_nz o0) + (own_nz o1)) + (own_nz o2)) + xs)), .unset] [(.int dn)])) (fun tgt k => ?_) ?_
    · show Steps p.tables e below (T14.setTop (mkF m 254 #[.val (.int d0), .val (.int d1), .val (.int d2), .val (.int sl), .val (.int dd), .val (.int fz), .val (.int (0 : Int32)), .val (.int o0), .val (.int o1), .val (.int o2), .val (.int dn), .val (.int (((own_nz o0) + (own_nz o1)) + (own_nz o2))), .val (.ref dv), .val (.ref fv), .val (.ref sv), .val (.int o0), .val (.int fz), .val (.int dn), .val (.int o1), .val (.int o2), .unset, .unset] [(.int xs), (.int (((own_nz o0) + (own_nz o1)) + (own_nz o2)))])) tgt
      refine XS.iadd X14.here hx rfl (hb hby at_254) rfl ?_
      show Steps p.tables e below (T14.setTop (mkF m 255 #[.val (.int d0), .val (.int d1), .val (.int d2), .val (.int sl), .val (.int dd), .val (.int fz), .val (.int (0 : Int32)), .val (.int o0), .val (.int o1), .val (.int o2), .val (.int dn), .val (.int (((own_nz o0) + (own_nz o1)) + (own_nz o2))), .val (.ref dv), .val (.ref fv), .val (.ref sv), .val (.int o0), .val (.int fz), .val (.int dn), .val (.int o1), .val (.int o2), .unset, .unset] [(.int ((((own_nz o0) + (own_nz o1)) + (own_nz o2)) + xs))])) tgt
      refine XS.istore X14.here hx rfl (hb hby at_255) rfl (l' := #[.val (.int d0), .val (.int d1), .val (.int d2), .val (.int sl), .val (.int dd), .val (.int fz), .val (.int (0 : Int32)), .val (.int o0), .val (.int o1), .val (.int o2), .val (.int dn), .val (.int (((own_nz o0) + (own_nz o1)) + (own_nz o2))), .val (.ref dv), .val (.ref fv), .val (.ref sv), .val (.int o0), .val (.int fz), .val (.int dn), .val (.int o1), .val (.int o2), .val (.int ((((own_nz o0) + (own_nz o1)) + (own_nz o2)) + xs)), .unset]) rfl ?_
      show Steps p.tables e below (T14.setTop (mkF m 257 #[.val (.int d0), .val (.int d1), .val (.int d2), .val (.int sl), .val (.int dd), .val (.int fz), .val (.int (0 : Int32)), .val (.int o0), .val (.int o1), .val (.int o2), .val (.int dn), .val (.int (((own_nz o0) + (own_nz o1)) + (own_nz o2))), .val (.ref dv), .val (.ref fv), .val (.ref sv), .val (.int o0), .val (.int fz), .val (.int dn), .val (.int o1), .val (.int o2), .val (.int ((((own_nz o0) + (own_nz o1)) + (own_nz o2)) + xs)), .unset] [])) tgt
      refine XS.iload X14.here hx rfl (hb hby at_257) rfl ?_
      exact k
    obtain ⟨_, _, ⟨T15, L15, k15, n15⟩, -, X15, ⟨Lc15, hQ15, l15, y15, z15⟩, st15⟩ := Jvm.LawKit.callS X14 hx (y := (⟨"com/example/chainwright/chainwright/StateChoosePinLaw", "nz", "(I)I"⟩ : MethodName)) hown (mvT hZ (hw _ (List.mem_of_getElem? (i := 1) rfl))) (mvT hZ (hw _ (List.mem_of_getElem? (i := 2) rfl))) (mvT hZ (hw _ (List.mem_of_getElem? (i := 3) rfl))) (mvT hZ (hw _ (List.mem_of_getElem? (i := 4) rfl))) (by decide) (backOf (W := 0) (rm1 l Z a0 hw [] dn T14.heap n0 Zs14 ) hZ (hw _ (List.mem_of_getElem? (i := 4) rfl)) (hw _ (List.mem_of_getElem? (i := 3) rfl)) (by decide) (by decide)) (g := (mkF m 259 #[.val (.int d0), .val (.int d1), .val (.int d2), .val (.int sl), .val (.int dd), .val (.int fz), .val (.int (0 : Int32)), .val (.int o0), .val (.int o1), .val (.int o2), .val (.int dn), .val (.int (((own_nz o0) + (own_nz o1)) + (own_nz o2))), .val (.ref dv), .val (.ref fv), .val (.ref sv), .val (.int o0), .val (.int fz), .val (.int dn), .val (.int o1), .val (.int o2), .val (.int ((((own_nz o0) + (own_nz o1)) + (own_nz o2)) + xs)), .unset] [(.int dn)])) rfl (by rw [hml]; rfl) (argsL := [(.int dn)]) (rest := []) (lenOf pd_0_0 rfl) rfl (by show 2 * 0 + _ ≤ _; exact Nat.le_of_eq rfl) (hb hby at_259) (fun _ _ => ⟨rfl, rfl, (by decide : 3 + 0 ≤ _), (by decide : 9 + 0 ≤ _)⟩)
    dsimp only [Pt.U, Pt.locs, Pt.cells, Pt.slots] at X15 l15 y15 z15 st15 hQ15
    subst l15 y15 z15
    obtain ⟨rfl, N15q, K15⟩ := hQ15
    have N15 := Fr.app N14 N15q
    refine own_st st15 ?_
    show own_Go p e below _ (T15.setTop (mkF m 262 #[.val (.int d0), .val (.int d1), .val (.int d2), .val (.int sl), .val (.int dd), .val (.int fz), .val (.int (0 : Int32)), .val (.int o0), .val (.int o1), .val (.int o2), .val (.int dn), .val (.int (((own_nz o0) + (own_nz o1)) + (own_nz o2))), .val (.ref dv), .val (.ref fv), .val (.ref sv), .val (.int o0), .val (.int fz), .val (.int dn), .val (.int o1), .val (.int o2), .val (.int ((((own_nz o0) + (own_nz o1)) + (own_nz o2)) + xs)), .unset] [(.int (own_nz dn))]))
    refine own_st (V := T15.setTop (mkF m 264 #[.val (.int d0), .val (.int d1), .val (.int d2), .val (.int sl), .val (.int dd), .val (.int fz), .val (.int (0 : Int32)), .val (.int o0), .val (.int o1), .val (.int o2), .val (.int dn), .val (.int (((own_nz o0) + (own_nz o1)) + (own_nz o2))), .val (.ref dv), .val (.ref fv), .val (.ref sv), .val (.int o0), .val (.int fz), .val (.int dn), .val (.int o1), .val (.int o2), .val (.int ((((own_nz o0) + (own_nz o1)) + (own_nz o2)) + xs)), .unset] [(.int o1), (.int (own_nz dn))])) (fun tgt k => ?_) ?_
    · show Steps p.tables e below (T15.setTop (mkF m 262 #[.val (.int d0), .val (.int d1), .val (.int d2), .val (.int sl), .val (.int dd), .val (.int fz), .val (.int (0 : Int32)), .val (.int o0), .val (.int o1), .val (.int o2), .val (.int dn), .val (.int (((own_nz o0) + (own_nz o1)) + (own_nz o2))), .val (.ref dv), .val (.ref fv), .val (.ref sv), .val (.int o0), .val (.int fz), .val (.int dn), .val (.int o1), .val (.int o2), .val (.int ((((own_nz o0) + (own_nz o1)) + (own_nz o2)) + xs)), .unset] [(.int (own_nz dn))])) tgt
      refine XS.iload X15.here hx rfl (hb hby at_262) rfl ?_
      exact k
    obtain ⟨_, _, ⟨T16, L16, k16, n16⟩, -, X16, ⟨Lc16, hQ16, l16, y16, z16⟩, st16⟩ := Jvm.LawKit.callS X15 hx (y := (⟨"com/example/chainwright/chainwright/StateChoosePinLaw", "nz", "(I)I"⟩ : MethodName)) hown (mvT hZ (hw _ (List.mem_of_getElem? (i := 1) rfl))) (mvT hZ (hw _ (List.mem_of_getElem? (i := 2) rfl))) (mvT hZ (hw _ (List.mem_of_getElem? (i := 3) rfl))) (mvT hZ (hw _ (List.mem_of_getElem? (i := 4) rfl))) (by decide) (backOf (W := 1) (rm1 l Z a0 hw [] o1 T14.heap n0 Zs14 ) hZ (hw _ (List.mem_of_getElem? (i := 4) rfl)) (hw _ (List.mem_of_getElem? (i := 3) rfl)) (by decide) (by decide)) (g := (mkF m 264 #[.val (.int d0), .val (.int d1), .val (.int d2), .val (.int sl), .val (.int dd), .val (.int fz), .val (.int (0 : Int32)), .val (.int o0), .val (.int o1), .val (.int o2), .val (.int dn), .val (.int (((own_nz o0) + (own_nz o1)) + (own_nz o2))), .val (.ref dv), .val (.ref fv), .val (.ref sv), .val (.int o0), .val (.int fz), .val (.int dn), .val (.int o1), .val (.int o2), .val (.int ((((own_nz o0) + (own_nz o1)) + (own_nz o2)) + xs)), .unset] [(.int o1), (.int (own_nz dn))])) rfl (by rw [hml]; rfl) (argsL := [(.int o1)]) (rest := [(.int (own_nz dn))]) (lenOf pd_0_0 rfl) rfl (by show 2 * 0 + _ ≤ _; exact Nat.le_of_eq rfl) (hb hby at_264) (fun _ _ => ⟨rfl, K15, (by decide : 3 + 0 ≤ _), (by decide : 9 + 0 ≤ _)⟩)
    dsimp only [Pt.U, Pt.locs, Pt.cells, Pt.slots] at X16 l16 y16 z16 st16 hQ16
    subst l16 y16 z16
    obtain ⟨rfl, N16q, K16⟩ := hQ16
    have N16 := Fr.app N15 N16q
    refine own_st st16 ?_
    show own_Go p e below _ (T16.setTop (mkF m 267 #[.val (.int d0), .val (.int d1), .val (.int d2), .val (.int sl), .val (.int dd), .val (.int fz), .val (.int (0 : Int32)), .val (.int o0), .val (.int o1), .val (.int o2), .val (.int dn), .val (.int (((own_nz o0) + (own_nz o1)) + (own_nz o2))), .val (.ref dv), .val (.ref fv), .val (.ref sv), .val (.int o0), .val (.int fz), .val (.int dn), .val (.int o1), .val (.int o2), .val (.int ((((own_nz o0) + (own_nz o1)) + (own_nz o2)) + xs)), .unset] [(.int (own_nz o1)), (.int (own_nz dn))]))
    refine own_st (V := T16.setTop (mkF m 270 #[.val (.int d0), .val (.int d1), .val (.int d2), .val (.int sl), .val (.int dd), .val (.int fz), .val (.int (0 : Int32)), .val (.int o0), .val (.int o1), .val (.int o2), .val (.int dn), .val (.int (((own_nz o0) + (own_nz o1)) + (own_nz o2))), .val (.ref dv), .val (.ref fv), .val (.ref sv), .val (.int o0), .val (.int fz), .val (.int dn), .val (.int o1), .val (.int o2), .val (.int ((((own_nz o0) + (own_nz o1)) + (own_nz o2)) + xs)), .unset] [(.int o2), (.int ((own_nz dn) + (own_nz o1)))])) (fun tgt k => ?_) ?_
    · show Steps p.tables e below (T16.setTop (mkF m 267 #[.val (.int d0), .val (.int d1), .val (.int d2), .val (.int sl), .val (.int dd), .val (.int fz), .val (.int (0 : Int32)), .val (.int o0), .val (.int o1), .val (.int o2), .val (.int dn), .val (.int (((own_nz o0) + (own_nz o1)) + (own_nz o2))), .val (.ref dv), .val (.ref fv), .val (.ref sv), .val (.int o0), .val (.int fz), .val (.int dn), .val (.int o1), .val (.int o2), .val (.int ((((own_nz o0) + (own_nz o1)) + (own_nz o2)) + xs)), .unset] [(.int (own_nz o1)), (.int (own_nz dn))])) tgt
      refine XS.iadd X16.here hx rfl (hb hby at_267) rfl ?_
      show Steps p.tables e below (T16.setTop (mkF m 268 #[.val (.int d0), .val (.int d1), .val (.int d2), .val (.int sl), .val (.int dd), .val (.int fz), .val (.int (0 : Int32)), .val (.int o0), .val (.int o1), .val (.int o2), .val (.int dn), .val (.int (((own_nz o0) + (own_nz o1)) + (own_nz o2))), .val (.ref dv), .val (.ref fv), .val (.ref sv), .val (.int o0), .val (.int fz), .val (.int dn), .val (.int o1), .val (.int o2), .val (.int ((((own_nz o0) + (own_nz o1)) + (own_nz o2)) + xs)), .unset] [(.int ((own_nz dn) + (own_nz o1)))])) tgt
      refine XS.iload X16.here hx rfl (hb hby at_268) rfl ?_
      exact k
    obtain ⟨_, _, ⟨T17, L17, k17, n17⟩, -, X17, ⟨Lc17, hQ17, l17, y17, z17⟩, st17⟩ := Jvm.LawKit.callS X16 hx (y := (⟨"com/example/chainwright/chainwright/StateChoosePinLaw", "nz", "(I)I"⟩ : MethodName)) hown (mvT hZ (hw _ (List.mem_of_getElem? (i := 1) rfl))) (mvT hZ (hw _ (List.mem_of_getElem? (i := 2) rfl))) (mvT hZ (hw _ (List.mem_of_getElem? (i := 3) rfl))) (mvT hZ (hw _ (List.mem_of_getElem? (i := 4) rfl))) (by decide) (backOf (W := 1) (rm1 l Z a0 hw [] o2 T14.heap n0 Zs14 ) hZ (hw _ (List.mem_of_getElem? (i := 4) rfl)) (hw _ (List.mem_of_getElem? (i := 3) rfl)) (by decide) (by decide)) (g := (mkF m 270 #[.val (.int d0), .val (.int d1), .val (.int d2), .val (.int sl), .val (.int dd), .val (.int fz), .val (.int (0 : Int32)), .val (.int o0), .val (.int o1), .val (.int o2), .val (.int dn), .val (.int (((own_nz o0) + (own_nz o1)) + (own_nz o2))), .val (.ref dv), .val (.ref fv), .val (.ref sv), .val (.int o0), .val (.int fz), .val (.int dn), .val (.int o1), .val (.int o2), .val (.int ((((own_nz o0) + (own_nz o1)) + (own_nz o2)) + xs)), .unset] [(.int o2), (.int ((own_nz dn) + (own_nz o1)))])) rfl (by rw [hml]; rfl) (argsL := [(.int o2)]) (rest := [(.int ((own_nz dn) + (own_nz o1)))]) (lenOf pd_0_0 rfl) rfl (by show 2 * 0 + _ ≤ _; exact Nat.le_of_eq rfl) (hb hby at_270) (fun _ _ => ⟨rfl, K16, (by decide : 3 + 0 ≤ _), (by decide : 9 + 0 ≤ _)⟩)
    dsimp only [Pt.U, Pt.locs, Pt.cells, Pt.slots] at X17 l17 y17 z17 st17 hQ17
    subst l17 y17 z17
    obtain ⟨rfl, N17q, K17⟩ := hQ17
    have N17 := Fr.app N16 N17q
    refine own_st st17 ?_
    show own_Go p e below _ (T17.setTop (mkF m 273 #[.val (.int d0), .val (.int d1), .val (.int d2), .val (.int sl), .val (.int dd), .val (.int fz), .val (.int (0 : Int32)), .val (.int o0), .val (.int o1), .val (.int o2), .val (.int dn), .val (.int (((own_nz o0) + (own_nz o1)) + (own_nz o2))), .val (.ref dv), .val (.ref fv), .val (.ref sv), .val (.int o0), .val (.int fz), .val (.int dn), .val (.int o1), .val (.int o2), .val (.int ((((own_nz o0) + (own_nz o1)) + (own_nz o2)) + xs)), .unset] [(.int (own_nz o2)), (.int ((own_nz dn) + (own_nz o1)))]))
    refine own_st (V := T17.setTop (mkF m 279 #[.val (.int d0), .val (.int d1), .val (.int d2), .val (.int sl), .val (.int dd), .val (.int fz), .val (.int (0 : Int32)), .val (.int o0), .val (.int o1), .val (.int o2), .val (.int dn), .val (.int (((own_nz o0) + (own_nz o1)) + (own_nz o2))), .val (.ref dv), .val (.ref fv), .val (.ref sv), .val (.int o0), .val (.int fz), .val (.int dn), .val (.int o1), .val (.int o2), .val (.int ((((own_nz o0) + (own_nz o1)) + (own_nz o2)) + xs)), .val (.int (((own_nz dn) + (own_nz o1)) + (own_nz o2)))] [(.int (0 : Int32)), (.ref sv)])) (fun tgt k => ?_) ?_
    · show Steps p.tables e below (T17.setTop (mkF m 273 #[.val (.int d0), .val (.int d1), .val (.int d2), .val (.int sl), .val (.int dd), .val (.int fz), .val (.int (0 : Int32)), .val (.int o0), .val (.int o1), .val (.int o2), .val (.int dn), .val (.int (((own_nz o0) + (own_nz o1)) + (own_nz o2))), .val (.ref dv), .val (.ref fv), .val (.ref sv), .val (.int o0), .val (.int fz), .val (.int dn), .val (.int o1), .val (.int o2), .val (.int ((((own_nz o0) + (own_nz o1)) + (own_nz o2)) + xs)), .unset] [(.int (own_nz o2)), (.int ((own_nz dn) + (own_nz o1)))])) tgt
      refine XS.iadd X17.here hx rfl (hb hby at_273) rfl ?_
      show Steps p.tables e below (T17.setTop (mkF m 274 #[.val (.int d0), .val (.int d1), .val (.int d2), .val (.int sl), .val (.int dd), .val (.int fz), .val (.int (0 : Int32)), .val (.int o0), .val (.int o1), .val (.int o2), .val (.int dn), .val (.int (((own_nz o0) + (own_nz o1)) + (own_nz o2))), .val (.ref dv), .val (.ref fv), .val (.ref sv), .val (.int o0), .val (.int fz), .val (.int dn), .val (.int o1), .val (.int o2), .val (.int ((((own_nz o0) + (own_nz o1)) + (own_nz o2)) + xs)), .unset] [(.int (((own_nz dn) + (own_nz o1)) + (own_nz o2)))])) tgt
      refine XS.istore X17.here hx rfl (hb hby at_274) rfl (l' := #[.val (.int d0), .val (.int d1), .val (.int d2), .val (.int sl), .val (.int dd), .val (.int fz), .val (.int (0 : Int32)), .val (.int o0), .val (.int o1), .val (.int o2), .val (.int dn), .val (.int (((own_nz o0) + (own_nz o1)) + (own_nz o2))), .val (.ref dv), .val (.ref fv), .val (.ref sv), .val (.int o0), .val (.int fz), .val (.int dn), .val (.int o1), .val (.int o2), .val (.int ((((own_nz o0) + (own_nz o1)) + (own_nz o2)) + xs)), .val (.int (((own_nz dn) + (own_nz o1)) + (own_nz o2)))]) rfl ?_
      show Steps p.tables e below (T17.setTop (mkF m 276 #[.val (.int d0), .val (.int d1), .val (.int d2), .val (.int sl), .val (.int dd), .val (.int fz), .val (.int (0 : Int32)), .val (.int o0), .val (.int o1), .val (.int o2), .val (.int dn), .val (.int (((own_nz o0) + (own_nz o1)) + (own_nz o2))), .val (.ref dv), .val (.ref fv), .val (.ref sv), .val (.int o0), .val (.int fz), .val (.int dn), .val (.int o1), .val (.int o2), .val (.int ((((own_nz o0) + (own_nz o1)) + (own_nz o2)) + xs)), .val (.int (((own_nz dn) + (own_nz o1)) + (own_nz o2)))] [])) tgt
      refine XS.aload X17.here hx rfl (hb hby at_276) rfl rfl ?_
      show Steps p.tables e below (T17.setTop (mkF m 278 #[.val (.int d0), .val (.int d1), .val (.int d2), .val (.int sl), .val (.int dd), .val (.int fz), .val (.int (0 : Int32)), .val (.int o0), .val (.int o1), .val (.int o2), .val (.int dn), .val (.int (((own_nz o0) + (own_nz o1)) + (own_nz o2))), .val (.ref dv), .val (.ref fv), .val (.ref sv), .val (.int o0), .val (.int fz), .val (.int dn), .val (.int o1), .val (.int o2), .val (.int ((((own_nz o0) + (own_nz o1)) + (own_nz o2)) + xs)), .val (.int (((own_nz dn) + (own_nz o1)) + (own_nz o2)))] [(.ref sv)])) tgt
      refine XS.iconst X17.here hx rfl (hb hby at_278) ?_
      exact k
    obtain ⟨cq18, kq18, q18a, q18b, q18c⟩ := isOf hZ K17 g14_0
    obtain ⟨_, _, ⟨T18, L18, k18, n18⟩, -, X18, ⟨Lc18, hQ18, l18, y18, z18⟩, st18⟩ := X17.virtualBack hx (y := (⟨"com/example/chainwright/chainwright/State", "deadline", "(I)I"⟩ : MethodName)) (z := (⟨"com/example/chainwright/chainwright/State", "deadline", "(I)I"⟩ : MethodName)) hown (mvT hZ (hw _ (List.mem_of_getElem? (i := 31) rfl))) (mvT hZ (hw _ (List.mem_of_getElem? (i := 32) rfl))) (notFace_of_selects (args := #[]) (mvT hZ (hw _ (List.mem_of_getElem? (i := 34) rfl)))) (mvT hZ (hw _ (List.mem_of_getElem? (i := 34) rfl))) (mvT hZ (hw _ (List.mem_of_getElem? (i := 33) rfl))) (by decide) (backOf (W := 0) (rm6 l Z a0 hw [] sv (0 : Int32) dv 3 (own_up (own_up (own_up (own_up (fun _ => 0) 0 o0) 1 o1) 2 o2) 0 dn) 0 T14.heap n0 Zs14 g14_1 g14_4 (by first | assumption | decide | rfl) (by first | assumption | decide | rfl)) hZ (hw _ (List.mem_of_getElem? (i := 35) rfl)) (hw _ (List.mem_of_getElem? (i := 8) rfl)) (by decide) (by decide)) q18a q18c (g := (mkF m 279 #[.val (.int d0), .val (.int d1), .val (.int d2), .val (.int sl), .val (.int dd), .val (.int fz), .val (.int (0 : Int32)), .val (.int o0), .val (.int o1), .val (.int o2), .val (.int dn), .val (.int (((own_nz o0) + (own_nz o1)) + (own_nz o2))), .val (.ref dv), .val (.ref fv), .val (.ref sv), .val (.int o0), .val (.int fz), .val (.int dn), .val (.int o1), .val (.int o2), .val (.int ((((own_nz o0) + (own_nz o1)) + (own_nz o2)) + xs)), .val (.int (((own_nz dn) + (own_nz o1)) + (own_nz o2)))] [(.int (0 : Int32)), (.ref sv)])) rfl (by rw [hml]; rfl) (Steps.refl _) (argsL := [(.int (0 : Int32))]) (rest := []) (lenOf pd_0_0 rfl) rfl (by show 2 * 0 + _ ≤ _; exact Nat.le_of_eq rfl) (hb hby at_279) (fun _ _ => ⟨rfl, K17, (by decide : 3 + 0 ≤ _), (by decide : 9 + 0 ≤ _)⟩)
    dsimp only [Pt.U, Pt.locs, Pt.cells, Pt.slots] at X18 l18 y18 z18 st18 hQ18
    subst l18 y18 z18
    obtain ⟨rfl, N18q, K18⟩ := hQ18
    have N18 := Fr.app N17 N18q
    refine own_st (fun tgt k => st18.trans k) ?_
    show own_Go p e below _ (T18.setTop (mkF m 282 #[.val (.int d0), .val (.int d1), .val (.int d2), .val (.int sl), .val (.int dd), .val (.int fz), .val (.int (0 : Int32)), .val (.int o0), .val (.int o1), .val (.int o2), .val (.int dn), .val (.int (((own_nz o0) + (own_nz o1)) + (own_nz o2))), .val (.ref dv), .val (.ref fv), .val (.ref sv), .val (.int o0), .val (.int fz), .val (.int dn), .val (.int o1), .val (.int o2), .val (.int ((((own_nz o0) + (own_nz o1)) + (own_nz o2)) + xs)), .val (.int (((own_nz dn) + (own_nz o1)) + (own_nz o2)))] [(.int ((own_up (own_up (own_up (own_up (fun _ => 0) 0 o0) 1 o1) 2 o2) 0 dn) 0))]))
    refine own_st (V := T18.setTop (mkF m 290 #[.val (.int d0), .val (.int d1), .val (.int d2), .val (.int sl), .val (.int dd), .val (.int fz), .val (.int (0 : Int32)), .val (.int o0), .val (.int o1), .val (.int o2), .val (.int dn), .val (.int (((own_nz o0) + (own_nz o1)) + (own_nz o2))), .val (.ref dv), .val (.ref fv), .val (.ref sv), .val (.int o0), .val (.int fz), .val (.int dn), .val (.int o1), .val (.int o2), .val (.int ((((own_nz o0) + (own_nz o1)) + (own_nz o2)) + xs)), .val (.int (((own_nz dn) + (own_nz o1)) + (own_nz o2)))] [(.int (1 : Int32)), (.ref sv)])) (fun tgt k => ?_) ?_
    · show Steps p.tables e below (T18.setTop (mkF m 282 #[.val (.int d0), .val (.int d1), .val (.int d2), .val (.int sl), .val (.int dd), .val (.int fz), .val (.int (0 : Int32)), .val (.int o0), .val (.int o1), .val (.int o2), .val (.int dn), .val (.int (((own_nz o0) + (own_nz o1)) + (own_nz o2))), .val (.ref dv), .val (.ref fv), .val (.ref sv), .val (.int o0), .val (.int fz), .val (.int dn), .val (.int o1), .val (.int o2), .val (.int ((((own_nz o0) + (own_nz o1)) + (own_nz o2)) + xs)), .val (.int (((own_nz dn) + (own_nz o1)) + (own_nz o2)))] [(.int ((own_up (own_up (own_up (own_up (fun _ => 0) 0 o0) 1 o1) 2 o2) 0 dn) 0))])) tgt
      refine XS.iload X18.here hx rfl (hb hby at_282) rfl ?_
      show Steps p.tables e below (T18.setTop (mkF m 284 #[.val (.int d0), .val (.int d1), .val (.int d2), .val (.int sl), .val (.int dd), .val (.int fz), .val (.int (0 : Int32)), .val (.int o0), .val (.int o1), .val (.int o2), .val (.int dn), .val (.int (((own_nz o0) + (own_nz o1)) + (own_nz o2))), .val (.ref dv), .val (.ref fv), .val (.ref sv), .val (.int o0), .val (.int fz), .val (.int dn), .val (.int o1), .val (.int o2), .val (.int ((((own_nz o0) + (own_nz o1)) + (own_nz o2)) + xs)), .val (.int (((own_nz dn) + (own_nz o1)) + (own_nz o2)))] [(.int dn), (.int ((own_up (own_up (own_up (own_up (fun _ => 0) 0 o0) 1 o1) 2 o2) 0 dn) 0))])) tgt
      refine XS.icmpNo X18.here hx rfl (hb hby at_284) rfl (teq (by simp [own_up])).2 ?_
      show Steps p.tables e below (T18.setTop (mkF m 287 #[.val (.int d0), .val (.int d1), .val (.int d2), .val (.int sl), .val (.int dd), .val (.int fz), .val (.int (0 : Int32)), .val (.int o0), .val (.int o1), .val (.int o2), .val (.int dn), .val (.int (((own_nz o0) + (own_nz o1)) + (own_nz o2))), .val (.ref dv), .val (.ref fv), .val (.ref sv), .val (.int o0), .val (.int fz), .val (.int dn), .val (.int o1), .val (.int o2), .val (.int ((((own_nz o0) + (own_nz o1)) + (own_nz o2)) + xs)), .val (.int (((own_nz dn) + (own_nz o1)) + (own_nz o2)))] [])) tgt
      refine XS.aload X18.here hx rfl (hb hby at_287) rfl rfl ?_
      show Steps p.tables e below (T18.setTop (mkF m 289 #[.val (.int d0), .val (.int d1), .val (.int d2), .val (.int sl), .val (.int dd), .val (.int fz), .val (.int (0 : Int32)), .val (.int o0), .val (.int o1), .val (.int o2), .val (.int dn), .val (.int (((own_nz o0) + (own_nz o1)) + (own_nz o2))), .val (.ref dv), .val (.ref fv), .val (.ref sv), .val (.int o0), .val (.int fz), .val (.int dn), .val (.int o1), .val (.int o2), .val (.int ((((own_nz o0) + (own_nz o1)) + (own_nz o2)) + xs)), .val (.int (((own_nz dn) + (own_nz o1)) + (own_nz o2)))] [(.ref sv)])) tgt
      refine XS.iconst X18.here hx rfl (hb hby at_289) ?_
      exact k
    obtain ⟨cq19, kq19, q19a, q19b, q19c⟩ := isOf hZ K18 g14_0
    obtain ⟨_, _, ⟨T19, L19, k19, n19⟩, -, X19, ⟨Lc19, hQ19, l19, y19, z19⟩, st19⟩ := X18.virtualBack hx (y := (⟨"com/example/chainwright/chainwright/State", "deadline", "(I)I"⟩ : MethodName)) (z := (⟨"com/example/chainwright/chainwright/State", "deadline", "(I)I"⟩ : MethodName)) hown (mvT hZ (hw _ (List.mem_of_getElem? (i := 31) rfl))) (mvT hZ (hw _ (List.mem_of_getElem? (i := 32) rfl))) (notFace_of_selects (args := #[]) (mvT hZ (hw _ (List.mem_of_getElem? (i := 34) rfl)))) (mvT hZ (hw _ (List.mem_of_getElem? (i := 34) rfl))) (mvT hZ (hw _ (List.mem_of_getElem? (i := 33) rfl))) (by decide) (backOf (W := 0) (rm6 l Z a0 hw [] sv (1 : Int32) dv 3 (own_up (own_up (own_up (own_up (fun _ => 0) 0 o0) 1 o1) 2 o2) 0 dn) 1 T14.heap n0 Zs14 g14_1 g14_4 (by first | assumption | decide | rfl) (by first | assumption | decide | rfl)) hZ (hw _ (List.mem_of_getElem? (i := 35) rfl)) (hw _ (List.mem_of_getElem? (i := 8) rfl)) (by decide) (by decide)) q19a q19c (g := (mkF m 290 #[.val (.int d0), .val (.int d1), .val (.int d2), .val (.int sl), .val (.int dd), .val (.int fz), .val (.int (0 : Int32)), .val (.int o0), .val (.int o1), .val (.int o2), .val (.int dn), .val (.int (((own_nz o0) + (own_nz o1)) + (own_nz o2))), .val (.ref dv), .val (.ref fv), .val (.ref sv), .val (.int o0), .val (.int fz), .val (.int dn), .val (.int o1), .val (.int o2), .val (.int ((((own_nz o0) + (own_nz o1)) + (own_nz o2)) + xs)), .val (.int (((own_nz dn) + (own_nz o1)) + (own_nz o2)))] [(.int (1 : Int32)), (.ref sv)])) rfl (by rw [hml]; rfl) (Steps.refl _) (argsL := [(.int (1 : Int32))]) (rest := []) (lenOf pd_0_0 rfl) rfl (by show 2 * 0 + _ ≤ _; exact Nat.le_of_eq rfl) (hb hby at_290) (fun _ _ => ⟨rfl, K18, (by decide : 3 + 0 ≤ _), (by decide : 9 + 0 ≤ _)⟩)
    dsimp only [Pt.U, Pt.locs, Pt.cells, Pt.slots] at X19 l19 y19 z19 st19 hQ19
    subst l19 y19 z19
    obtain ⟨rfl, N19q, K19⟩ := hQ19
    have N19 := Fr.app N18 N19q
    refine own_st (fun tgt k => st19.trans k) ?_
    show own_Go p e below _ (T19.setTop (mkF m 293 #[.val (.int d0), .val (.int d1), .val (.int d2), .val (.int sl), .val (.int dd), .val (.int fz), .val (.int (0 : Int32)), .val (.int o0), .val (.int o1), .val (.int o2), .val (.int dn), .val (.int (((own_nz o0) + (own_nz o1)) + (own_nz o2))), .val (.ref dv), .val (.ref fv), .val (.ref sv), .val (.int o0), .val (.int fz), .val (.int dn), .val (.int o1), .val (.int o2), .val (.int ((((own_nz o0) + (own_nz o1)) + (own_nz o2)) + xs)), .val (.int (((own_nz dn) + (own_nz o1)) + (own_nz o2)))] [(.int ((own_up (own_up (own_up (own_up (fun _ => 0) 0 o0) 1 o1) 2 o2) 0 dn) 1))]))
    refine own_st (V := T19.setTop (mkF m 301 #[.val (.int d0), .val (.int d1), .val (.int d2), .val (.int sl), .val (.int dd), .val (.int fz), .val (.int (0 : Int32)), .val (.int o0), .val (.int o1), .val (.int o2), .val (.int dn), .val (.int (((own_nz o0) + (own_nz o1)) + (own_nz o2))), .val (.ref dv), .val (.ref fv), .val (.ref sv), .val (.int o0), .val (.int fz), .val (.int dn), .val (.int o1), .val (.int o2), .val (.int ((((own_nz o0) + (own_nz o1)) + (own_nz o2)) + xs)), .val (.int (((own_nz dn) + (own_nz o1)) + (own_nz o2)))] [(.int (2 : Int32)), (.ref sv)])) (fun tgt k => ?_) ?_
    · show Steps p.tables e below (T19.setTop (mkF m 293 #[.val (.int d0), .val (.int d1), .val (.int d2), .val (.int sl), .val (.int dd), .val (.int fz), .val (.int (0 : Int32)), .val (.int o0), .val (.int o1), .val (.int o2), .val (.int dn), .val (.int (((own_nz o0) + (own_nz o1)) + (own_nz o2))), .val (.ref dv), .val (.ref fv), .val (.ref sv), .val (.int o0), .val (.int fz), .val (.int dn), .val (.int o1), .val (.int o2), .val (.int ((((own_nz o0) + (own_nz o1)) + (own_nz o2)) + xs)), .val (.int (((own_nz dn) + (own_nz o1)) + (own_nz o2)))] [(.int ((own_up (own_up (own_up (own_up (fun _ => 0) 0 o0) 1 o1) 2 o2) 0 dn) 1))])) tgt
      refine XS.iload X19.here hx rfl (hb hby at_293) rfl ?_
      show Steps p.tables e below (T19.setTop (mkF m 295 #[.val (.int d0), .val (.int d1), .val (.int d2), .val (.int sl), .val (.int dd), .val (.int fz), .val (.int (0 : Int32)), .val (.int o0), .val (.int o1), .val (.int o2), .val (.int dn), .val (.int (((own_nz o0) + (own_nz o1)) + (own_nz o2))), .val (.ref dv), .val (.ref fv), .val (.ref sv), .val (.int o0), .val (.int fz), .val (.int dn), .val (.int o1), .val (.int o2), .val (.int ((((own_nz o0) + (own_nz o1)) + (own_nz o2)) + xs)), .val (.int (((own_nz dn) + (own_nz o1)) + (own_nz o2)))] [(.int o1), (.int ((own_up (own_up (own_up (own_up (fun _ => 0) 0 o0) 1 o1) 2 o2) 0 dn) 1))])) tgt
      refine XS.icmpNo X19.here hx rfl (hb hby at_295) rfl (teq (by simp [own_up])).2 ?_
      show Steps p.tables e below (T19.setTop (mkF m 298 #[.val (.int d0), .val (.int d1), .val (.int d2), .val (.int sl), .val (.int dd), .val (.int fz), .val (.int (0 : Int32)), .val (.int o0), .val (.int o1), .val (.int o2), .val (.int dn), .val (.int (((own_nz o0) + (own_nz o1)) + (own_nz o2))), .val (.ref dv), .val (.ref fv), .val (.ref sv), .val (.int o0), .val (.int fz), .val (.int dn), .val (.int o1), .val (.int o2), .val (.int ((((own_nz o0) + (own_nz o1)) + (own_nz o2)) + xs)), .val (.int (((own_nz dn) + (own_nz o1)) + (own_nz o2)))] [])) tgt
      refine XS.aload X19.here hx rfl (hb hby at_298) rfl rfl ?_
      show Steps p.tables e below (T19.setTop (mkF m 300 #[.val (.int d0), .val (.int d1), .val (.int d2), .val (.int sl), .val (.int dd), .val (.int fz), .val (.int (0 : Int32)), .val (.int o0), .val (.int o1), .val (.int o2), .val (.int dn), .val (.int (((own_nz o0) + (own_nz o1)) + (own_nz o2))), .val (.ref dv), .val (.ref fv), .val (.ref sv), .val (.int o0), .val (.int fz), .val (.int dn), .val (.int o1), .val (.int o2), .val (.int ((((own_nz o0) + (own_nz o1)) + (own_nz o2)) + xs)), .val (.int (((own_nz dn) + (own_nz o1)) + (own_nz o2)))] [(.ref sv)])) tgt
      refine XS.iconst X19.here hx rfl (hb hby at_300) ?_
      exact k
    obtain ⟨cq20, kq20, q20a, q20b, q20c⟩ := isOf hZ K19 g14_0
    obtain ⟨_, _, ⟨T20, L20, k20, n20⟩, -, X20, ⟨Lc20, hQ20, l20, y20, z20⟩, st20⟩ := X19.virtualBack hx (y := (⟨"com/example/chainwright/chainwright/State", "deadline", "(I)I"⟩ : MethodName)) (z := (⟨"com/example/chainwright/chainwright/State", "deadline", "(I)I"⟩ : MethodName)) hown (mvT hZ (hw _ (List.mem_of_getElem? (i := 31) rfl))) (mvT hZ (hw _ (List.mem_of_getElem? (i := 32) rfl))) (notFace_of_selects (args := #[]) (mvT hZ (hw _ (List.mem_of_getElem? (i := 34) rfl)))) (mvT hZ (hw _ (List.mem_of_getElem? (i := 34) rfl))) (mvT hZ (hw _ (List.mem_of_getElem? (i := 33) rfl))) (by decide) (backOf (W := 0) (rm6 l Z a0 hw [] sv (2 : Int32) dv 3 (own_up (own_up (own_up (own_up (fun _ => 0) 0 o0) 1 o1) 2 o2) 0 dn) 2 T14.heap n0 Zs14 g14_1 g14_4 (by first | assumption | decide | rfl) (by first | assumption | decide | rfl)) hZ (hw _ (List.mem_of_getElem? (i := 35) rfl)) (hw _ (List.mem_of_getElem? (i := 8) rfl)) (by decide) (by decide)) q20a q20c (g := (mkF m 301 #[.val (.int d0), .val (.int d1), .val (.int d2), .val (.int sl), .val (.int dd), .val (.int fz), .val (.int (0 : Int32)), .val (.int o0), .val (.int o1), .val (.int o2), .val (.int dn), .val (.int (((own_nz o0) + (own_nz o1)) + (own_nz o2))), .val (.ref dv), .val (.ref fv), .val (.ref sv), .val (.int o0), .val (.int fz), .val (.int dn), .val (.int o1), .val (.int o2), .val (.int ((((own_nz o0) + (own_nz o1)) + (own_nz o2)) + xs)), .val (.int (((own_nz dn) + (own_nz o1)) + (own_nz o2)))] [(.int (2 : Int32)), (.ref sv)])) rfl (by rw [hml]; rfl) (Steps.refl _) (argsL := [(.int (2 : Int32))]) (rest := []) (lenOf pd_0_0 rfl) rfl (by show 2 * 0 + _ ≤ _; exact Nat.le_of_eq rfl) (hb hby at_301) (fun _ _ => ⟨rfl, K19, (by decide : 3 + 0 ≤ _), (by decide : 9 + 0 ≤ _)⟩)
    dsimp only [Pt.U, Pt.locs, Pt.cells, Pt.slots] at X20 l20 y20 z20 st20 hQ20
    subst l20 y20 z20
    obtain ⟨rfl, N20q, K20⟩ := hQ20
    have N20 := Fr.app N19 N20q
    refine own_st (fun tgt k => st20.trans k) ?_
    show own_Go p e below _ (T20.setTop (mkF m 304 #[.val (.int d0), .val (.int d1), .val (.int d2), .val (.int sl), .val (.int dd), .val (.int fz), .val (.int (0 : Int32)), .val (.int o0), .val (.int o1), .val (.int o2), .val (.int dn), .val (.int (((own_nz o0) + (own_nz o1)) + (own_nz o2))), .val (.ref dv), .val (.ref fv), .val (.ref sv), .val (.int o0), .val (.int fz), .val (.int dn), .val (.int o1), .val (.int o2), .val (.int ((((own_nz o0) + (own_nz o1)) + (own_nz o2)) + xs)), .val (.int (((own_nz dn) + (own_nz o1)) + (own_nz o2)))] [(.int ((own_up (own_up (own_up (own_up (fun _ => 0) 0 o0) 1 o1) 2 o2) 0 dn) 2))]))
    refine own_st (V := T20.setTop (mkF m 311 #[.val (.int d0), .val (.int d1), .val (.int d2), .val (.int sl), .val (.int dd), .val (.int fz), .val (.int (0 : Int32)), .val (.int o0), .val (.int o1), .val (.int o2), .val (.int dn), .val (.int (((own_nz o0) + (own_nz o1)) + (own_nz o2))), .val (.ref dv), .val (.ref fv), .val (.ref sv), .val (.int o0), .val (.int fz), .val (.int dn), .val (.int o1), .val (.int o2), .val (.int ((((own_nz o0) + (own_nz o1)) + (own_nz o2)) + xs)), .val (.int (((own_nz dn) + (own_nz o1)) + (own_nz o2)))] [(.ref sv)])) (fun tgt k => ?_) ?_
    · show Steps p.tables e below (T20.setTop (mkF m 304 #[.val (.int d0), .val (.int d1), .val (.int d2), .val (.int sl), .val (.int dd), .val (.int fz), .val (.int (0 : Int32)), .val (.int o0), .val (.int o1), .val (.int o2), .val (.int dn), .val (.int (((own_nz o0) + (own_nz o1)) + (own_nz o2))), .val (.ref dv), .val (.ref fv), .val (.ref sv), .val (.int o0), .val (.int fz), .val (.int dn), .val (.int o1), .val (.int o2), .val (.int ((((own_nz o0) + (own_nz o1)) + (own_nz o2)) + xs)), .val (.int (((own_nz dn) + (own_nz o1)) + (own_nz o2)))] [(.int ((own_up (own_up (own_up (own_up (fun _ => 0) 0 o0) 1 o1) 2 o2) 0 dn) 2))])) tgt
      refine XS.iload X20.here hx rfl (hb hby at_304) rfl ?_
      show Steps p.tables e below (T20.setTop (mkF m 306 #[.val (.int d0), .val (.int d1), .val (.int d2), .val (.int sl), .val (.int dd), .val (.int fz), .val (.int (0 : Int32)), .val (.int o0), .val (.int o1), .val (.int o2), .val (.int dn), .val (.int (((own_nz o0) + (own_nz o1)) + (own_nz o2))), .val (.ref dv), .val (.ref fv), .val (.ref sv), .val (.int o0), .val (.int fz), .val (.int dn), .val (.int o1), .val (.int o2), .val (.int ((((own_nz o0) + (own_nz o1)) + (own_nz o2)) + xs)), .val (.int (((own_nz dn) + (own_nz o1)) + (own_nz o2)))] [(.int o2), (.int ((own_up (own_up (own_up (own_up (fun _ => 0) 0 o0) 1 o1) 2 o2) 0 dn) 2))])) tgt
      refine XS.icmpNo X20.here hx rfl (hb hby at_306) rfl (teq (by simp [own_up])).2 ?_
      show Steps p.tables e below (T20.setTop (mkF m 309 #[.val (.int d0), .val (.int d1), .val (.int d2), .val (.int sl), .val (.int dd), .val (.int fz), .val (.int (0 : Int32)), .val (.int o0), .val (.int o1), .val (.int o2), .val (.int dn), .val (.int (((own_nz o0) + (own_nz o1)) + (own_nz o2))), .val (.ref dv), .val (.ref fv), .val (.ref sv), .val (.int o0), .val (.int fz), .val (.int dn), .val (.int o1), .val (.int o2), .val (.int ((((own_nz o0) + (own_nz o1)) + (own_nz o2)) + xs)), .val (.int (((own_nz dn) + (own_nz o1)) + (own_nz o2)))] [])) tgt
      refine XS.aload X20.here hx rfl (hb hby at_309) rfl rfl ?_
      exact k
    obtain ⟨cq21, kq21, q21a, q21b, q21c⟩ := isOf hZ K20 g14_0
    obtain ⟨_, _, ⟨T21, L21, k21, n21⟩, -, X21, ⟨Lc21, hQ21, l21, y21, z21⟩, st21⟩ := X20.virtualBack hx (y := (⟨"com/example/chainwright/chainwright/State", "size", "()I"⟩ : MethodName)) (z := (⟨"com/example/chainwright/chainwright/State", "size", "()I"⟩ : MethodName)) hown (mvT hZ (hw _ (List.mem_of_getElem? (i := 36) rfl))) (mvT hZ (hw _ (List.mem_of_getElem? (i := 37) rfl))) (notFace_of_selects (args := #[]) (mvT hZ (hw _ (List.mem_of_getElem? (i := 39) rfl)))) (mvT hZ (hw _ (List.mem_of_getElem? (i := 39) rfl))) (mvT hZ (hw _ (List.mem_of_getElem? (i := 38) rfl))) (by decide) (backOf (W := 0) (rm7 l Z a0 hw [] sv (if (own_up (own_up (own_up (fun _ => 0) 0 o0) 1 o1) 2 o2) 0 = 0 then (((own_nz o0) + (own_nz o1)) + (own_nz o2)) + (1 : Int32) else (((own_nz o0) + (own_nz o1)) + (own_nz o2))) T14.heap n0 Zs14 g14_3) hZ (hw _ (List.mem_of_getElem? (i := 40) rfl)) (hw _ (List.mem_of_getElem? (i := 8) rfl)) (by decide) (by decide)) q21a q21c (g := (mkF m 311 #[.val (.int d0), .val (.int d1), .val (.int d2), .val (.int sl), .val (.int dd), .val (.int fz), .val (.int (0 : Int32)), .val (.int o0), .val (.int o1), .val (.int o2), .val (.int dn), .val (.int (((own_nz o0) + (own_nz o1)) + (own_nz o2))), .val (.ref dv), .val (.ref fv), .val (.ref sv), .val (.int o0), .val (.int fz), .val (.int dn), .val (.int o1), .val (.int o2), .val (.int ((((own_nz o0) + (own_nz o1)) + (own_nz o2)) + xs)), .val (.int (((own_nz dn) + (own_nz o1)) + (own_nz o2)))] [(.ref sv)])) rfl (by rw [hml]; rfl) (Steps.refl _) (argsL := []) (rest := []) (lenOf pd_0_3 rfl) rfl (by show 2 * 0 + _ ≤ _; exact Nat.le_of_eq rfl) (hb hby at_311) (fun _ _ => ⟨rfl, K20, (by decide : 3 + 0 ≤ _), (by decide : 9 + 0 ≤ _)⟩)
    dsimp only [Pt.U, Pt.locs, Pt.cells, Pt.slots] at X21 l21 y21 z21 st21 hQ21
    subst l21 y21 z21
    obtain ⟨rfl, N21q, K21⟩ := hQ21
    have N21 := Fr.app N20 N21q
    refine own_st (fun tgt k => st21.trans k) ?_
    show own_Go p e below _ (T21.setTop (mkF m 314 #[.val (.int d0), .val (.int d1), .val (.int d2), .val (.int sl), .val (.int dd), .val (.int fz), .val (.int (0 : Int32)), .val (.int o0), .val (.int o1), .val (.int o2), .val (.int dn), .val (.int (((own_nz o0) + (own_nz o1)) + (own_nz o2))), .val (.ref dv), .val (.ref fv), .val (.ref sv), .val (.int o0), .val (.int fz), .val (.int dn), .val (.int o1), .val (.int o2), .val (.int ((((own_nz o0) + (own_nz o1)) + (own_nz o2)) + xs)), .val (.int (((own_nz dn) + (own_nz o1)) + (own_nz o2)))] [(.int (if (own_up (own_up (own_up (fun _ => 0) 0 o0) 1 o1) 2 o2) 0 = 0 then (((own_nz o0) + (own_nz o1)) + (own_nz o2)) + (1 : Int32) else (((own_nz o0) + (own_nz o1)) + (own_nz o2))))]))
    refine own_st (V := T21.setTop (mkF m 330 #[.val (.int d0), .val (.int d1), .val (.int d2), .val (.int sl), .val (.int dd), .val (.int fz), .val (.int (0 : Int32)), .val (.int o0), .val (.int o1), .val (.int o2), .val (.int dn), .val (.int (((own_nz o0) + (own_nz o1)) + (own_nz o2))), .val (.ref dv), .val (.ref fv), .val (.ref sv), .val (.int o0), .val (.int fz), .val (.int dn), .val (.int o1), .val (.int o2), .val (.int ((((own_nz o0) + (own_nz o1)) + (own_nz o2)) + xs)), .val (.int (((own_nz dn) + (own_nz o1)) + (own_nz o2)))] [(.int (0 : Int32)), (.ref sv)])) (fun tgt k => ?_) ?_
    · show Steps p.tables e below (T21.setTop (mkF m 314 #[.val (.int d0), .val (.int d1), .val (.int d2), .val (.int sl), .val (.int dd), .val (.int fz), .val (.int (0 : Int32)), .val (.int o0), .val (.int o1), .val (.int o2), .val (.int dn), .val (.int (((own_nz o0) + (own_nz o1)) + (own_nz o2))), .val (.ref dv), .val (.ref fv), .val (.ref sv), .val (.int o0), .val (.int fz), .val (.int dn), .val (.int o1), .val (.int o2), .val (.int ((((own_nz o0) + (own_nz o1)) + (own_nz o2)) + xs)), .val (.int (((own_nz dn) + (own_nz o1)) + (own_nz o2)))] [(.int (if (own_up (own_up (own_up (fun _ => 0) 0 o0) 1 o1) 2 o2) 0 = 0 then (((own_nz o0) + (own_nz o1)) + (own_nz o2)) + (1 : Int32) else (((own_nz o0) + (own_nz o1)) + (own_nz o2))))])) tgt
      refine XS.iload X21.here hx rfl (hb hby at_314) rfl ?_
      show Steps p.tables e below (T21.setTop (mkF m 316 #[.val (.int d0), .val (.int d1), .val (.int d2), .val (.int sl), .val (.int dd), .val (.int fz), .val (.int (0 : Int32)), .val (.int o0), .val (.int o1), .val (.int o2), .val (.int dn), .val (.int (((own_nz o0) + (own_nz o1)) + (own_nz o2))), .val (.ref dv), .val (.ref fv), .val (.ref sv), .val (.int o0), .val (.int fz), .val (.int dn), .val (.int o1), .val (.int o2), .val (.int ((((own_nz o0) + (own_nz o1)) + (own_nz o2)) + xs)), .val (.int (((own_nz dn) + (own_nz o1)) + (own_nz o2)))] [(.int ((((own_nz o0) + (own_nz o1)) + (own_nz o2)) + xs)), (.int (if (own_up (own_up (own_up (fun _ => 0) 0 o0) 1 o1) 2 o2) 0 = 0 then (((own_nz o0) + (own_nz o1)) + (own_nz o2)) + (1 : Int32) else (((own_nz o0) + (own_nz o1)) + (own_nz o2))))])) tgt
      refine XS.icmpNo X21.here hx rfl (hb hby at_316) rfl (teq (by rw [hxs]; by_cases q9 : o0 = 0 <;> simp [own_up, q9])).2 ?_
      show Steps p.tables e below (T21.setTop (mkF m 319 #[.val (.int d0), .val (.int d1), .val (.int d2), .val (.int sl), .val (.int dd), .val (.int fz), .val (.int (0 : Int32)), .val (.int o0), .val (.int o1), .val (.int o2), .val (.int dn), .val (.int (((own_nz o0) + (own_nz o1)) + (own_nz o2))), .val (.ref dv), .val (.ref fv), .val (.ref sv), .val (.int o0), .val (.int fz), .val (.int dn), .val (.int o1), .val (.int o2), .val (.int ((((own_nz o0) + (own_nz o1)) + (own_nz o2)) + xs)), .val (.int (((own_nz dn) + (own_nz o1)) + (own_nz o2)))] [])) tgt
      refine XS.iload X21.here hx rfl (hb hby at_319) rfl ?_
      show Steps p.tables e below (T21.setTop (mkF m 321 #[.val (.int d0), .val (.int d1), .val (.int d2), .val (.int sl), .val (.int dd), .val (.int fz), .val (.int (0 : Int32)), .val (.int o0), .val (.int o1), .val (.int o2), .val (.int dn), .val (.int (((own_nz o0) + (own_nz o1)) + (own_nz o2))), .val (.ref dv), .val (.ref fv), .val (.ref sv), .val (.int o0), .val (.int fz), .val (.int dn), .val (.int o1), .val (.int o2), .val (.int ((((own_nz o0) + (own_nz o1)) + (own_nz o2)) + xs)), .val (.int (((own_nz dn) + (own_nz o1)) + (own_nz o2)))] [(.int ((((own_nz o0) + (own_nz o1)) + (own_nz o2)) + xs))])) tgt
      refine XS.iload X21.here hx rfl (hb hby at_321) rfl ?_
      show Steps p.tables e below (T21.setTop (mkF m 323 #[.val (.int d0), .val (.int d1), .val (.int d2), .val (.int sl), .val (.int dd), .val (.int fz), .val (.int (0 : Int32)), .val (.int o0), .val (.int o1), .val (.int o2), .val (.int dn), .val (.int (((own_nz o0) + (own_nz o1)) + (own_nz o2))), .val (.ref dv), .val (.ref fv), .val (.ref sv), .val (.int o0), .val (.int fz), .val (.int dn), .val (.int o1), .val (.int o2), .val (.int ((((own_nz o0) + (own_nz o1)) + (own_nz o2)) + xs)), .val (.int (((own_nz dn) + (own_nz o1)) + (own_nz o2)))] [(.int (((own_nz dn) + (own_nz o1)) + (own_nz o2))), (.int ((((own_nz o0) + (own_nz o1)) + (own_nz o2)) + xs))])) tgt
      refine XS.icmpNo X21.here hx rfl (hb hby at_323) rfl (teq (by rw [hxs]; exact own_cnt0 o0 o1 o2 dn hdn0)).2 ?_
      show Steps p.tables e below (T21.setTop (mkF m 326 #[.val (.int d0), .val (.int d1), .val (.int d2), .val (.int sl), .val (.int dd), .val (.int fz), .val (.int (0 : Int32)), .val (.int o0), .val (.int o1), .val (.int o2), .val (.int dn), .val (.int (((own_nz o0) + (own_nz o1)) + (own_nz o2))), .val (.ref dv), .val (.ref fv), .val (.ref sv), .val (.int o0), .val (.int fz), .val (.int dn), .val (.int o1), .val (.int o2), .val (.int ((((own_nz o0) + (own_nz o1)) + (own_nz o2)) + xs)), .val (.int (((own_nz dn) + (own_nz o1)) + (own_nz o2)))] [])) tgt
      refine XS.aload X21.here hx rfl (hb hby at_326) rfl rfl ?_
      show Steps p.tables e below (T21.setTop (mkF m 328 #[.val (.int d0), .val (.int d1), .val (.int d2), .val (.int sl), .val (.int dd), .val (.int fz), .val (.int (0 : Int32)), .val (.int o0), .val (.int o1), .val (.int o2), .val (.int dn), .val (.int (((own_nz o0) + (own_nz o1)) + (own_nz o2))), .val (.ref dv), .val (.ref fv), .val (.ref sv), .val (.int o0), .val (.int fz), .val (.int dn), .val (.int o1), .val (.int o2), .val (.int ((((own_nz o0) + (own_nz o1)) + (own_nz o2)) + xs)), .val (.int (((own_nz dn) + (own_nz o1)) + (own_nz o2)))] [(.ref sv)])) tgt
      refine XS.iload X21.here hx rfl (hb hby at_328) rfl ?_
      exact k
    obtain ⟨cq22, kq22, q22a, q22b, q22c⟩ := isOf hZ K21 g14_0
    obtain ⟨_, _, ⟨T22, L22, k22, n22⟩, -, X22, ⟨Lc22, hQ22, l22, y22, z22⟩, st22⟩ := X21.virtualBack hx (y := (⟨"com/example/chainwright/chainwright/State", "isChosen", "(I)Z"⟩ : MethodName)) (z := (⟨"com/example/chainwright/chainwright/State", "isChosen", "(I)Z"⟩ : MethodName)) hown (mvT hZ (hw _ (List.mem_of_getElem? (i := 41) rfl))) (mvT hZ (hw _ (List.mem_of_getElem? (i := 27) rfl))) (notFace_of_selects (args := #[]) (mvT hZ (hw _ (List.mem_of_getElem? (i := 29) rfl)))) (mvT hZ (hw _ (List.mem_of_getElem? (i := 29) rfl))) (mvT hZ (hw _ (List.mem_of_getElem? (i := 28) rfl))) (by decide) (backOf (W := 0) (rm5 l Z a0 hw [] sv (0 : Int32) dv 3 (own_up (own_up (own_up (own_up (fun _ => 0) 0 o0) 1 o1) 2 o2) 0 dn) 0 T14.heap n0 Zs14 g14_1 g14_4 (by first | assumption | decide | rfl) (by first | assumption | decide | rfl)) hZ (hw _ (List.mem_of_getElem? (i := 30) rfl)) (hw _ (List.mem_of_getElem? (i := 8) rfl)) (by decide) (by decide)) q22a q22c (g := (mkF m 330 #[.val (.int d0), .val (.int d1), .val (.int d2), .val (.int sl), .val (.int dd), .val (.int fz), .val (.int (0 : Int32)), .val (.int o0), .val (.int o1), .val (.int o2), .val (.int dn), .val (.int (((own_nz o0) + (own_nz o1)) + (own_nz o2))), .val (.ref dv), .val (.ref fv), .val (.ref sv), .val (.int o0), .val (.int fz), .val (.int dn), .val (.int o1), .val (.int o2), .val (.int ((((own_nz o0) + (own_nz o1)) + (own_nz o2)) + xs)), .val (.int (((own_nz dn) + (own_nz o1)) + (own_nz o2)))] [(.int (0 : Int32)), (.ref sv)])) rfl (by rw [hml]; rfl) (Steps.refl _) (argsL := [(.int (0 : Int32))]) (rest := []) (lenOf pd_0_4 rfl) rfl (by show 2 * 0 + _ ≤ _; exact Nat.le_of_eq rfl) (hb hby at_330) (fun _ _ => ⟨rfl, K21, (by decide : 3 + 0 ≤ _), (by decide : 9 + 0 ≤ _)⟩)
    dsimp only [Pt.U, Pt.locs, Pt.cells, Pt.slots] at X22 l22 y22 z22 st22 hQ22
    subst l22 y22 z22
    obtain ⟨rfl, N22q, K22⟩ := hQ22
    have N22 := Fr.app N21 N22q
    refine own_st (fun tgt k => st22.trans k) ?_
    show own_Go p e below _ (T22.setTop (mkF m 333 #[.val (.int d0), .val (.int d1), .val (.int d2), .val (.int sl), .val (.int dd), .val (.int fz), .val (.int (0 : Int32)), .val (.int o0), .val (.int o1), .val (.int o2), .val (.int dn), .val (.int (((own_nz o0) + (own_nz o1)) + (own_nz o2))), .val (.ref dv), .val (.ref fv), .val (.ref sv), .val (.int o0), .val (.int fz), .val (.int dn), .val (.int o1), .val (.int o2), .val (.int ((((own_nz o0) + (own_nz o1)) + (own_nz o2)) + xs)), .val (.int (((own_nz dn) + (own_nz o1)) + (own_nz o2)))] [(.int (if (own_up (own_up (own_up (own_up (fun _ => 0) 0 o0) 1 o1) 2 o2) 0 dn) 0 = 0 then (0 : Int32) else (1 : Int32)))]))
    refine own_st (V := T22.setTop (mkF m 340 #[.val (.int d0), .val (.int d1), .val (.int d2), .val (.int sl), .val (.int dd), .val (.int fz), .val (.int (0 : Int32)), .val (.int o0), .val (.int o1), .val (.int o2), .val (.int dn), .val (.int (((own_nz o0) + (own_nz o1)) + (own_nz o2))), .val (.ref dv), .val (.ref fv), .val (.ref sv), .val (.int o0), .val (.int fz), .val (.int dn), .val (.int o1), .val (.int o2), .val (.int ((((own_nz o0) + (own_nz o1)) + (own_nz o2)) + xs)), .val (.int (((own_nz dn) + (own_nz o1)) + (own_nz o2)))] [(.int (0 : Int32)), (.ref sv)])) (fun tgt k => ?_) ?_
    · show Steps p.tables e below (T22.setTop (mkF m 333 #[.val (.int d0), .val (.int d1), .val (.int d2), .val (.int sl), .val (.int dd), .val (.int fz), .val (.int (0 : Int32)), .val (.int o0), .val (.int o1), .val (.int o2), .val (.int dn), .val (.int (((own_nz o0) + (own_nz o1)) + (own_nz o2))), .val (.ref dv), .val (.ref fv), .val (.ref sv), .val (.int o0), .val (.int fz), .val (.int dn), .val (.int o1), .val (.int o2), .val (.int ((((own_nz o0) + (own_nz o1)) + (own_nz o2)) + xs)), .val (.int (((own_nz dn) + (own_nz o1)) + (own_nz o2)))] [(.int (if (own_up (own_up (own_up (own_up (fun _ => 0) 0 o0) 1 o1) 2 o2) 0 dn) 0 = 0 then (0 : Int32) else (1 : Int32)))])) tgt
      refine XS.ifNo X22.here hx rfl (hb hby at_333) rfl ((if0 _ _).trans (feq (by simp [own_up, hdn0])).1) ?_
      show Steps p.tables e below (T22.setTop (mkF m 336 #[.val (.int d0), .val (.int d1), .val (.int d2), .val (.int sl), .val (.int dd), .val (.int fz), .val (.int (0 : Int32)), .val (.int o0), .val (.int o1), .val (.int o2), .val (.int dn), .val (.int (((own_nz o0) + (own_nz o1)) + (own_nz o2))), .val (.ref dv), .val (.ref fv), .val (.ref sv), .val (.int o0), .val (.int fz), .val (.int dn), .val (.int o1), .val (.int o2), .val (.int ((((own_nz o0) + (own_nz o1)) + (own_nz o2)) + xs)), .val (.int (((own_nz dn) + (own_nz o1)) + (own_nz o2)))] [])) tgt
      refine XS.aload X22.here hx rfl (hb hby at_336) rfl rfl ?_
      show Steps p.tables e below (T22.setTop (mkF m 338 #[.val (.int d0), .val (.int d1), .val (.int d2), .val (.int sl), .val (.int dd), .val (.int fz), .val (.int (0 : Int32)), .val (.int o0), .val (.int o1), .val (.int o2), .val (.int dn), .val (.int (((own_nz o0) + (own_nz o1)) + (own_nz o2))), .val (.ref dv), .val (.ref fv), .val (.ref sv), .val (.int o0), .val (.int fz), .val (.int dn), .val (.int o1), .val (.int o2), .val (.int ((((own_nz o0) + (own_nz o1)) + (own_nz o2)) + xs)), .val (.int (((own_nz dn) + (own_nz o1)) + (own_nz o2)))] [(.ref sv)])) tgt
      refine XS.iload X22.here hx rfl (hb hby at_338) rfl ?_
      exact k
    obtain ⟨cq23, kq23, q23a, q23b, q23c⟩ := isOf hZ K22 g14_0
    obtain ⟨_, _, ⟨T23, L23, k23, n23⟩, -, X23, ⟨Lc23, hQ23, l23, y23, z23⟩, st23⟩ := X22.virtualBack hx (y := (⟨"com/example/chainwright/chainwright/State", "floor", "(I)I"⟩ : MethodName)) (z := (⟨"com/example/chainwright/chainwright/State", "floor", "(I)I"⟩ : MethodName)) hown (mvT hZ (hw _ (List.mem_of_getElem? (i := 42) rfl))) (mvT hZ (hw _ (List.mem_of_getElem? (i := 43) rfl))) (notFace_of_selects (args := #[]) (mvT hZ (hw _ (List.mem_of_getElem? (i := 45) rfl)))) (mvT hZ (hw _ (List.mem_of_getElem? (i := 45) rfl))) (mvT hZ (hw _ (List.mem_of_getElem? (i := 44) rfl))) (by decide) (backOf (W := 0) (rm8 l Z a0 hw [] sv (0 : Int32) fv 3 (own_up (own_up (own_up (fun _ => 0) 0 fz) 1 d0) 2 d2) 0 T14.heap n0 Zs14 g14_2 A_fv_14 (by first | assumption | decide | rfl) (by first | assumption | decide | rfl)) hZ (hw _ (List.mem_of_getElem? (i := 46) rfl)) (hw _ (List.mem_of_getElem? (i := 8) rfl)) (by decide) (by decide)) q23a q23c (g := (mkF m 340 #[.val (.int d0), .val (.int d1), .val (.int d2), .val (.int sl), .val (.int dd), .val (.int fz), .val (.int (0 : Int32)), .val (.int o0), .val (.int o1), .val (.int o2), .val (.int dn), .val (.int (((own_nz o0) + (own_nz o1)) + (own_nz o2))), .val (.ref dv), .val (.ref fv), .val (.ref sv), .val (.int o0), .val (.int fz), .val (.int dn), .val (.int o1), .val (.int o2), .val (.int ((((own_nz o0) + (own_nz o1)) + (own_nz o2)) + xs)), .val (.int (((own_nz dn) + (own_nz o1)) + (own_nz o2)))] [(.int (0 : Int32)), (.ref sv)])) rfl (by rw [hml]; rfl) (Steps.refl _) (argsL := [(.int (0 : Int32))]) (rest := []) (lenOf pd_0_0 rfl) rfl (by show 2 * 0 + _ ≤ _; exact Nat.le_of_eq rfl) (hb hby at_340) (fun _ _ => ⟨rfl, K22, (by decide : 3 + 0 ≤ _), (by decide : 9 + 0 ≤ _)⟩)
    dsimp only [Pt.U, Pt.locs, Pt.cells, Pt.slots] at X23 l23 y23 z23 st23 hQ23
    subst l23 y23 z23
    obtain ⟨rfl, N23q, K23⟩ := hQ23
    have N23 := Fr.app N22 N23q
    refine own_st (fun tgt k => st23.trans k) ?_
    show own_Go p e below _ (T23.setTop (mkF m 343 #[.val (.int d0), .val (.int d1), .val (.int d2), .val (.int sl), .val (.int dd), .val (.int fz), .val (.int (0 : Int32)), .val (.int o0), .val (.int o1), .val (.int o2), .val (.int dn), .val (.int (((own_nz o0) + (own_nz o1)) + (own_nz o2))), .val (.ref dv), .val (.ref fv), .val (.ref sv), .val (.int o0), .val (.int fz), .val (.int dn), .val (.int o1), .val (.int o2), .val (.int ((((own_nz o0) + (own_nz o1)) + (own_nz o2)) + xs)), .val (.int (((own_nz dn) + (own_nz o1)) + (own_nz o2)))] [(.int ((own_up (own_up (own_up (fun _ => 0) 0 fz) 1 d0) 2 d2) 0))]))
    refine own_st (V := T23.setTop (mkF m 353 #[.val (.int d0), .val (.int d1), .val (.int d2), .val (.int sl), .val (.int dd), .val (.int fz), .val (.int (0 : Int32)), .val (.int o0), .val (.int o1), .val (.int o2), .val (.int dn), .val (.int (((own_nz o0) + (own_nz o1)) + (own_nz o2))), .val (.ref dv), .val (.ref fv), .val (.ref sv), .val (.int o0), .val (.int fz), .val (.int dn), .val (.int o1), .val (.int o2), .val (.int ((((own_nz o0) + (own_nz o1)) + (own_nz o2)) + xs)), .val (.int (((own_nz dn) + (own_nz o1)) + (own_nz o2)))] [(.int (1 : Int32))])) (fun tgt k => ?_) ?_
    · show Steps p.tables e below (T23.setTop (mkF m 343 #[.val (.int d0), .val (.int d1), .val (.int d2), .val (.int sl), .val (.int dd), .val (.int fz), .val (.int (0 : Int32)), .val (.int o0), .val (.int o1), .val (.int o2), .val (.int dn), .val (.int (((own_nz o0) + (own_nz o1)) + (own_nz o2))), .val (.ref dv), .val (.ref fv), .val (.ref sv), .val (.int o0), .val (.int fz), .val (.int dn), .val (.int o1), .val (.int o2), .val (.int ((((own_nz o0) + (own_nz o1)) + (own_nz o2)) + xs)), .val (.int (((own_nz dn) + (own_nz o1)) + (own_nz o2)))] [(.int ((own_up (own_up (own_up (fun _ => 0) 0 fz) 1 d0) 2 d2) 0))])) tgt
      refine XS.iload X23.here hx rfl (hb hby at_343) rfl ?_
      show Steps p.tables e below (T23.setTop (mkF m 345 #[.val (.int d0), .val (.int d1), .val (.int d2), .val (.int sl), .val (.int dd), .val (.int fz), .val (.int (0 : Int32)), .val (.int o0), .val (.int o1), .val (.int o2), .val (.int dn), .val (.int (((own_nz o0) + (own_nz o1)) + (own_nz o2))), .val (.ref dv), .val (.ref fv), .val (.ref sv), .val (.int o0), .val (.int fz), .val (.int dn), .val (.int o1), .val (.int o2), .val (.int ((((own_nz o0) + (own_nz o1)) + (own_nz o2)) + xs)), .val (.int (((own_nz dn) + (own_nz o1)) + (own_nz o2)))] [(.int fz), (.int ((own_up (own_up (own_up (fun _ => 0) 0 fz) 1 d0) 2 d2) 0))])) tgt
      refine XS.icmpNo X23.here hx rfl (hb hby at_345) rfl (teq (by simp [own_up])).2 ?_
      show Steps p.tables e below (T23.setTop (mkF m 348 #[.val (.int d0), .val (.int d1), .val (.int d2), .val (.int sl), .val (.int dd), .val (.int fz), .val (.int (0 : Int32)), .val (.int o0), .val (.int o1), .val (.int o2), .val (.int dn), .val (.int (((own_nz o0) + (own_nz o1)) + (own_nz o2))), .val (.ref dv), .val (.ref fv), .val (.ref sv), .val (.int o0), .val (.int fz), .val (.int dn), .val (.int o1), .val (.int o2), .val (.int ((((own_nz o0) + (own_nz o1)) + (own_nz o2)) + xs)), .val (.int (((own_nz dn) + (own_nz o1)) + (own_nz o2)))] [])) tgt
      refine XS.iconst X23.here hx rfl (hb hby at_348) ?_
      show Steps p.tables e below (T23.setTop (mkF m 349 #[.val (.int d0), .val (.int d1), .val (.int d2), .val (.int sl), .val (.int dd), .val (.int fz), .val (.int (0 : Int32)), .val (.int o0), .val (.int o1), .val (.int o2), .val (.int dn), .val (.int (((own_nz o0) + (own_nz o1)) + (own_nz o2))), .val (.ref dv), .val (.ref fv), .val (.ref sv), .val (.int o0), .val (.int fz), .val (.int dn), .val (.int o1), .val (.int o2), .val (.int ((((own_nz o0) + (own_nz o1)) + (own_nz o2)) + xs)), .val (.int (((own_nz dn) + (own_nz o1)) + (own_nz o2)))] [(.int (1 : Int32))])) tgt
      refine XS.goto X23.here hx rfl (pc0 := 349) (pc' := 353) rfl (hb hby at_349) (by decide) (by decide) ?_
      exact k
    refine own_retN X23 hx hlk (t := .boolean) (z' := (1 : Int32)) Bd.returns (by simp) rfl (hb hby at_353) ?_ (by decide) (by decide)
    show Q0 Z d0 d1 d2 sl dd fz h0 n0 (some (.int (1 : Int32))) T23.heap _
    rw [K23]
    exact ⟨rfl, N23⟩
  · skip
    rw [show ((sl &&& (2147483647 : Int32)) % (3 : Int32)) = (1 : Int32) from q]
    refine own_st (V := T13.setTop (mkF m 195 #[.val (.int d0), .val (.int d1), .val (.int d2), .val (.int sl), .val (.int dd), .val (.int fz), .val (.int (1 : Int32)), .val (.int o0), .val (.int o1), .val (.int o2), .val (.int dn), .val (.int (((own_nz o0) + (own_nz o1)) + (own_nz o2))), .val (.ref dv), .val (.ref fv), .val (.ref sv), .val (.int o1), .val (.int d0), .unset, .unset, .unset, .unset, .unset] [(.int dn), (.int (1 : Int32)), (.ref sv)])) (fun tgt k => ?_) ?_
    · show Steps p.tables e below (T13.setTop (mkF m 141 #[.val (.int d0), .val (.int d1), .val (.int d2), .val (.int sl), .val (.int dd), .val (.int fz), .val (.int (1 : Int32)), .val (.int o0), .val (.int o1), .val (.int o2), .val (.int dn), .val (.int (((own_nz o0) + (own_nz o1)) + (own_nz o2))), .val (.ref dv), .val (.ref fv), .val (.ref sv), .unset, .unset, .unset, .unset, .unset, .unset, .unset] [])) tgt
      refine XS.iload X13.here hx rfl (hb hby at_141) rfl ?_
      show Steps p.tables e below (T13.setTop (mkF m 143 #[.val (.int d0), .val (.int d1), .val (.int d2), .val (.int sl), .val (.int dd), .val (.int fz), .val (.int (1 : Int32)), .val (.int o0), .val (.int o1), .val (.int o2), .val (.int dn), .val (.int (((own_nz o0) + (own_nz o1)) + (own_nz o2))), .val (.ref dv), .val (.ref fv), .val (.ref sv), .unset, .unset, .unset, .unset, .unset, .unset, .unset] [(.int (1 : Int32))])) tgt
      refine XS.ifYes X13.here hx rfl (pc0 := 143) (pc' := 151) rfl (hb hby at_143) rfl ((if0 _ _).trans (feq (by decide : ¬ ((1 : Int32) = (0 : Int32)))).2) (by decide) (by decide) ?_
      show Steps p.tables e below (T13.setTop (mkF m 151 #[.val (.int d0), .val (.int d1), .val (.int d2), .val (.int sl), .val (.int dd), .val (.int fz), .val (.int (1 : Int32)), .val (.int o0), .val (.int o1), .val (.int o2), .val (.int dn), .val (.int (((own_nz o0) + (own_nz o1)) + (own_nz o2))), .val (.ref dv), .val (.ref fv), .val (.ref sv), .unset, .unset, .unset, .unset, .unset, .unset, .unset] [])) tgt
      refine XS.iload X13.here hx rfl (hb hby at_151) rfl ?_
      show Steps p.tables e below (T13.setTop (mkF m 153 #[.val (.int d0), .val (.int d1), .val (.int d2), .val (.int sl), .val (.int dd), .val (.int fz), .val (.int (1 : Int32)), .val (.int o0), .val (.int o1), .val (.int o2), .val (.int dn), .val (.int (((own_nz o0) + (own_nz o1)) + (own_nz o2))), .val (.ref dv), .val (.ref fv), .val (.ref sv), .unset, .unset, .unset, .unset, .unset, .unset, .unset] [(.int (1 : Int32))])) tgt
      refine XS.iconst X13.here hx rfl (hb hby at_153) ?_
      show Steps p.tables e below (T13.setTop (mkF m 154 #[.val (.int d0), .val (.int d1), .val (.int d2), .val (.int sl), .val (.int dd), .val (.int fz), .val (.int (1 : Int32)), .val (.int o0), .val (.int o1), .val (.int o2), .val (.int dn), .val (.int (((own_nz o0) + (own_nz o1)) + (own_nz o2))), .val (.ref dv), .val (.ref fv), .val (.ref sv), .unset, .unset, .unset, .unset, .unset, .unset, .unset] [(.int (1 : Int32)), (.int (1 : Int32))])) tgt
      refine XS.icmpNo X13.here hx rfl (hb hby at_154) rfl (teq (by decide : (1 : Int32) = (1 : Int32))).2 ?_
      show Steps p.tables e below (T13.setTop (mkF m 157 #[.val (.int d0), .val (.int d1), .val (.int d2), .val (.int sl), .val (.int dd), .val (.int fz), .val (.int (1 : Int32)), .val (.int o0), .val (.int o1), .val (.int o2), .val (.int dn), .val (.int (((own_nz o0) + (own_nz o1)) + (own_nz o2))), .val (.ref dv), .val (.ref fv), .val (.ref sv), .unset, .unset, .unset, .unset, .unset, .unset, .unset] [])) tgt
      refine XS.iload X13.here hx rfl (hb hby at_157) rfl ?_
      show Steps p.tables e below (T13.setTop (mkF m 159 #[.val (.int d0), .val (.int d1), .val (.int d2), .val (.int sl), .val (.int dd), .val (.int fz), .val (.int (1 : Int32)), .val (.int o0), .val (.int o1), .val (.int o2), .val (.int dn), .val (.int (((own_nz o0) + (own_nz o1)) + (own_nz o2))), .val (.ref dv), .val (.ref fv), .val (.ref sv), .unset, .unset, .unset, .unset, .unset, .unset, .unset] [(.int o1)])) tgt
      refine XS.goto X13.here hx rfl (pc0 := 159) (pc' := 164) rfl (hb hby at_159) (by decide) (by decide) ?_
      show Steps p.tables e below (T13.setTop (mkF m 164 #[.val (.int d0), .val (.int d1), .val (.int d2), .val (.int sl), .val (.int dd), .val (.int fz), .val (.int (1 : Int32)), .val (.int o0), .val (.int o1), .val (.int o2), .val (.int dn), .val (.int (((own_nz o0) + (own_nz o1)) + (own_nz o2))), .val (.ref dv), .val (.ref fv), .val (.ref sv), .unset, .unset, .unset, .unset, .unset, .unset, .unset] [(.int o1)])) tgt
      refine XS.istore X13.here hx rfl (hb hby at_164) rfl (l' := #[.val (.int d0), .val (.int d1), .val (.int d2), .val (.int sl), .val (.int dd), .val (.int fz), .val (.int (1 : Int32)), .val (.int o0), .val (.int o1), .val (.int o2), .val (.int dn), .val (.int (((own_nz o0) + (own_nz o1)) + (own_nz o2))), .val (.ref dv), .val (.ref fv), .val (.ref sv), .val (.int o1), .unset, .unset, .unset, .unset, .unset, .unset]) rfl ?_
      show Steps p.tables e below (T13.setTop (mkF m 166 #[.val (.int d0), .val (.int d1), .val (.int d2), .val (.int sl), .val (.int dd), .val (.int fz), .val (.int (1 : Int32)), .val (.int o0), .val (.int o1), .val (.int o2), .val (.int dn), .val (.int (((own_nz o0) + (own_nz o1)) + (own_nz o2))), .val (.ref dv), .val (.ref fv), .val (.ref sv), .val (.int o1), .unset, .unset, .unset, .unset, .unset, .unset] [])) tgt
      refine XS.iload X13.here hx rfl (hb hby at_166) rfl ?_
      show Steps p.tables e below (T13.setTop (mkF m 168 #[.val (.int d0), .val (.int d1), .val (.int d2), .val (.int sl), .val (.int dd), .val (.int fz), .val (.int (1 : Int32)), .val (.int o0), .val (.int o1), .val (.int o2), .val (.int dn), .val (.int (((own_nz o0) + (own_nz o1)) + (own_nz o2))), .val (.ref dv), .val (.ref fv), .val (.ref sv), .val (.int o1), .unset, .unset, .unset, .unset, .unset, .unset] [(.int (1 : Int32))])) tgt
      refine XS.ifYes X13.here hx rfl (pc0 := 168) (pc' := 176) rfl (hb hby at_168) rfl ((if0 _ _).trans (feq (by decide : ¬ ((1 : Int32) = (0 : Int32)))).2) (by decide) (by decide) ?_
      show Steps p.tables e below (T13.setTop (mkF m 176 #[.val (.int d0), .val (.int d1), .val (.int d2), .val (.int sl), .val (.int dd), .val (.int fz), .val (.int (1 : Int32)), .val (.int o0), .val (.int o1), .val (.int o2), .val (.int dn), .val (.int (((own_nz o0) + (own_nz o1)) + (own_nz o2))), .val (.ref dv), .val (.ref fv), .val (.ref sv), .val (.int o1), .unset, .unset, .unset, .unset, .unset, .unset] [])) tgt
      refine XS.iload X13.here hx rfl (hb hby at_176) rfl ?_
      show Steps p.tables e below (T13.setTop (mkF m 178 #[.val (.int d0), .val (.int d1), .val (.int d2), .val (.int sl), .val (.int dd), .val (.int fz), .val (.int (1 : Int32)), .val (.int o0), .val (.int o1), .val (.int o2), .val (.int dn), .val (.int (((own_nz o0) + (own_nz o1)) + (own_nz o2))), .val (.ref dv), .val (.ref fv), .val (.ref sv), .val (.int o1), .unset, .unset, .unset, .unset, .unset, .unset] [(.int (1 : Int32))])) tgt
      refine XS.iconst X13.here hx rfl (hb hby at_178) ?_
      show Steps p.tables e below (T13.setTop (mkF m 179 #[.val (.int d0), .val (.int d1), .val (.int d2), .val (.int sl), .val (.int dd), .val (.int fz), .val (.int (1 : Int32)), .val (.int o0), .val (.int o1), .val (.int o2), .val (.int dn), .val (.int (((own_nz o0) + (own_nz o1)) + (own_nz o2))), .val (.ref dv), .val (.ref fv), .val (.ref sv), .val (.int o1), .unset, .unset, .unset, .unset, .unset, .unset] [(.int (1 : Int32)), (.int (1 : Int32))])) tgt
      refine XS.icmpNo X13.here hx rfl (hb hby at_179) rfl (teq (by decide : (1 : Int32) = (1 : Int32))).2 ?_
      show Steps p.tables e below (T13.setTop (mkF m 182 #[.val (.int d0), .val (.int d1), .val (.int d2), .val (.int sl), .val (.int dd), .val (.int fz), .val (.int (1 : Int32)), .val (.int o0), .val (.int o1), .val (.int o2), .val (.int dn), .val (.int (((own_nz o0) + (own_nz o1)) + (own_nz o2))), .val (.ref dv), .val (.ref fv), .val (.ref sv), .val (.int o1), .unset, .unset, .unset, .unset, .unset, .unset] [])) tgt
      refine XS.iloadN X13.here hx rfl (hb hby at_182) rfl ?_
      show Steps p.tables e below (T13.setTop (mkF m 183 #[.val (.int d0), .val (.int d1), .val (.int d2), .val (.int sl), .val (.int dd), .val (.int fz), .val (.int (1 : Int32)), .val (.int o0), .val (.int o1), .val (.int o2), .val (.int dn), .val (.int (((own_nz o0) + (own_nz o1)) + (own_nz o2))), .val (.ref dv), .val (.ref fv), .val (.ref sv), .val (.int o1), .unset, .unset, .unset, .unset, .unset, .unset] [(.int d0)])) tgt
      refine XS.goto X13.here hx rfl (pc0 := 183) (pc' := 187) rfl (hb hby at_183) (by decide) (by decide) ?_
      show Steps p.tables e below (T13.setTop (mkF m 187 #[.val (.int d0), .val (.int d1), .val (.int d2), .val (.int sl), .val (.int dd), .val (.int fz), .val (.int (1 : Int32)), .val (.int o0), .val (.int o1), .val (.int o2), .val (.int dn), .val (.int (((own_nz o0) + (own_nz o1)) + (own_nz o2))), .val (.ref dv), .val (.ref fv), .val (.ref sv), .val (.int o1), .unset, .unset, .unset, .unset, .unset, .unset] [(.int d0)])) tgt
      refine XS.istore X13.here hx rfl (hb hby at_187) rfl (l' := #[.val (.int d0), .val (.int d1), .val (.int d2), .val (.int sl), .val (.int dd), .val (.int fz), .val (.int (1 : Int32)), .val (.int o0), .val (.int o1), .val (.int o2), .val (.int dn), .val (.int (((own_nz o0) + (own_nz o1)) + (own_nz o2))), .val (.ref dv), .val (.ref fv), .val (.ref sv), .val (.int o1), .val (.int d0), .unset, .unset, .unset, .unset, .unset]) rfl ?_
      show Steps p.tables e below (T13.setTop (mkF m 189 #[.val (.int d0), .val (.int d1), .val (.int d2), .val (.int sl), .val (.int dd), .val (.int fz), .val (.int (1 : Int32)), .val (.int o0), .val (.int o1), .val (.int o2), .val (.int dn), .val (.int (((own_nz o0) + (own_nz o1)) + (own_nz o2))), .val (.ref dv), .val (.ref fv), .val (.ref sv), .val (.int o1), .val (.int d0), .unset, .unset, .unset, .unset, .unset] [])) tgt
      refine XS.aload X13.here hx rfl (hb hby at_189) rfl rfl ?_
      show Steps p.tables e below (T13.setTop (mkF m 191 #[.val (.int d0), .val (.int d1), .val (.int d2), .val (.int sl), .val (.int dd), .val (.int fz), .val (.int (1 : Int32)), .val (.int o0), .val (.int o1), .val (.int o2), .val (.int dn), .val (.int (((own_nz o0) + (own_nz o1)) + (own_nz o2))), .val (.ref dv), .val (.ref fv), .val (.ref sv), .val (.int o1), .val (.int d0), .unset, .unset, .unset, .unset, .unset] [(.ref sv)])) tgt
      refine XS.iload X13.here hx rfl (hb hby at_191) rfl ?_
      show Steps p.tables e below (T13.setTop (mkF m 193 #[.val (.int d0), .val (.int d1), .val (.int d2), .val (.int sl), .val (.int dd), .val (.int fz), .val (.int (1 : Int32)), .val (.int o0), .val (.int o1), .val (.int o2), .val (.int dn), .val (.int (((own_nz o0) + (own_nz o1)) + (own_nz o2))), .val (.ref dv), .val (.ref fv), .val (.ref sv), .val (.int o1), .val (.int d0), .unset, .unset, .unset, .unset, .unset] [(.int (1 : Int32)), (.ref sv)])) tgt
      refine XS.iload X13.here hx rfl (hb hby at_193) rfl ?_
      exact k
    obtain ⟨cq25, kq25, q25a, q25b, q25c⟩ := isOf hZ rfl g13_0
    obtain ⟨_, _, ⟨T25, L25, k25, n25⟩, -, X25, ⟨Lc25, hQ25, l25, y25, z25⟩, st25⟩ := X13.virtualBack hx (y := (⟨"com/example/chainwright/chainwright/State", "choose", "(II)V"⟩ : MethodName)) (z := (⟨"com/example/chainwright/chainwright/State", "choose", "(II)V"⟩ : MethodName)) hown (mvT hZ (hw _ (List.mem_of_getElem? (i := 21) rfl))) (mvT hZ (hw _ (List.mem_of_getElem? (i := 22) rfl))) (notFace_of_selects (args := #[]) (mvT hZ (hw _ (List.mem_of_getElem? (i := 24) rfl)))) (mvT hZ (hw _ (List.mem_of_getElem? (i := 24) rfl))) (mvT hZ (hw _ (List.mem_of_getElem? (i := 23) rfl))) (by decide) (backOf (W := 0) (rm4 l Z a0 hw [] sv (1 : Int32) dn dv 3 (own_up (own_up (own_up (fun _ => 0) 0 o0) 1 o1) 2 o2) 1 fv (((own_nz o0) + (own_nz o1)) + (own_nz o2)) T13.heap n0 Zs13 g13_0 g13_1 g13_2 g13_3 A_dv_13 (by first | assumption | decide | rfl) (by first | assumption | decide | rfl) g_sv g_dv (Ne.symm ne_dv_sv)) hZ (hw _ (List.mem_of_getElem? (i := 25) rfl)) (hw _ (List.mem_of_getElem? (i := 8) rfl)) (by decide) (by decide)) q25a q25c (g := (mkF m 195 #[.val (.int d0), .val (.int d1), .val (.int d2), .val (.int sl), .val (.int dd), .val (.int fz), .val (.int (1 : Int32)), .val (.int o0), .val (.int o1), .val (.int o2), .val (.int dn), .val (.int (((own_nz o0) + (own_nz o1)) + (own_nz o2))), .val (.ref dv), .val (.ref fv), .val (.ref sv), .val (.int o1), .val (.int d0), .unset, .unset, .unset, .unset, .unset] [(.int dn), (.int (1 : Int32)), (.ref sv)])) rfl (by rw [hml]; rfl) (Steps.refl _) (argsL := [(.int (1 : Int32)), (.int dn)]) (rest := []) (lenOf pd_0_2 rfl) rfl (by show 2 * 0 + _ ≤ _; exact Nat.le_of_eq rfl) (hb hby at_195) (fun _ _ => ⟨rfl, rfl, (by decide : 3 + 0 ≤ _), (by decide : 9 + 0 ≤ _)⟩)
    dsimp only [Pt.U, Pt.locs, Pt.cells, Pt.slots] at X25 l25 y25 z25 st25 hQ25
    subst l25 y25 z25
    obtain ⟨rfl, N25q, K25, g25_0, g25_1, g25_2, g25_3, g25_4⟩ := hQ25
    have N25 := Fr.app N13 N25q
    have A_fv_25 := A_fv_13.keep K25 (ninS ne_fv_sv (ninS (Ne.symm ne_dv_fv) nin0))
    have E_sv_25 := g13_0.keep K25
    have Zs25 : n0 ≤ T25.heap.size := Nat.le_trans Zs13 K25.1
    refine own_st (fun tgt k => st25.trans k) ?_
    show own_Go p e below _ (T25.setTop (mkF m 198 #[.val (.int d0), .val (.int d1), .val (.int d2), .val (.int sl), .val (.int dd), .val (.int fz), .val (.int (1 : Int32)), .val (.int o0), .val (.int o1), .val (.int o2), .val (.int dn), .val (.int (((own_nz o0) + (own_nz o1)) + (own_nz o2))), .val (.ref dv), .val (.ref fv), .val (.ref sv), .val (.int o1), .val (.int d0), .unset, .unset, .unset, .unset, .unset] []))
    refine own_st (V := T25.setTop (mkF m 246 #[.val (.int d0), .val (.int d1), .val (.int d2), .val (.int sl), .val (.int dd), .val (.int fz), .val (.int (1 : Int32)), .val (.int o0), .val (.int o1), .val (.int o2), .val (.int dn), .val (.int (((own_nz o0) + (own_nz o1)) + (own_nz o2))), .val (.ref dv), .val (.ref fv), .val (.ref sv), .val (.int o1), .val (.int d0), .val (.int o0), .val (.int dn), .val (.int o2), .unset, .unset] [(.int o1), (.int (((own_nz o0) + (own_nz o1)) + (own_nz o2)))])) (fun tgt k => ?_) ?_
    · show Steps p.tables e below (T25.setTop (mkF m 198 #[.val (.int d0), .val (.int d1), .val (.int d2), .val (.int sl), .val (.int dd), .val (.int fz), .val (.int (1 : Int32)), .val (.int o0), .val (.int o1), .val (.int o2), .val (.int dn), .val (.int (((own_nz o0) + (own_nz o1)) + (own_nz o2))), .val (.ref dv), .val (.ref fv), .val (.ref sv), .val (.int o1), .val (.int d0), .unset, .unset, .unset, .unset, .unset] [])) tgt
      refine XS.iload X25.here hx rfl (hb hby at_198) rfl ?_
      show Steps p.tables e below (T25.setTop (mkF m 200 #[.val (.int d0), .val (.int d1), .val (.int d2), .val (.int sl), .val (.int dd), .val (.int fz), .val (.int (1 : Int32)), .val (.int o0), .val (.int o1), .val (.int o2), .val (.int dn), .val (.int (((own_nz o0) + (own_nz o1)) + (own_nz o2))), .val (.ref dv), .val (.ref fv), .val (.ref sv), .val (.int o1), .val (.int d0), .unset, .unset, .unset, .unset, .unset] [(.int (1 : Int32))])) tgt
      refine XS.ifYes X25.here hx rfl (pc0 := 200) (pc' := 208) rfl (hb hby at_200) rfl ((if0 _ _).trans (feq (by decide : ¬ ((1 : Int32) = (0 : Int32)))).2) (by decide) (by decide) ?_
      show Steps p.tables e below (T25.setTop (mkF m 208 #[.val (.int d0), .val (.int d1), .val (.int d2), .val (.int sl), .val (.int dd), .val (.int fz), .val (.int (1 : Int32)), .val (.int o0), .val (.int o1), .val (.int o2), .val (.int dn), .val (.int (((own_nz o0) + (own_nz o1)) + (own_nz o2))), .val (.ref dv), .val (.ref fv), .val (.ref sv), .val (.int o1), .val (.int d0), .unset, .unset, .unset, .unset, .unset] [])) tgt
      refine XS.iload X25.here hx rfl (hb hby at_208) rfl ?_
      show Steps p.tables e below (T25.setTop (mkF m 210 #[.val (.int d0), .val (.int d1), .val (.int d2), .val (.int sl), .val (.int dd), .val (.int fz), .val (.int (1 : Int32)), .val (.int o0), .val (.int o1), .val (.int o2), .val (.int dn), .val (.int (((own_nz o0) + (own_nz o1)) + (own_nz o2))), .val (.ref dv), .val (.ref fv), .val (.ref sv), .val (.int o1), .val (.int d0), .unset, .unset, .unset, .unset, .unset] [(.int o0)])) tgt
      refine XS.istore X25.here hx rfl (hb hby at_210) rfl (l' := #[.val (.int d0), .val (.int d1), .val (.int d2), .val (.int sl), .val (.int dd), .val (.int fz), .val (.int (1 : Int32)), .val (.int o0), .val (.int o1), .val (.int o2), .val (.int dn), .val (.int (((own_nz o0) + (own_nz o1)) + (own_nz o2))), .val (.ref dv), .val (.ref fv), .val (.ref sv), .val (.int o1), .val (.int d0), .val (.int o0), .unset, .unset, .unset, .unset]) rfl ?_
      show Steps p.tables e below (T25.setTop (mkF m 212 #[.val (.int d0), .val (.int d1), .val (.int d2), .val (.int sl), .val (.int dd), .val (.int fz), .val (.int (1 : Int32)), .val (.int o0), .val (.int o1), .val (.int o2), .val (.int dn), .val (.int (((own_nz o0) + (own_nz o1)) + (own_nz o2))), .val (.ref dv), .val (.ref fv), .val (.ref sv), .val (.int o1), .val (.int d0), .val (.int o0), .unset, .unset, .unset, .unset] [])) tgt
      refine XS.iload X25.here hx rfl (hb hby at_212) rfl ?_
      show Steps p.tables e below (T25.setTop (mkF m 214 #[.val (.int d0), .val (.int d1), .val (.int d2), .val (.int sl), .val (.int dd), .val (.int fz), .val (.int (1 : Int32)), .val (.int o0), .val (.int o1), .val (.int o2), .val (.int dn), .val (.int (((own_nz o0) + (own_nz o1)) + (own_nz o2))), .val (.ref dv), .val (.ref fv), .val (.ref sv), .val (.int o1), .val (.int d0), .val (.int o0), .unset, .unset, .unset, .unset] [(.int (1 : Int32))])) tgt
      refine XS.iconst X25.here hx rfl (hb hby at_214) ?_
      show Steps p.tables e below (T25.setTop (mkF m 215 #[.val (.int d0), .val (.int d1), .val (.int d2), .val (.int sl), .val (.int dd), .val (.int fz), .val (.int (1 : Int32)), .val (.int o0), .val (.int o1), .val (.int o2), .val (.int dn), .val (.int (((own_nz o0) + (own_nz o1)) + (own_nz o2))), .val (.ref dv), .val (.ref fv), .val (.ref sv), .val (.int o1), .val (.int d0), .val (.int o0), .unset, .unset, .unset, .unset] [(.int (1 : Int32)), (.int (1 : Int32))])) tgt
      refine XS.icmpNo X25.here hx rfl (hb hby at_215) rfl (teq (by decide : (1 : Int32) = (1 : Int32))).2 ?_
      show Steps p.tables e below (T25.setTop (mkF m 218 #[.val (.int d0), .val (.int d1), .val (.int d2), .val (.int sl), .val (.int dd), .val (.int fz), .val (.int (1 : Int32)), .val (.int o0), .val (.int o1), .val (.int o2), .val (.int dn), .val (.int (((own_nz o0) + (own_nz o1)) + (own_nz o2))), .val (.ref dv), .val (.ref fv), .val (.ref sv), .val (.int o1), .val (.int d0), .val (.int o0), .unset, .unset, .unset, .unset] [])) tgt
      refine XS.iload X25.here hx rfl (hb hby at_218) rfl ?_
      show Steps p.tables e below (T25.setTop (mkF m 220 #[.val (.int d0), .val (.int d1), .val (.int d2), .val (.int sl), .val (.int dd), .val (.int fz), .val (.int (1 : Int32)), .val (.int o0), .val (.int o1), .val (.int o2), .val (.int dn), .val (.int (((own_nz o0) + (own_nz o1)) + (own_nz o2))), .val (.ref dv), .val (.ref fv), .val (.ref sv), .val (.int o1), .val (.int d0), .val (.int o0), .unset, .unset, .unset, .unset] [(.int dn)])) tgt
      refine XS.goto X25.here hx rfl (pc0 := 220) (pc' := 225) rfl (hb hby at_220) (by decide) (by decide) ?_
      show Steps p.tables e below (T25.setTop (mkF m 225 #[.val (.int d0), .val (.int d1), .val (.int d2), .val (.int sl), .val (.int dd), .val (.int fz), .val (.int (1 : Int32)), .val (.int o0), .val (.int o1), .val (.int o2), .val (.int dn), .val (.int (((own_nz o0) + (own_nz o1)) + (own_nz o2))), .val (.ref dv), .val (.ref fv), .val (.ref sv), .val (.int o1), .val (.int d0), .val (.int o0), .unset, .unset, .unset, .unset] [(.int dn)])) tgt
      refine XS.istore X25.here hx rfl (hb hby at_225) rfl (l' := #[.val (.int d0), .val (.int d1), .val (.int d2), .val (.int sl), .val (.int dd), .val (.int fz), .val (.int (1 : Int32)), .val (.int o0), .val (.int o1), .val (.int o2), .val (.int dn), .val (.int (((own_nz o0) + (own_nz o1)) + (own_nz o2))), .val (.ref dv), .val (.ref fv), .val (.ref sv), .val (.int o1), .val (.int d0), .val (.int o0), .val (.int dn), .unset, .unset, .unset]) rfl ?_
      show Steps p.tables e below (T25.setTop (mkF m 227 #[.val (.int d0), .val (.int d1), .val (.int d2), .val (.int sl), .val (.int dd), .val (.int fz), .val (.int (1 : Int32)), .val (.int o0), .val (.int o1), .val (.int o2), .val (.int dn), .val (.int (((own_nz o0) + (own_nz o1)) + (own_nz o2))), .val (.ref dv), .val (.ref fv), .val (.ref sv), .val (.int o1), .val (.int d0), .val (.int o0), .val (.int dn), .unset, .unset, .unset] [])) tgt
      refine XS.iload X25.here hx rfl (hb hby at_227) rfl ?_
      show Steps p.tables e below (T25.setTop (mkF m 229 #[.val (.int d0), .val (.int d1), .val (.int d2), .val (.int sl), .val (.int dd), .val (.int fz), .val (.int (1 : Int32)), .val (.int o0), .val (.int o1), .val (.int o2), .val (.int dn), .val (.int (((own_nz o0) + (own_nz o1)) + (own_nz o2))), .val (.ref dv), .val (.ref fv), .val (.ref sv), .val (.int o1), .val (.int d0), .val (.int o0), .val (.int dn), .unset, .unset, .unset] [(.int (1 : Int32))])) tgt
      refine XS.iconst X25.here hx rfl (hb hby at_229) ?_
      show Steps p.tables e below (T25.setTop (mkF m 230 #[.val (.int d0), .val (.int d1), .val (.int d2), .val (.int sl), .val (.int dd), .val (.int fz), .val (.int (1 : Int32)), .val (.int o0), .val (.int o1), .val (.int o2), .val (.int dn), .val (.int (((own_nz o0) + (own_nz o1)) + (own_nz o2))), .val (.ref dv), .val (.ref fv), .val (.ref sv), .val (.int o1), .val (.int d0), .val (.int o0), .val (.int dn), .unset, .unset, .unset] [(.int (2 : Int32)), (.int (1 : Int32))])) tgt
      refine XS.icmpYes X25.here hx rfl (pc0 := 230) (pc' := 238) rfl (hb hby at_230) rfl (feq (by decide : ¬ ((1 : Int32) = (2 : Int32)))).2 (by decide) (by decide) ?_
      show Steps p.tables e below (T25.setTop (mkF m 238 #[.val (.int d0), .val (.int d1), .val (.int d2), .val (.int sl), .val (.int dd), .val (.int fz), .val (.int (1 : Int32)), .val (.int o0), .val (.int o1), .val (.int o2), .val (.int dn), .val (.int (((own_nz o0) + (own_nz o1)) + (own_nz o2))), .val (.ref dv), .val (.ref fv), .val (.ref sv), .val (.int o1), .val (.int d0), .val (.int o0), .val (.int dn), .unset, .unset, .unset] [])) tgt
      refine XS.iload X25.here hx rfl (hb hby at_238) rfl ?_
      show Steps p.tables e below (T25.setTop (mkF m 240 #[.val (.int d0), .val (.int d1), .val (.int d2), .val (.int sl), .val (.int dd), .val (.int fz), .val (.int (1 : Int32)), .val (.int o0), .val (.int o1), .val (.int o2), .val (.int dn), .val (.int (((own_nz o0) + (own_nz o1)) + (own_nz o2))), .val (.ref dv), .val (.ref fv), .val (.ref sv), .val (.int o1), .val (.int d0), .val (.int o0), .val (.int dn), .unset, .unset, .unset] [(.int o2)])) tgt
      refine XS.istore X25.here hx rfl (hb hby at_240) rfl (l' := #[.val (.int d0), .val (.int d1), .val (.int d2), .val (.int sl), .val (.int dd), .val (.int fz), .val (.int (1 : Int32)), .val (.int o0), .val (.int o1), .val (.int o2), .val (.int dn), .val (.int (((own_nz o0) + (own_nz o1)) + (own_nz o2))), .val (.ref dv), .val (.ref fv), .val (.ref sv), .val (.int o1), .val (.int d0), .val (.int o0), .val (.int dn), .val (.int o2), .unset, .unset]) rfl ?_
      show Steps p.tables e below (T25.setTop (mkF m 242 #[.val (.int d0), .val (.int d1), .val (.int d2), .val (.int sl), .val (.int dd), .val (.int fz), .val (.int (1 : Int32)), .val (.int o0), .val (.int o1), .val (.int o2), .val (.int dn), .val (.int (((own_nz o0) + (own_nz o1)) + (own_nz o2))), .val (.ref dv), .val (.ref fv), .val (.ref sv), .val (.int o1), .val (.int d0), .val (.int o0), .val (.int dn), .val (.int o2), .unset, .unset] [])) tgt
      refine XS.iload X25.here hx rfl (hb hby at_242) rfl ?_
      show Steps p.tables e below (T25.setTop (mkF m 244 #[.val (.int d0), .val (.int d1), .val (.int d2), .val (.int sl), .val (.int dd), .val (.int fz), .val (.int (1 : Int32)), .val (.int o0), .val (.int o1), .val (.int o2), .val (.int dn), .val (.int (((own_nz o0) + (own_nz o1)) + (own_nz o2))), .val (.ref dv), .val (.ref fv), .val (.ref sv), .val (.int o1), .val (.int d0), .val (.int o0), .val (.int dn), .val (.int o2), .unset, .unset] [(.int (((own_nz o0) + (own_nz o1)) + (own_nz o2)))])) tgt
      refine XS.iload X25.here hx rfl (hb hby at_244) rfl ?_
      exact k
    obtain ⟨xs, hxs⟩ : ∃ z : Int32, z = (if o1 = (0 : Int32) then (1 : Int32) else (0 : Int32)) := ⟨_, rfl⟩
    refine own_st (V := T25.setTop (mkF m 254 #[.val (.int d0), .val (.int d1), .val (.int d2), .val (.int sl), .val (.int dd), .val (.int fz), .val (.int (1 : Int32)), .val (.int o0), .val (.int o1), .val (.int o2), .val (.int dn), .val (.int (((own_nz o0) + (own_nz o1)) + (own_nz o2))), .val (.ref dv), .val (.ref fv), .val (.ref sv), .val (.int o1), .val (.int d0), .val (.int o0), .val (.int dn), .val (.int o2), .unset, .unset] [(.int xs), (.int (((own_nz o0) + (own_nz o1)) + (own_nz o2)))])) (fun tgt k => ?_) ?_
    · skip
      by_cases hc246_2 : o1 = (0 : Int32)
      · skip
        rw [if_pos hc246_2] at hxs
        show Steps p.tables e below (T25.setTop (mkF m 246 #[.val (.int d0), .val (.int d1), .val (.int d2), .val (.int sl), .val (.int dd), .val (.int fz), .val (.int (1 : Int32)), .val (.int o0), .val (.int o1), .val (.int o2), .val (.int dn), .val (.int (((own_nz o0) + (own_nz o1)) + (own_nz o2))), .val (.ref dv), .val (.ref fv), .val (.ref sv), .val (.int o1), .val (.int d0), .val (.int o0), .val (.int dn), .val (.int o2), .unset, .unset] [(.int o1), (.int (((own_nz o0) + (own_nz o1)) + (own_nz o2)))])) tgt
        refine XS.ifNo X25.here hx rfl (hb hby at_246) rfl ((if0 _ _).trans (teq hc246_2).2) ?_
        show Steps p.tables e below (T25.setTop (mkF m 249 #[.val (.int d0), .val (.int d1), .val (.int d2), .val (.int sl), .val (.int dd), .val (.int fz), .val (.int (1 : Int32)), .val (.int o0), .val (.int o1), .val (.int o2), .val (.int dn), .val (.int (((own_nz o0) + (own_nz o1)) + (own_nz o2))), .val (.ref dv), .val (.ref fv), .val (.ref sv), .val (.int o1), .val (.int d0), .val (.int o0), .val (.int dn), .val (.int o2), .unset, .unset] [(.int (((own_nz o0) + (own_nz o1)) + (own_nz o2)))])) tgt
        refine XS.iconst X25.here hx rfl (hb hby at_249) ?_
        show Steps p.tables e below (T25.setTop (mkF m 250 #[.val (.int d0), .val (.int d1), .val (.int d2), .val (.int sl), .val (.int dd), .val (.int fz), .val (.int (1 : Int32)), .val (.int o0), .val (.int o1), .val (.int o2), .val (.int dn), .val (.int (((own_nz o0) + (own_nz o1)) + (own_nz o2))), .val (.ref dv), .val (.ref fv), .val (.ref sv), .val (.int o1), .val (.int d0), .val (.int o0), .val (.int dn), .val (.int o2), .unset, .unset] [(.int (1 : Int32)), (.int (((own_nz o0) + (own_nz o1)) + (own_nz o2)))])) tgt
        refine XS.goto X25.here hx rfl (pc0 := 250) (pc' := 254) rfl (hb hby at_250) (by decide) (by decide) ?_
        rw [hxs] at k
        exact k
      · skip
        rw [if_neg hc246_2] at hxs
        show Steps p.tables e below (T25.setTop (mkF m 246 #[.val (.int d0), .val (.int d1), .val (.int d2), .val (.int sl), .val (.int dd), .val (.int fz), .val (.int (1 : Int32)), .val (.int o0), .val (.int o1), .val (.int o2), .val (.int dn), .val (.int (((own_nz o0) + (own_nz o1)) + (own_nz o2))), .val (.ref dv), .val (.ref fv), .val (.ref sv), .val (.int o1), .val (.int d0), .val (.int o0), .val (.int dn), .val (.int o2), .unset, .unset] [(.int o1), (.int (((own_nz o0) + (own_nz o1)) + (own_nz o2)))])) tgt
        refine XS.ifYes X25.here hx rfl (pc0 := 246) (pc' := 253) rfl (hb hby at_246) rfl ((if0 _ _).trans (feq hc246_2).2) (by decide) (by decide) ?_
        show Steps p.tables e below (T25.setTop (mkF m 253 #[.val (.int d0), .val (.int d1), .val (.int d2), .val (.int sl), .val (.int dd), .val (.int fz), .val (.int (1 : Int32)), .val (.int o0), .val (.int o1), .val (.int o2), .val (.int dn), .val (.int (((own_nz o0) + (own_nz o1)) + (own_nz o2))), .val (.ref dv), .val (.ref fv), .val (.ref sv), .val (.int o1), .val (.int d0), .val (.int o0), .val (.int dn), .val (.int o2), .unset, .unset] [(.int (((own_nz o0) + (own_nz o1)) + (own_nz o2)))])) tgt
        refine XS.iconst X25.here hx rfl (hb hby at_253) ?_
        rw [hxs] at k
        exact k
    refine own_st (V := T25.setTop (mkF m 259 #[.val (.int d0), .val (.int d1), .val (.int d2), .val (.int sl), .val (.int dd), .val (.int fz), .val (.int (1 : Int32)), .val (.int o0), .val (.int o1), .val (.int o2), .val (.int dn), .val (.int (((own_nz o0) + (own_nz o1)) + (own_nz o2))), .val (.ref dv), .val (.ref fv), .val (.ref sv), .val (.int o1), .val (.int d0), .val (.int o0), .val (.int dn), .val (.int o2), .val (.int ((((own_nz o0) + (own_nz o1)) + (own_nz o2)) + xs)), .unset] [(.int o0)])) (fun tgt k => ?_) ?_
    · show Steps p.tables e below (T25.setTop (mkF m 254 #[.val (.int d0), .val (.int d1), .val (.int d2), .val (.int sl), .val (.int dd), .val (.int fz), .val (.int (1 : Int32)), .val (.int o0), .val (.int o1), .val (.int o2), .val (.int dn), .val (.int (((own_nz o0) + (own_nz o1)) + (own_nz o2))), .val (.ref dv), .val (.ref fv), .val (.ref sv), .val (.int o1), .val (.int d0), .val (.int o0), .val (.int dn), .val (.int o2), .unset, .unset] [(.int xs), (.int (((own_nz o0) + (own_nz o1)) + (own_nz o2)))])) tgt
      refine XS.iadd X25.here hx rfl (hb hby at_254) rfl ?_
      show Steps p.tables e below (T25.setTop (mkF m 255 #[.val (.int d0), .val (.int d1), .val (.int d2), .val (.int sl), .val (.int dd), .val (.int fz), .val (.int (1 : Int32)), .val (.int o0), .val (.int o1), .val (.int o2), .val (.int dn), .val (.int (((own_nz o0) + (own_nz o1)) + (own_nz o2))), .val (.ref dv), .val (.ref fv), .val (.ref sv), .val (.int o1), .val (.int d0), .val (.int o0), .val (.int dn), .val (.int o2), .unset, .unset] [(.int ((((own_nz o0) + (own_nz o1)) + (own_nz o2)) + xs))])) tgt
      refine XS.istore X25.here hx rfl (hb hby at_255) rfl (l' := #[.val (.int d0), .val (.int d1), .val (.int d2), .val (.int sl), .val (.int dd), .val (.int fz), .val (.int (1 : Int32)), .val (.int o0), .val (.int o1), .val (.int o2), .val (.int dn), .val (.int (((own_nz o0) + (own_nz o1)) + (own_nz o2))), .val (.ref dv), .val (.ref fv), .val (.ref sv), .val (.int o1), .val (.int d0), .val (.int o0), .val (.int dn), .val (.int o2), .val (.int ((((own_nz o0) + (own_nz o1)) + (own_nz o2)) + xs)), .unset]) rfl ?_
      show Steps p.tables e below (T25.setTop (mkF m 257 #[.val (.int d0), .val (.int d1), .val (.int d2), .val (.int sl), .val (.int dd), .val (.int fz), .val (.int (1 : Int32)), .val (.int o0), .val (.int o1), .val (.int o2), .val (.int dn), .val (.int (((own_nz o0) + (own_nz o1)) + (own_nz o2))), .val (.ref dv), .val (.ref fv), .val (.ref sv), .val (.int o1), .val (.int d0), .val (.int o0), .val (.int dn), .val (.int o2), .val (.int ((((own_nz o0) + (own_nz o1)) + (own_nz o2)) + xs)), .unset] [])) tgt
      refine XS.iload X25.here hx rfl (hb hby at_257) rfl ?_
      exact k
    obtain ⟨_, _, ⟨T26, L26, k26, n26⟩, -, X26, ⟨Lc26, hQ26, l26, y26, z26⟩, st26⟩ := Jvm.LawKit.callS X25 hx (y := (⟨"com/example/chainwright/chainwright/StateChoosePinLaw", "nz", "(I)I"⟩ : MethodName)) hown (mvT hZ (hw _ (List.mem_of_getElem? (i := 1) rfl))) (mvT hZ (hw _ (List.mem_of_getElem? (i := 2) rfl))) (mvT hZ (hw _ (List.mem_of_getElem? (i := 3) rfl))) (mvT hZ (hw _ (List.mem_of_getElem? (i := 4) rfl))) (by decide) (backOf (W := 0) (rm1 l Z a0 hw [] o0 T25.heap n0 Zs25 ) hZ (hw _ (List.mem_of_getElem? (i := 4) rfl)) (hw _ (List.mem_of_getElem? (i := 3) rfl)) (by decide) (by decide)) (g := (mkF m 259 #[.val (.int d0), .val (.int d1), .val (.int d2), .val (.int sl), .val (.int dd), .val (.int fz), .val (.int (1 : Int32)), .val (.int o0), .val (.int o1), .val (.int o2), .val (.int dn), .val (.int (((own_nz o0) + (own_nz o1)) + (own_nz o2))), .val (.ref dv), .val (.ref fv), .val (.ref sv), .val (.int o1), .val (.int d0), .val (.int o0), .val (.int dn), .val (.int o2), .val (.int ((((own_nz o0) + (own_nz o1)) + (own_nz o2)) + xs)), .unset] [(.int o0)])) rfl (by rw [hml]; rfl) (argsL := [(.int o0)]) (rest := []) (lenOf pd_0_0 rfl) rfl (by show 2 * 0 + _ ≤ _; exact Nat.le_of_eq rfl) (hb hby at_259) (fun _ _ => ⟨rfl, rfl, (by decide : 3 + 0 ≤ _), (by decide : 9 + 0 ≤ _)⟩)
    dsimp only [Pt.U, Pt.locs, Pt.cells, Pt.slots] at X26 l26 y26 z26 st26 hQ26
    subst l26 y26 z26
    obtain ⟨rfl, N26q, K26⟩ := hQ26
    have N26 := Fr.app N25 N26q
    refine own_st st26 ?_
    show own_Go p e below _ (T26.setTop (mkF m 262 #[.val (.int d0), .val (.int d1), .val (.int d2), .val (.int sl), .val (.int dd), .val (.int fz), .val (.int (1 : Int32)), .val (.int o0), .val (.int o1), .val (.int o2), .val (.int dn), .val (.int (((own_nz o0) + (own_nz o1)) + (own_nz o2))), .val (.ref dv), .val (.ref fv), .val (.ref sv), .val (.int o1), .val (.int d0), .val (.int o0), .val (.int dn), .val (.int o2), .val (.int ((((own_nz o0) + (own_nz o1)) + (own_nz o2)) + xs)), .unset] [(.int (own_nz o0))]))
    refine own_st (V := T26.setTop (mkF m 264 #[.val (.int d0), .val (.int d1), .val (.int d2), .val (.int sl), .val (.int dd), .val (.int fz), .val (.int (1 : Int32)), .val (.int o0), .val (.int o1), .val (.int o2), .val (.int dn), .val (.int (((own_nz o0) + (own_nz o1)) + (own_nz o2))), .val (.ref dv), .val (.ref fv), .val (.ref sv), .val (.int o1), .val (.int d0), .val (.int o0), .val (.int dn), .val (.int o2), .val (.int ((((own_nz o0) + (own_nz o1)) + (own_nz o2)) + xs)), .unset] [(.int dn), (.int (own_nz o0))])) (fun tgt k => ?_) ?_
    · show Steps p.tables e below (T26.setTop (mkF m 262 #[.val (.int d0), .val (.int d1), .val (.int d2), .val (.int sl), .val (.int dd), .val (.int fz), .val (.int (1 : Int32)), .val (.int o0), .val (.int o1), .val (.int o2), .val (.int dn), .val (.int (((own_nz o0) + (own_nz o1)) + (own_nz o2))), .val (.ref dv), .val (.ref fv), .val (.ref sv), .val (.int o1), .val (.int d0), .val (.int o0), .val (.int dn), .val (.int o2), .val (.int ((((own_nz o0) + (own_nz o1)) + (own_nz o2)) + xs)), .unset] [(.int (own_nz o0))])) tgt
      refine XS.iload X26.here hx rfl (hb hby at_262) rfl ?_
      exact k
    obtain ⟨_, _, ⟨T27, L27, k27, n27⟩, -, X27, ⟨Lc27, hQ27, l27, y27, z27⟩, st27⟩ := Jvm.LawKit.callS X26 hx (y := (⟨"com/example/chainwright/chainwright/StateChoosePinLaw", "nz", "(I)I"⟩ : MethodName)) hown (mvT hZ (hw _ (List.mem_of_getElem? (i := 1) rfl))) (mvT hZ (hw _ (List.mem_of_getElem? (i := 2) rfl))) (mvT hZ (hw _ (List.mem_of_getElem? (i := 3) rfl))) (mvT hZ (hw _ (List.mem_of_getElem? (i := 4) rfl))) (by decide) (backOf (W := 1) (rm1 l Z a0 hw [] dn T25.heap n0 Zs25 ) hZ (hw _ (List.mem_of_getElem? (i := 4) rfl)) (hw _ (List.mem_of_getElem? (i := 3) rfl)) (by decide) (by decide)) (g := (mkF m 264 #[.val (.int d0), .val (.int d1), .val (.int d2), .val (.int sl), .val (.int dd), .val (.int fz), .val (.int (1 : Int32)), .val (.int o0), .val (.int o1), .val (.int o2), .val (.int dn), .val (.int (((own_nz o0) + (own_nz o1)) + (own_nz o2))), .val (.ref dv), .val (.ref fv), .val (.ref sv), .val (.int o1), .val (.int d0), .val (.int o0), .val (.int dn), .val (.int o2), .val (.int ((((own_nz o0) + (own_nz o1)) + (own_nz o2)) + xs)), .unset] [(.int dn), (.int (own_nz o0))])) rfl (by rw [hml]; rfl) (argsL := [(.int dn)]) (rest := [(.int (own_nz o0))]) (lenOf pd_0_0 rfl) rfl (by show 2 * 0 + _ ≤ _; exact Nat.le_of_eq rfl) (hb hby at_264) (fun _ _ => ⟨rfl, K26, (by decide : 3 + 0 ≤ _), (by decide : 9 + 0 ≤ _)⟩)
    dsimp only [Pt.U, Pt.locs, Pt.cells, Pt.slots] at X27 l27 y27 z27 st27 hQ27
    subst l27 y27 z27
    obtain ⟨rfl, N27q, K27⟩ := hQ27
    have N27 := Fr.app N26 N27q
    refine own_st st27 ?_
    show own_Go p e below _ (T27.setTop (mkF m 267 #[.val (.int d0), .val (.int d1), .val (.int d2), .val (.int sl), .val (.int dd), .val (.int fz), .val (.int (1 : Int32)), .val (.int o0), .val (.int o1), .val (.int o2), .val (.int dn), .val (.int (((own_nz o0) + (own_nz o1)) + (own_nz o2))), .val (.ref dv), .val (.ref fv), .val (.ref sv), .val (.int o1), .val (.int d0), .val (.int o0), .val (.int dn), .val (.int o2), .val (.int ((((own_nz o0) + (own_nz o1)) + (own_nz o2)) + xs)), .unset] [(.int (own_nz dn)), (.int (own_nz o0))]))
    refine own_st (V := T27.setTop (mkF m 270 #[.val (.int d0), .val (.int d1), .val (.int d2), .val (.int sl), .val (.int dd), .val (.int fz), .val (.int (1 : Int32)), .val (.int o0), .val (.int o1), .val (.int o2), .val (.int dn), .val (.int (((own_nz o0) + (own_nz o1)) + (own_nz o2))), .val (.ref dv), .val (.ref fv), .val (.ref sv), .val (.int o1), .val (.int d0), .val (.int o0), .val (.int dn), .val (.int o2), .val (.int ((((own_nz o0) + (own_nz o1)) + (own_nz o2)) + xs)), .unset] [(.int o2), (.int ((own_nz o0) + (own_nz dn)))])) (fun tgt k => ?_) ?_
    · show Steps p.tables e below (T27.setTop (mkF m 267 #[.val (.int d0), .val (.int d1), .val (.int d2), .val (.int sl), .val (.int dd), .val (.int fz), .val (.int (1 : Int32)), .val (.int o0), .val (.int o1), .val (.int o2), .val (.int dn), .val (.int (((own_nz o0) + (own_nz o1)) + (own_nz o2))), .val (.ref dv), .val (.ref fv), .val (.ref sv), .val (.int o1), .val (.int d0), .val (.int o0), .val (.int dn), .val (.int o2), .val (.int ((((own_nz o0) + (own_nz o1)) + (own_nz o2)) + xs)), .unset] [(.int (own_nz dn)), (.int (own_nz o0))])) tgt
      refine XS.iadd X27.here hx rfl (hb hby at_267) rfl ?_
      show Steps p.tables e below (T27.setTop (mkF m 268 #[.val (.int d0), .val (.int d1), .val (.int d2), .val (.int sl), .val (.int dd), .val (.int fz), .val (.int (1 : Int32)), .val (.int o0), .val (.int o1), .val (.int o2), .val (.int dn), .val (.int (((own_nz o0) + (own_nz o1)) + (own_nz o2))), .val (.ref dv), .val (.ref fv), .val (.ref sv), .val (.int o1), .val (.int d0), .val (.int o0), .val (.int dn), .val (.int o2), .val (.int ((((own_nz o0) + (own_nz o1)) + (own_nz o2)) + xs)), .unset] [(.int ((own_nz o0) + (own_nz dn)))])) tgt
      refine XS.iload X27.here hx rfl (hb hby at_268) rfl ?_
      exact k
    obtain ⟨_, _, ⟨T28, L28, k28, n28⟩, -, X28, ⟨Lc28, hQ28, l28, y28, z28⟩, st28⟩ := Jvm.LawKit.callS X27 hx (y := (⟨"com/example/chainwright/chainwright/StateChoosePinLaw", "nz", "(I)I"⟩ : MethodName)) hown (mvT hZ (hw _ (List.mem_of_getElem? (i := 1) rfl))) (mvT hZ (hw _ (List.mem_of_getElem? (i := 2) rfl))) (mvT hZ (hw _ (List.mem_of_getElem? (i := 3) rfl))) (mvT hZ (hw _ (List.mem_of_getElem? (i := 4) rfl))) (by decide) (backOf (W := 1) (rm1 l Z a0 hw [] o2 T25.heap n0 Zs25 ) hZ (hw _ (List.mem_of_getElem? (i := 4) rfl)) (hw _ (List.mem_of_getElem? (i := 3) rfl)) (by decide) (by decide)) (g := (mkF m 270 #[.val (.int d0), .val (.int d1), .val (.int d2), .val (.int sl), .val (.int dd), .val (.int fz), .val (.int (1 : Int32)), .val (.int o0), .val (.int o1), .val (.int o2), .val (.int dn), .val (.int (((own_nz o0) + (own_nz o1)) + (own_nz o2))), .val (.ref dv), .val (.ref fv), .val (.ref sv), .val (.int o1), .val (.int d0), .val (.int o0), .val (.int dn), .val (.int o2), .val (.int ((((own_nz o0) + (own_nz o1)) + (own_nz o2)) + xs)), .unset] [(.int o2), (.int ((own_nz o0) + (own_nz dn)))])) rfl (by rw [hml]; rfl) (argsL := [(.int o2)]) (rest := [(.int ((own_nz o0) + (own_nz dn)))]) (lenOf pd_0_0 rfl) rfl (by show 2 * 0 + _ ≤ _; exact Nat.le_of_eq rfl) (hb hby at_270) (fun _ _ => ⟨rfl, K27, (by decide : 3 + 0 ≤ _), (by decide : 9 + 0 ≤ _)⟩)
    dsimp only [Pt.U, Pt.locs, Pt.cells, Pt.slots] at X28 l28 y28 z28 st28 hQ28
    subst l28 y28 z28
    obtain ⟨rfl, N28q, K28⟩ := hQ28
    have N28 := Fr.app N27 N28q
    refine own_st st28 ?_
    show own_Go p e below _ (T28.setTop (mkF m 273 #[.val (.int d0), .val (.int d1), .val (.int d2), .val (.int sl), .val (.int dd), .val (.int fz), .val (.int (1 : Int32)), .val (.int o0), .val (.int o1), .val (.int o2), .val (.int dn), .val (.int (((own_nz o0) + (own_nz o1)) + (own_nz o2))), .val (.ref dv), .val (.ref fv), .val (.ref sv), .val (.int o1), .val (.int d0), .val (.int o0), .val (.int dn), .val (.int o2), .val (.int ((((own_nz o0) + (own_nz o1)) + (own_nz o2)) + xs)), .unset] [(.int (own_nz o2)), (.int ((own_nz o0) + (own_nz dn)))]))
    refine own_st (V := T28.setTop (mkF m 279 #[.val (.int d0), .val (.int d1), .val (.int d2), .val (.int sl), .val (.int dd), .val (.int fz), .val (.int (1 : Int32)), .val (.int o0), .val (.int o1), .val (.int o2), .val (.int dn), .val (.int (((own_nz o0) + (own_nz o1)) + (own_nz o2))), .val (.ref dv), .val (.ref fv), .val (.ref sv), .val (.int o1), .val (.int d0), .val (.int o0), .val (.int dn), .val (.int o2), .val (.int ((((own_nz o0) + (own_nz o1)) + (own_nz o2)) + xs)), .val (.int (((own_nz o0) + (own_nz dn)) + (own_nz o2)))] [(.int (0 : Int32)), (.ref sv)])) (fun tgt k => ?_) ?_
    · show Steps p.tables e below (T28.setTop (mkF m 273 #[.val (.int d0), .val (.int d1), .val (.int d2), .val (.int sl), .val (.int dd), .val (.int fz), .val (.int (1 : Int32)), .val (.int o0), .val (.int o1), .val (.int o2), .val (.int dn), .val (.int (((own_nz o0) + (own_nz o1)) + (own_nz o2))), .val (.ref dv), .val (.ref fv), .val (.ref sv), .val (.int o1), .val (.int d0), .val (.int o0), .val (.int dn), .val (.int o2), .val (.int ((((own_nz o0) + (own_nz o1)) + (own_nz o2)) + xs)), .unset] [(.int (own_nz o2)), (.int ((own_nz o0) + (own_nz dn)))])) tgt
      refine XS.iadd X28.here hx rfl (hb hby at_273) rfl ?_
      show Steps p.tables e below (T28.setTop (mkF m 274 #[.val (.int d0), .val (.int d1), .val (.int d2), .val (.int sl), .val (.int dd), .val (.int fz), .val (.int (1 : Int32)), .val (.int o0), .val (.int o1), .val (.int o2), .val (.int dn), .val (.int (((own_nz o0) + (own_nz o1)) + (own_nz o2))), .val (.ref dv), .val (.ref fv), .val (.ref sv), .val (.int o1), .val (.int d0), .val (.int o0), .val (.int dn), .val (.int o2), .val (.int ((((own_nz o0) + (own_nz o1)) + (own_nz o2)) + xs)), .unset] [(.int (((own_nz o0) + (own_nz dn)) + (own_nz o2)))])) tgt
      refine XS.istore X28.here hx rfl (hb hby at_274) rfl (l' := #[.val (.int d0), .val (.int d1), .val (.int d2), .val (.int sl), .val (.int dd), .val (.int fz), .val (.int (1 : Int32)), .val (.int o0), .val (.int o1), .val (.int o2), .val (.int dn), .val (.int (((own_nz o0) + (own_nz o1)) + (own_nz o2))), .val (.ref dv), .val (.ref fv), .val (.ref sv), .val (.int o1), .val (.int d0), .val (.int o0), .val (.int dn), .val (.int o2), .val (.int ((((own_nz o0) + (own_nz o1)) + (own_nz o2)) + xs)), .val (.int (((own_nz o0) + (own_nz dn)) + (own_nz o2)))]) rfl ?_
      show Steps p.tables e below (T28.setTop (mkF m 276 #[.val (.int d0), .val (.int d1), .val (.int d2), .val (.int sl), .val (.int dd), .val (.int fz), .val (.int (1 : Int32)), .val (.int o0), .val (.int o1), .val (.int o2), .val (.int dn), .val (.int (((own_nz o0) + (own_nz o1)) + (own_nz o2))), .val (.ref dv), .val (.ref fv), .val (.ref sv), .val (.int o1), .val (.int d0), .val (.int o0), .val (.int dn), .val (.int o2), .val (.int ((((own_nz o0) + (own_nz o1)) + (own_nz o2)) + xs)), .val (.int (((own_nz o0) + (own_nz dn)) + (own_nz o2)))] [])) tgt
      refine XS.aload X28.here hx rfl (hb hby at_276) rfl rfl ?_
      show Steps p.tables e below (T28.setTop (mkF m 278 #[.val (.int d0), .val (.int d1), .val (.int d2), .val (.int sl), .val (.int dd), .val (.int fz), .val (.int (1 : Int32)), .val (.int o0), .val (.int o1), .val (.int o2), .val (.int dn), .val (.int (((own_nz o0) + (own_nz o1)) + (own_nz o2))), .val (.ref dv), .val (.ref fv), .val (.ref sv), .val (.int o1), .val (.int d0), .val (.int o0), .val (.int dn), .val (.int o2), .val (.int ((((own_nz o0) + (own_nz o1)) + (own_nz o2)) + xs)), .val (.int (((own_nz o0) + (own_nz dn)) + (own_nz o2)))] [(.ref sv)])) tgt
      refine XS.iconst X28.here hx rfl (hb hby at_278) ?_
      exact k
    obtain ⟨cq29, kq29, q29a, q29b, q29c⟩ := isOf hZ K28 g25_0
    obtain ⟨_, _, ⟨T29, L29, k29, n29⟩, -, X29, ⟨Lc29, hQ29, l29, y29, z29⟩, st29⟩ := X28.virtualBack hx (y := (⟨"com/example/chainwright/chainwright/State", "deadline", "(I)I"⟩ : MethodName)) (z := (⟨"com/example/chainwright/chainwright/State", "deadline", "(I)I"⟩ : MethodName)) hown (mvT hZ (hw _ (List.mem_of_getElem? (i := 31) rfl))) (mvT hZ (hw _ (List.mem_of_getElem? (i := 32) rfl))) (notFace_of_selects (args := #[]) (mvT hZ (hw _ (List.mem_of_getElem? (i := 34) rfl)))) (mvT hZ (hw _ (List.mem_of_getElem? (i := 34) rfl))) (mvT hZ (hw _ (List.mem_of_getElem? (i := 33) rfl))) (by decide) (backOf (W := 0) (rm6 l Z a0 hw [] sv (0 : Int32) dv 3 (own_up (own_up (own_up (own_up (fun _ => 0) 0 o0) 1 o1) 2 o2) 1 dn) 0 T25.heap n0 Zs25 g25_1 g25_4 (by first | assumption | decide | rfl) (by first | assumption | decide | rfl)) hZ (hw _ (List.mem_of_getElem? (i := 35) rfl)) (hw _ (List.mem_of_getElem? (i := 8) rfl)) (by decide) (by decide)) q29a q29c (g := (mkF m 279 #[.val (.int d0), .val (.int d1), .val (.int d2), .val (.int sl), .val (.int dd), .val (.int fz), .val (.int (1 : Int32)), .val (.int o0), .val (.int o1), .val (.int o2), .val (.int dn), .val (.int (((own_nz o0) + (own_nz o1)) + (own_nz o2))), .val (.ref dv), .val (.ref fv), .val (.ref sv), .val (.int o1), .val (.int d0), .val (.int o0), .val (.int dn), .val (.int o2), .val (.int ((((own_nz o0) + (own_nz o1)) + (own_nz o2)) + xs)), .val (.int (((own_nz o0) + (own_nz dn)) + (own_nz o2)))] [(.int (0 : Int32)), (.ref sv)])) rfl (by rw [hml]; rfl) (Steps.refl _) (argsL := [(.int (0 : Int32))]) (rest := []) (lenOf pd_0_0 rfl) rfl (by show 2 * 0 + _ ≤ _; exact Nat.le_of_eq rfl) (hb hby at_279) (fun _ _ => ⟨rfl, K28, (by decide : 3 + 0 ≤ _), (by decide : 9 + 0 ≤ _)⟩)
    dsimp only [Pt.U, Pt.locs, Pt.cells, Pt.slots] at X29 l29 y29 z29 st29 hQ29
    subst l29 y29 z29
    obtain ⟨rfl, N29q, K29⟩ := hQ29
    have N29 := Fr.app N28 N29q
    refine own_st (fun tgt k => st29.trans k) ?_
    show own_Go p e below _ (T29.setTop (mkF m 282 #[.val (.int d0), .val (.int d1), .val (.int d2), .val (.int sl), .val (.int dd), .val (.int fz), .val (.int (1 : Int32)), .val (.int o0), .val (.int o1), .val (.int o2), .val (.int dn), .val (.int (((own_nz o0) + (own_nz o1)) + (own_nz o2))), .val (.ref dv), .val (.ref fv), .val (.ref sv), .val (.int o1), .val (.int d0), .val (.int o0), .val (.int dn), .val (.int o2), .val (.int ((((own_nz o0) + (own_nz o1)) + (own_nz o2)) + xs)), .val (.int (((own_nz o0) + (own_nz dn)) + (own_nz o2)))] [(.int ((own_up (own_up (own_up (own_up (fun _ => 0) 0 o0) 1 o1) 2 o2) 1 dn) 0))]))
    refine own_st (V := T29.setTop (mkF m 290 #[.val (.int d0), .val (.int d1), .val (.int d2), .val (.int sl), .val (.int dd), .val (.int fz), .val (.int (1 : Int32)), .val (.int o0), .val (.int o1), .val (.int o2), .val (.int dn), .val (.int (((own_nz o0) + (own_nz o1)) + (own_nz o2))), .val (.ref dv), .val (.ref fv), .val (.ref sv), .val (.int o1), .val (.int d0), .val (.int o0), .val (.int dn), .val (.int o2), .val (.int ((((own_nz o0) + (own_nz o1)) + (own_nz o2)) + xs)), .val (.int (((own_nz o0) + (own_nz dn)) + (own_nz o2)))] [(.int (1 : Int32)), (.ref sv)])) (fun tgt k => ?_) ?_
    · show Steps p.tables e below (T29.setTop (mkF m 282 #[.val (.int d0), .val (.int d1), .val (.int d2), .val (.int sl), .val (.int dd), .val (.int fz), .val (.int (1 : Int32)), .val (.int o0), .val (.int o1), .val (.int o2), .val (.int dn), .val (.int (((own_nz o0) + (own_nz o1)) + (own_nz o2))), .val (.ref dv), .val (.ref fv), .val (.ref sv), .val (.int o1), .val (.int d0), .val (.int o0), .val (.int dn), .val (.int o2), .val (.int ((((own_nz o0) + (own_nz o1)) + (own_nz o2)) + xs)), .val (.int (((own_nz o0) + (own_nz dn)) + (own_nz o2)))] [(.int ((own_up (own_up (own_up (own_up (fun _ => 0) 0 o0) 1 o1) 2 o2) 1 dn) 0))])) tgt
      refine XS.iload X29.here hx rfl (hb hby at_282) rfl ?_
      show Steps p.tables e below (T29.setTop (mkF m 284 #[.val (.int d0), .val (.int d1), .val (.int d2), .val (.int sl), .val (.int dd), .val (.int fz), .val (.int (1 : Int32)), .val (.int o0), .val (.int o1), .val (.int o2), .val (.int dn), .val (.int (((own_nz o0) + (own_nz o1)) + (own_nz o2))), .val (.ref dv), .val (.ref fv), .val (.ref sv), .val (.int o1), .val (.int d0), .val (.int o0), .val (.int dn), .val (.int o2), .val (.int ((((own_nz o0) + (own_nz o1)) + (own_nz o2)) + xs)), .val (.int (((own_nz o0) + (own_nz dn)) + (own_nz o2)))] [(.int o0), (.int ((own_up (own_up (own_up (own_up (fun _ => 0) 0 o0) 1 o1) 2 o2) 1 dn) 0))])) tgt
      refine XS.icmpNo X29.here hx rfl (hb hby at_284) rfl (teq (by simp [own_up])).2 ?_
      show Steps p.tables e below (T29.setTop (mkF m 287 #[.val (.int d0), .val (.int d1), .val (.int d2), .val (.int sl), .val (.int dd), .val (.int fz), .val (.int (1 : Int32)), .val (.int o0), .val (.int o1), .val (.int o2), .val (.int dn), .val (.int (((own_nz o0) + (own_nz o1)) + (own_nz o2))), .val (.ref dv), .val (.ref fv), .val (.ref sv), .val (.int o1), .val (.int d0), .val (.int o0), .val (.int dn), .val (.int o2), .val (.int ((((own_nz o0) + (own_nz o1)) + (own_nz o2)) + xs)), .val (.int (((own_nz o0) + (own_nz dn)) + (own_nz o2)))] [])) tgt
      refine XS.aload X29.here hx rfl (hb hby at_287) rfl rfl ?_
      show Steps p.tables e below (T29.setTop (mkF m 289 #[.val (.int d0), .val (.int d1), .val (.int d2), .val (.int sl), .val (.int dd), .val (.int fz), .val (.int (1 : Int32)), .val (.int o0), .val (.int o1), .val (.int o2), .val (.int dn), .val (.int (((own_nz o0) + (own_nz o1)) + (own_nz o2))), .val (.ref dv), .val (.ref fv), .val (.ref sv), .val (.int o1), .val (.int d0), .val (.int o0), .val (.int dn), .val (.int o2), .val (.int ((((own_nz o0) + (own_nz o1)) + (own_nz o2)) + xs)), .val (.int (((own_nz o0) + (own_nz dn)) + (own_nz o2)))] [(.ref sv)])) tgt
      refine XS.iconst X29.here hx rfl (hb hby at_289) ?_
      exact k
    obtain ⟨cq30, kq30, q30a, q30b, q30c⟩ := isOf hZ K29 g25_0
    obtain ⟨_, _, ⟨T30, L30, k30, n30⟩, -, X30, ⟨Lc30, hQ30, l30, y30, z30⟩, st30⟩ := X29.virtualBack hx (y := (⟨"com/example/chainwright/chainwright/State", "deadline", "(I)I"⟩ : MethodName)) (z := (⟨"com/example/chainwright/chainwright/State", "deadline", "(I)I"⟩ : MethodName)) hown (mvT hZ (hw _ (List.mem_of_getElem? (i := 31) rfl))) (mvT hZ (hw _ (List.mem_of_getElem? (i := 32) rfl))) (notFace_of_selects (args := #[]) (mvT hZ (hw _ (List.mem_of_getElem? (i := 34) rfl)))) (mvT hZ (hw _ (List.mem_of_getElem? (i := 34) rfl))) (mvT hZ (hw _ (List.mem_of_getElem? (i := 33) rfl))) (by decide) (backOf (W := 0) (rm6 l Z a0 hw [] sv (1 : Int32) dv 3 (own_up (own_up (own_up (own_up (fun _ => 0) 0 o0) 1 o1) 2 o2) 1 dn) 1 T25.heap n0 Zs25 g25_1 g25_4 (by first | assumption | decide | rfl) (by first | assumption | decide | rfl)) hZ (hw _ (List.mem_of_getElem? (i := 35) rfl)) (hw _ (List.mem_of_getElem? (i := 8) rfl)) (by decide) (by decide)) q30a q30c (g := (mkF m 290 #[.val (.int d0), .val (.int d1), .val (.int d2), .val (.int sl), .val (.int dd), .val (.int fz), .val (.int (1 : Int32)), .val (.int o0), .val (.int o1), .val (.int o2), .val (.int dn), .val (.int (((own_nz o0) + (own_nz o1)) + (own_nz o2))), .val (.ref dv), .val (.ref fv), .val (.ref sv), .val (.int o1), .val (.int d0), .val (.int o0), .val (.int dn), .val (.int o2), .val (.int ((((own_nz o0) + (own_nz o1)) + (own_nz o2)) + xs)), .val (.int (((own_nz o0) + (own_nz dn)) + (own_nz o2)))] [(.int (1 : Int32)), (.ref sv)])) rfl (by rw [hml]; rfl) (Steps.refl _) (argsL := [(.int (1 : Int32))]) (rest := []) (lenOf pd_0_0 rfl) rfl (by show 2 * 0 + _ ≤ _; exact Nat.le_of_eq rfl) (hb hby at_290) (fun _ _ => ⟨rfl, K29, (by decide : 3 + 0 ≤ _), (by decide : 9 + 0 ≤ _)⟩)
    dsimp only [Pt.U, Pt.locs, Pt.cells, Pt.slots] at X30 l30 y30 z30 st30 hQ30
    subst l30 y30 z30
    obtain ⟨rfl, N30q, K30⟩ := hQ30
    have N30 := Fr.app N29 N30q
    refine own_st (fun tgt k => st30.trans k) ?_
    show own_Go p e below _ (T30.setTop (mkF m 293 #[.val (.int d0), .val (.int d1), .val (.int d2), .val (.int sl), .val (.int dd), .val (.int fz), .val (.int (1 : Int32)), .val (.int o0), .val (.int o1), .val (.int o2), .val (.int dn), .val (.int (((own_nz o0) + (own_nz o1)) + (own_nz o2))), .val (.ref dv), .val (.ref fv), .val (.ref sv), .val (.int o1), .val (.int d0), .val (.int o0), .val (.int dn), .val (.int o2), .val (.int ((((own_nz o0) + (own_nz o1)) + (own_nz o2)) + xs)), .val (.int (((own_nz o0) + (own_nz dn)) + (own_nz o2)))] [(.int ((own_up (own_up (own_up (own_up (fun _ => 0) 0 o0) 1 o1) 2 o2) 1 dn) 1))]))
    refine own_st (V := T30.setTop (mkF m 301 #[.val (.int d0), .val (.int d1), .val (.int d2), .val (.int sl), .val (.int dd), .val (.int fz), .val (.int (1 : Int32)), .val (.int o0), .val (.int o1), .val (.int o2), .val (.int dn), .val (.int (((own_nz o0) + (own_nz o1)) + (own_nz o2))), .val (.ref dv), .val (.ref fv), .val (.ref sv), .val (.int o1), .val (.int d0), .val (.int o0), .val (.int dn), .val (.int o2), .val (.int ((((own_nz o0) + (own_nz o1)) + (own_nz o2)) + xs)), .val (.int (((own_nz o0) + (own_nz dn)) + (own_nz o2)))] [(.int (2 : Int32)), (.ref sv)])) (fun tgt k => ?_) ?_
    · show Steps p.tables e below (T30.setTop (mkF m 293 #[.val (.int d0), .val (.int d1), .val (.int d2), .val (.int sl), .val (.int dd), .val (.int fz), .val (.int (1 : Int32)), .val (.int o0), .val (.int o1), .val (.int o2), .val (.int dn), .val (.int (((own_nz o0) + (own_nz o1)) + (own_nz o2))), .val (.ref dv), .val (.ref fv), .val (.ref sv), .val (.int o1), .val (.int d0), .val (.int o0), .val (.int dn), .val (.int o2), .val (.int ((((own_nz o0) + (own_nz o1)) + (own_nz o2)) + xs)), .val (.int (((own_nz o0) + (own_nz dn)) + (own_nz o2)))] [(.int ((own_up (own_up (own_up (own_up (fun _ => 0) 0 o0) 1 o1) 2 o2) 1 dn) 1))])) tgt
      refine XS.iload X30.here hx rfl (hb hby at_293) rfl ?_
      show Steps p.tables e below (T30.setTop (mkF m 295 #[.val (.int d0), .val (.int d1), .val (.int d2), .val (.int sl), .val (.int dd), .val (.int fz), .val (.int (1 : Int32)), .val (.int o0), .val (.int o1), .val (.int o2), .val (.int dn), .val (.int (((own_nz o0) + (own_nz o1)) + (own_nz o2))), .val (.ref dv), .val (.ref fv), .val (.ref sv), .val (.int o1), .val (.int d0), .val (.int o0), .val (.int dn), .val (.int o2), .val (.int ((((own_nz o0) + (own_nz o1)) + (own_nz o2)) + xs)), .val (.int (((own_nz o0) + (own_nz dn)) + (own_nz o2)))] [(.int dn), (.int ((own_up (own_up (own_up (own_up (fun _ => 0) 0 o0) 1 o1) 2 o2) 1 dn) 1))])) tgt
      refine XS.icmpNo X30.here hx rfl (hb hby at_295) rfl (teq (by simp [own_up])).2 ?_
      show Steps p.tables e below (T30.setTop (mkF m 298 #[.val (.int d0), .val (.int d1), .val (.int d2), .val (.int sl), .val (.int dd), .val (.int fz), .val (.int (1 : Int32)), .val (.int o0), .val (.int o1), .val (.int o2), .val (.int dn), .val (.int (((own_nz o0) + (own_nz o1)) + (own_nz o2))), .val (.ref dv), .val (.ref fv), .val (.ref sv), .val (.int o1), .val (.int d0), .val (.int o0), .val (.int dn), .val (.int o2), .val (.int ((((own_nz o0) + (own_nz o1)) + (own_nz o2)) + xs)), .val (.int (((own_nz o0) + (own_nz dn)) + (own_nz o2)))] [])) tgt
      refine XS.aload X30.here hx rfl (hb hby at_298) rfl rfl ?_
      show Steps p.tables e below (T30.setTop (mkF m 300 #[.val (.int d0), .val (.int d1), .val (.int d2), .val (.int sl), .val (.int dd), .val (.int fz), .val (.int (1 : Int32)), .val (.int o0), .val (.int o1), .val (.int o2), .val (.int dn), .val (.int (((own_nz o0) + (own_nz o1)) + (own_nz o2))), .val (.ref dv), .val (.ref fv), .val (.ref sv), .val (.int o1), .val (.int d0), .val (.int o0), .val (.int dn), .val (.int o2), .val (.int ((((own_nz o0) + (own_nz o1)) + (own_nz o2)) + xs)), .val (.int (((own_nz o0) + (own_nz dn)) + (own_nz o2)))] [(.ref sv)])) tgt
      refine XS.iconst X30.here hx rfl (hb hby at_300) ?_
      exact k
    obtain ⟨cq31, kq31, q31a, q31b, q31c⟩ := isOf hZ K30 g25_0
    obtain ⟨_, _, ⟨T31, L31, k31, n31⟩, -, X31, ⟨Lc31, hQ31, l31, y31, z31⟩, st31⟩ := X30.virtualBack hx (y := (⟨"com/example/chainwright/chainwright/State", "deadline", "(I)I"⟩ : MethodName)) (z := (⟨"com/example/chainwright/chainwright/State", "deadline", "(I)I"⟩ : MethodName)) hown (mvT hZ (hw _ (List.mem_of_getElem? (i := 31) rfl))) (mvT hZ (hw _ (List.mem_of_getElem? (i := 32) rfl))) (notFace_of_selects (args := #[]) (mvT hZ (hw _ (List.mem_of_getElem? (i := 34) rfl)))) (mvT hZ (hw _ (List.mem_of_getElem? (i := 34) rfl))) (mvT hZ (hw _ (List.mem_of_getElem? (i := 33) rfl))) (by decide) (backOf (W := 0) (rm6 l Z a0 hw [] sv (2 : Int32) dv 3 (own_up (own_up (own_up (own_up (fun _ => 0) 0 o0) 1 o1) 2 o2) 1 dn) 2 T25.heap n0 Zs25 g25_1 g25_4 (by first | assumption | decide | rfl) (by first | assumption | decide | rfl)) hZ (hw _ (List.mem_of_getElem? (i := 35) rfl)) (hw _ (List.mem_of_getElem? (i := 8) rfl)) (by decide) (by decide)) q31a q31c (g := (mkF m 301 #[.val (.int d0), .val (.int d1), .val (.int d2), .val (.int sl), .val (.int dd), .val (.int fz), .val (.int (1 : Int32)), .val (.int o0), .val (.int o1), .val (.int o2), .val (.int dn), .val (.int (((own_nz o0) + (own_nz o1)) + (own_nz o2))), .val (.ref dv), .val (.ref fv), .val (.ref sv), .val (.int o1), .val (.int d0), .val (.int o0), .val (.int dn), .val (.int o2), .val (.int ((((own_nz o0) + (own_nz o1)) + (own_nz o2)) + xs)), .val (.int (((own_nz o0) + (own_nz dn)) + (own_nz o2)))] [(.int (2 : Int32)), (.ref sv)])) rfl (by rw [hml]; rfl) (Steps.refl _) (argsL := [(.int (2 : Int32))]) (rest := []) (lenOf pd_0_0 rfl) rfl (by show 2 * 0 + _ ≤ _; exact Nat.le_of_eq rfl) (hb hby at_301) (fun _ _ => ⟨rfl, K30, (by decide : 3 + 0 ≤ _), (by decide : 9 + 0 ≤ _)⟩)
    dsimp only [Pt.U, Pt.locs, Pt.cells, Pt.slots] at X31 l31 y31 z31 st31 hQ31
    subst l31 y31 z31
    obtain ⟨rfl, N31q, K31⟩ := hQ31
    have N31 := Fr.app N30 N31q
    refine own_st (fun tgt k => st31.trans k) ?_
    show own_Go p e below _ (T31.setTop (mkF m 304 #[.val (.int d0), .val (.int d1), .val (.int d2), .val (.int sl), .val (.int dd), .val (.int fz), .val (.int (1 : Int32)), .val (.int o0), .val (.int o1), .val (.int o2), .val (.int dn), .val (.int (((own_nz o0) + (own_nz o1)) + (own_nz o2))), .val (.ref dv), .val (.ref fv), .val (.ref sv), .val (.int o1), .val (.int d0), .val (.int o0), .val (.int dn), .val (.int o2), .val (.int ((((own_nz o0) + (own_nz o1)) + (own_nz o2)) + xs)), .val (.int (((own_nz o0) + (own_nz dn)) + (own_nz o2)))] [(.int ((own_up (own_up (own_up (own_up (fun _ => 0) 0 o0) 1 o1) 2 o2) 1 dn) 2))]))
    refine own_st (V := T31.setTop (mkF m 311 #[.val (.int d0), .val (.int d1), .val (.int d2), .val (.int sl), .val (.int dd), .val (.int fz), .val (.int (1 : Int32)), .val (.int o0), .val (.int o1), .val (.int o2), .val (.int dn), .val (.int (((own_nz o0) + (own_nz o1)) + (own_nz o2))), .val (.ref dv), .val (.ref fv), .val (.ref sv), .val (.int o1), .val (.int d0), .val (.int o0), .val (.int dn), .val (.int o2), .val (.int ((((own_nz o0) + (own_nz o1)) + (own_nz o2)) + xs)), .val (.int (((own_nz o0) + (own_nz dn)) + (own_nz o2)))] [(.ref sv)])) (fun tgt k => ?_) ?_
    · show Steps p.tables e below (T31.setTop (mkF m 304 #[.val (.int d0), .val (.int d1), .val (.int d2), .val (.int sl), .val (.int dd), .val (.int fz), .val (.int (1 : Int32)), .val (.int o0), .val (.int o1), .val (.int o2), .val (.int dn), .val (.int (((own_nz o0) + (own_nz o1)) + (own_nz o2))), .val (.ref dv), .val (.ref fv), .val (.ref sv), .val (.int o1), .val (.int d0), .val (.int o0), .val (.int dn), .val (.int o2), .val (.int ((((own_nz o0) + (own_nz o1)) + (own_nz o2)) + xs)), .val (.int (((own_nz o0) + (own_nz dn)) + (own_nz o2)))] [(.int ((own_up (own_up (own_up (own_up (fun _ => 0) 0 o0) 1 o1) 2 o2) 1 dn) 2))])) tgt
      refine XS.iload X31.here hx rfl (hb hby at_304) rfl ?_
      show Steps p.tables e below (T31.setTop (mkF m 306 #[.val (.int d0), .val (.int d1), .val (.int d2), .val (.int sl), .val (.int dd), .val (.int fz), .val (.int (1 : Int32)), .val (.int o0), .val (.int o1), .val (.int o2), .val (.int dn), .val (.int (((own_nz o0) + (own_nz o1)) + (own_nz o2))), .val (.ref dv), .val (.ref fv), .val (.ref sv), .val (.int o1), .val (.int d0), .val (.int o0), .val (.int dn), .val (.int o2), .val (.int ((((own_nz o0) + (own_nz o1)) + (own_nz o2)) + xs)), .val (.int (((own_nz o0) + (own_nz dn)) + (own_nz o2)))] [(.int o2), (.int ((own_up (own_up (own_up (own_up (fun _ => 0) 0 o0) 1 o1) 2 o2) 1 dn) 2))])) tgt
      refine XS.icmpNo X31.here hx rfl (hb hby at_306) rfl (teq (by simp [own_up])).2 ?_
      show Steps p.tables e below (T31.setTop (mkF m 309 #[.val (.int d0), .val (.int d1), .val (.int d2), .val (.int sl), .val (.int dd), .val (.int fz), .val (.int (1 : Int32)), .val (.int o0), .val (.int o1), .val (.int o2), .val (.int dn), .val (.int (((own_nz o0) + (own_nz o1)) + (own_nz o2))), .val (.ref dv), .val (.ref fv), .val (.ref sv), .val (.int o1), .val (.int d0), .val (.int o0), .val (.int dn), .val (.int o2), .val (.int ((((own_nz o0) + (own_nz o1)) + (own_nz o2)) + xs)), .val (.int (((own_nz o0) + (own_nz dn)) + (own_nz o2)))] [])) tgt
      refine XS.aload X31.here hx rfl (hb hby at_309) rfl rfl ?_
      exact k
    obtain ⟨cq32, kq32, q32a, q32b, q32c⟩ := isOf hZ K31 g25_0
    obtain ⟨_, _, ⟨T32, L32, k32, n32⟩, -, X32, ⟨Lc32, hQ32, l32, y32, z32⟩, st32⟩ := X31.virtualBack hx (y := (⟨"com/example/chainwright/chainwright/State", "size", "()I"⟩ : MethodName)) (z := (⟨"com/example/chainwright/chainwright/State", "size", "()I"⟩ : MethodName)) hown (mvT hZ (hw _ (List.mem_of_getElem? (i := 36) rfl))) (mvT hZ (hw _ (List.mem_of_getElem? (i := 37) rfl))) (notFace_of_selects (args := #[]) (mvT hZ (hw _ (List.mem_of_getElem? (i := 39) rfl)))) (mvT hZ (hw _ (List.mem_of_getElem? (i := 39) rfl))) (mvT hZ (hw _ (List.mem_of_getElem? (i := 38) rfl))) (by decide) (backOf (W := 0) (rm7 l Z a0 hw [] sv (if (own_up (own_up (own_up (fun _ => 0) 0 o0) 1 o1) 2 o2) 1 = 0 then (((own_nz o0) + (own_nz o1)) + (own_nz o2)) + (1 : Int32) else (((own_nz o0) + (own_nz o1)) + (own_nz o2))) T25.heap n0 Zs25 g25_3) hZ (hw _ (List.mem_of_getElem? (i := 40) rfl)) (hw _ (List.mem_of_getElem? (i := 8) rfl)) (by decide) (by decide)) q32a q32c (g := (mkF m 311 #[.val (.int d0), .val (.int d1), .val (.int d2), .val (.int sl), .val (.int dd), .val (.int fz), .val (.int (1 : Int32)), .val (.int o0), .val (.int o1), .val (.int o2), .val (.int dn), .val (.int (((own_nz o0) + (own_nz o1)) + (own_nz o2))), .val (.ref dv), .val (.ref fv), .val (.ref sv), .val (.int o1), .val (.int d0), .val (.int o0), .val (.int dn), .val (.int o2), .val (.int ((((own_nz o0) + (own_nz o1)) + (own_nz o2)) + xs)), .val (.int (((own_nz o0) + (own_nz dn)) + (own_nz o2)))] [(.ref sv)])) rfl (by rw [hml]; rfl) (Steps.refl _) (argsL := []) (rest := []) (lenOf pd_0_3 rfl) rfl (by show 2 * 0 + _ ≤ _; exact Nat.le_of_eq rfl) (hb hby at_311) (fun _ _ => ⟨rfl, K31, (by decide : 3 + 0 ≤ _), (by decide : 9 + 0 ≤ _)⟩)
    dsimp only [Pt.U, Pt.locs, Pt.cells, Pt.slots] at X32 l32 y32 z32 st32 hQ32
    subst l32 y32 z32
    obtain ⟨rfl, N32q, K32⟩ := hQ32
    have N32 := Fr.app N31 N32q
    refine own_st (fun tgt k => st32.trans k) ?_
    show own_Go p e below _ (T32.setTop (mkF m 314 #[.val (.int d0), .val (.int d1), .val (.int d2), .val (.int sl), .val (.int dd), .val (.int fz), .val (.int (1 : Int32)), .val (.int o0), .val (.int o1), .val (.int o2), .val (.int dn), .val (.int (((own_nz o0) + (own_nz o1)) + (own_nz o2))), .val (.ref dv), .val (.ref fv), .val (.ref sv), .val (.int o1), .val (.int d0), .val (.int o0), .val (.int dn), .val (.int o2), .val (.int ((((own_nz o0) + (own_nz o1)) + (own_nz o2)) + xs)), .val (.int (((own_nz o0) + (own_nz dn)) + (own_nz o2)))] [(.int (if (own_up (own_up (own_up (fun _ => 0) 0 o0) 1 o1) 2 o2) 1 = 0 then (((own_nz o0) + (own_nz o1)) + (own_nz o2)) + (1 : Int32) else (((own_nz o0) + (own_nz o1)) + (own_nz o2))))]))
    refine own_st (V := T32.setTop (mkF m 330 #[.val (.int d0), .val (.int d1), .val (.int d2), .val (.int sl), .val (.int dd), .val (.int fz), .val (.int (1 : Int32)), .val (.int o0), .val (.int o1), .val (.int o2), .val (.int dn), .val (.int (((own_nz o0) + (own_nz o1)) + (own_nz o2))), .val (.ref dv), .val (.ref fv), .val (.ref sv), .val (.int o1), .val (.int d0), .val (.int o0), .val (.int dn), .val (.int o2), .val (.int ((((own_nz o0) + (own_nz o1)) + (own_nz o2)) + xs)), .val (.int (((own_nz o0) + (own_nz dn)) + (own_nz o2)))] [(.int (1 : Int32)), (.ref sv)])) (fun tgt k => ?_) ?_
    · show Steps p.tables e below (T32.setTop (mkF m 314 #[.val (.int d0), .val (.int d1), .val (.int d2), .val (.int sl), .val (.int dd), .val (.int fz), .val (.int (1 : Int32)), .val (.int o0), .val (.int o1), .val (.int o2), .val (.int dn), .val (.int (((own_nz o0) + (own_nz o1)) + (own_nz o2))), .val (.ref dv), .val (.ref fv), .val (.ref sv), .val (.int o1), .val (.int d0), .val (.int o0), .val (.int dn), .val (.int o2), .val (.int ((((own_nz o0) + (own_nz o1)) + (own_nz o2)) + xs)), .val (.int (((own_nz o0) + (own_nz dn)) + (own_nz o2)))] [(.int (if (own_up (own_up (own_up (fun _ => 0) 0 o0) 1 o1) 2 o2) 1 = 0 then (((own_nz o0) + (own_nz o1)) + (own_nz o2)) + (1 : Int32) else (((own_nz o0) + (own_nz o1)) + (own_nz o2))))])) tgt
      refine XS.iload X32.here hx rfl (hb hby at_314) rfl ?_
      show Steps p.tables e below (T32.setTop (mkF m 316 #[.val (.int d0), .val (.int d1), .val (.int d2), .val (.int sl), .val (.int dd), .val (.int fz), .val (.int (1 : Int32)), .val (.int o0), .val (.int o1), .val (.int o2), .val (.int dn), .val (.int (((own_nz o0) + (own_nz o1)) + (own_nz o2))), .val (.ref dv), .val (.ref fv), .val (.ref sv), .val (.int o1), .val (.int d0), .val (.int o0), .val (.int dn), .val (.int o2), .val (.int ((((own_nz o0) + (own_nz o1)) + (own_nz o2)) + xs)), .val (.int (((own_nz o0) + (own_nz dn)) + (own_nz o2)))] [(.int ((((own_nz o0) + (own_nz o1)) + (own_nz o2)) + xs)), (.int (if (own_up (own_up (own_up (fun _ => 0) 0 o0) 1 o1) 2 o2) 1 = 0 then (((own_nz o0) + (own_nz o1)) + (own_nz o2)) + (1 : Int32) else (((own_nz o0) + (own_nz o1)) + (own_nz o2))))])) tgt
      refine XS.icmpNo X32.here hx rfl (hb hby at_316) rfl (teq (by rw [hxs]; by_cases q9 : o1 = 0 <;> simp [own_up, q9])).2 ?_
      show Steps p.tables e below (T32.setTop (mkF m 319 #[.val (.int d0), .val (.int d1), .val (.int d2), .val (.int sl), .val (.int dd), .val (.int fz), .val (.int (1 : Int32)), .val (.int o0), .val (.int o1), .val (.int o2), .val (.int dn), .val (.int (((own_nz o0) + (own_nz o1)) + (own_nz o2))), .val (.ref dv), .val (.ref fv), .val (.ref sv), .val (.int o1), .val (.int d0), .val (.int o0), .val (.int dn), .val (.int o2), .val (.int ((((own_nz o0) + (own_nz o1)) + (own_nz o2)) + xs)), .val (.int (((own_nz o0) + (own_nz dn)) + (own_nz o2)))] [])) tgt
      refine XS.iload X32.here hx rfl (hb hby at_319) rfl ?_
      show Steps p.tables e below (T32.setTop (mkF m 321 #[.val (.int d0), .val (.int d1), .val (.int d2), .val (.int sl), .val (.int dd), .val (.int fz), .val (.int (1 : Int32)), .val (.int o0), .val (.int o1), .val (.int o2), .val (.int dn), .val (.int (((own_nz o0) + (own_nz o1)) + (own_nz o2))), .val (.ref dv), .val (.ref fv), .val (.ref sv), .val (.int o1), .val (.int d0), .val (.int o0), .val (.int dn), .val (.int o2), .val (.int ((((own_nz o0) + (own_nz o1)) + (own_nz o2)) + xs)), .val (.int (((own_nz o0) + (own_nz dn)) + (own_nz o2)))] [(.int ((((own_nz o0) + (own_nz o1)) + (own_nz o2)) + xs))])) tgt
      refine XS.iload X32.here hx rfl (hb hby at_321) rfl ?_
      show Steps p.tables e below (T32.setTop (mkF m 323 #[.val (.int d0), .val (.int d1), .val (.int d2), .val (.int sl), .val (.int dd), .val (.int fz), .val (.int (1 : Int32)), .val (.int o0), .val (.int o1), .val (.int o2), .val (.int dn), .val (.int (((own_nz o0) + (own_nz o1)) + (own_nz o2))), .val (.ref dv), .val (.ref fv), .val (.ref sv), .val (.int o1), .val (.int d0), .val (.int o0), .val (.int dn), .val (.int o2), .val (.int ((((own_nz o0) + (own_nz o1)) + (own_nz o2)) + xs)), .val (.int (((own_nz o0) + (own_nz dn)) + (own_nz o2)))] [(.int (((own_nz o0) + (own_nz dn)) + (own_nz o2))), (.int ((((own_nz o0) + (own_nz o1)) + (own_nz o2)) + xs))])) tgt
      refine XS.icmpNo X32.here hx rfl (hb hby at_323) rfl (teq (by rw [hxs]; exact own_cnt1 o0 o1 o2 dn hdn0)).2 ?_
      show Steps p.tables e below (T32.setTop (mkF m 326 #[.val (.int d0), .val (.int d1), .val (.int d2), .val (.int sl), .val (.int dd), .val (.int fz), .val (.int (1 : Int32)), .val (.int o0), .val (.int o1), .val (.int o2), .val (.int dn), .val (.int (((own_nz o0) + (own_nz o1)) + (own_nz o2))), .val (.ref dv), .val (.ref fv), .val (.ref sv), .val (.int o1), .val (.int d0), .val (.int o0), .val (.int dn), .val (.int o2), .val (.int ((((own_nz o0) + (own_nz o1)) + (own_nz o2)) + xs)), .val (.int (((own_nz o0) + (own_nz dn)) + (own_nz o2)))] [])) tgt
      refine XS.aload X32.here hx rfl (hb hby at_326) rfl rfl ?_
      show Steps p.tables e below (T32.setTop (mkF m 328 #[.val (.int d0), .val (.int d1), .val (.int d2), .val (.int sl), .val (.int dd), .val (.int fz), .val (.int (1 : Int32)), .val (.int o0), .val (.int o1), .val (.int o2), .val (.int dn), .val (.int (((own_nz o0) + (own_nz o1)) + (own_nz o2))), .val (.ref dv), .val (.ref fv), .val (.ref sv), .val (.int o1), .val (.int d0), .val (.int o0), .val (.int dn), .val (.int o2), .val (.int ((((own_nz o0) + (own_nz o1)) + (own_nz o2)) + xs)), .val (.int (((own_nz o0) + (own_nz dn)) + (own_nz o2)))] [(.ref sv)])) tgt
      refine XS.iload X32.here hx rfl (hb hby at_328) rfl ?_
      exact k
    obtain ⟨cq33, kq33, q33a, q33b, q33c⟩ := isOf hZ K32 g25_0
    obtain ⟨_, _, ⟨T33, L33, k33, n33⟩, -, X33, ⟨Lc33, hQ33, l33, y33, z33⟩, st33⟩ := X32.virtualBack hx (y := (⟨"com/example/chainwright/chainwright/State", "isChosen", "(I)Z"⟩ : MethodName)) (z := (⟨"com/example/chainwright/chainwright/State", "isChosen", "(I)Z"⟩ : MethodName)) hown (mvT hZ (hw _ (List.mem_of_getElem? (i := 41) rfl))) (mvT hZ (hw _ (List.mem_of_getElem? (i := 27) rfl))) (notFace_of_selects (args := #[]) (mvT hZ (hw _ (List.mem_of_getElem? (i := 29) rfl)))) (mvT hZ (hw _ (List.mem_of_getElem? (i := 29) rfl))) (mvT hZ (hw _ (List.mem_of_getElem? (i := 28) rfl))) (by decide) (backOf (W := 0) (rm5 l Z a0 hw [] sv (1 : Int32) dv 3 (own_up (own_up (own_up (own_up (fun _ => 0) 0 o0) 1 o1) 2 o2) 1 dn) 1 T25.heap n0 Zs25 g25_1 g25_4 (by first | assumption | decide | rfl) (by first | assumption | decide | rfl)) hZ (hw _ (List.mem_of_getElem? (i := 30) rfl)) (hw _ (List.mem_of_getElem? (i := 8) rfl)) (by decide) (by decide)) q33a q33c (g := (mkF m 330 #[.val (.int d0), .val (.int d1), .val (.int d2), .val (.int sl), .val (.int dd), .val (.int fz), .val (.int (1 : Int32)), .val (.int o0), .val (.int o1), .val (.int o2), .val (.int dn), .val (.int (((own_nz o0) + (own_nz o1)) + (own_nz o2))), .val (.ref dv), .val (.ref fv), .val (.ref sv), .val (.int o1), .val (.int d0), .val (.int o0), .val (.int dn), .val (.int o2), .val (.int ((((own_nz o0) + (own_nz o1)) + (own_nz o2)) + xs)), .val (.int (((own_nz o0) + (own_nz dn)) + (own_nz o2)))] [(.int (1 : Int32)), (.ref sv)])) rfl (by rw [hml]; rfl) (Steps.refl _) (argsL := [(.int (1 : Int32))]) (rest := []) (lenOf pd_0_4 rfl) rfl (by show 2 * 0 + _ ≤ _; exact Nat.le_of_eq rfl) (hb hby at_330) (fun _ _ => ⟨rfl, K32, (by decide : 3 + 0 ≤ _), (by decide : 9 + 0 ≤ _)⟩)
    dsimp only [Pt.U, Pt.locs, Pt.cells, Pt.slots] at X33 l33 y33 z33 st33 hQ33
    subst l33 y33 z33
    obtain ⟨rfl, N33q, K33⟩ := hQ33
    have N33 := Fr.app N32 N33q
    refine own_st (fun tgt k => st33.trans k) ?_
    show own_Go p e below _ (T33.setTop (mkF m 333 #[.val (.int d0), .val (.int d1), .val (.int d2), .val (.int sl), .val (.int dd), .val (.int fz), .val (.int (1 : Int32)), .val (.int o0), .val (.int o1), .val (.int o2), .val (.int dn), .val (.int (((own_nz o0) + (own_nz o1)) + (own_nz o2))), .val (.ref dv), .val (.ref fv), .val (.ref sv), .val (.int o1), .val (.int d0), .val (.int o0), .val (.int dn), .val (.int o2), .val (.int ((((own_nz o0) + (own_nz o1)) + (own_nz o2)) + xs)), .val (.int (((own_nz o0) + (own_nz dn)) + (own_nz o2)))] [(.int (if (own_up (own_up (own_up (own_up (fun _ => 0) 0 o0) 1 o1) 2 o2) 1 dn) 1 = 0 then (0 : Int32) else (1 : Int32)))]))
    refine own_st (V := T33.setTop (mkF m 340 #[.val (.int d0), .val (.int d1), .val (.int d2), .val (.int sl), .val (.int dd), .val (.int fz), .val (.int (1 : Int32)), .val (.int o0), .val (.int o1), .val (.int o2), .val (.int dn), .val (.int (((own_nz o0) + (own_nz o1)) + (own_nz o2))), .val (.ref dv), .val (.ref fv), .val (.ref sv), .val (.int o1), .val (.int d0), .val (.int o0), .val (.int dn), .val (.int o2), .val (.int ((((own_nz o0) + (own_nz o1)) + (own_nz o2)) + xs)), .val (.int (((own_nz o0) + (own_nz dn)) + (own_nz o2)))] [(.int (1 : Int32)), (.ref sv)])) (fun tgt k => ?_) ?_
    · show Steps p.tables e below (T33.setTop (mkF m 333 #[.val (.int d0), .val (.int d1), .val (.int d2), .val (.int sl), .val (.int dd), .val (.int fz), .val (.int (1 : Int32)), .val (.int o0), .val (.int o1), .val (.int o2), .val (.int dn), .val (.int (((own_nz o0) + (own_nz o1)) + (own_nz o2))), .val (.ref dv), .val (.ref fv), .val (.ref sv), .val (.int o1), .val (.int d0), .val (.int o0), .val (.int dn), .val (.int o2), .val (.int ((((own_nz o0) + (own_nz o1)) + (own_nz o2)) + xs)), .val (.int (((own_nz o0) + (own_nz dn)) + (own_nz o2)))] [(.int (if (own_up (own_up (own_up (own_up (fun _ => 0) 0 o0) 1 o1) 2 o2) 1 dn) 1 = 0 then (0 : Int32) else (1 : Int32)))])) tgt
      refine XS.ifNo X33.here hx rfl (hb hby at_333) rfl ((if0 _ _).trans (feq (by simp [own_up, hdn0])).1) ?_
      show Steps p.tables e below (T33.setTop (mkF m 336 #[.val (.int d0), .val (.int d1), .val (.int d2), .val (.int sl), .val (.int dd), .val (.int fz), .val (.int (1 : Int32)), .val (.int o0), .val (.int o1), .val (.int o2), .val (.int dn), .val (.int (((own_nz o0) + (own_nz o1)) + (own_nz o2))), .val (.ref dv), .val (.ref fv), .val (.ref sv), .val (.int o1), .val (.int d0), .val (.int o0), .val (.int dn), .val (.int o2), .val (.int ((((own_nz o0) + (own_nz o1)) + (own_nz o2)) + xs)), .val (.int (((own_nz o0) + (own_nz dn)) + (own_nz o2)))] [])) tgt
      refine XS.aload X33.here hx rfl (hb hby at_336) rfl rfl ?_
      show Steps p.tables e below (T33.setTop (mkF m 338 #[.val (.int d0), .val (.int d1), .val (.int d2), .val (.int sl), .val (.int dd), .val (.int fz), .val (.int (1 : Int32)), .val (.int o0), .val (.int o1), .val (.int o2), .val (.int dn), .val (.int (((own_nz o0) + (own_nz o1)) + (own_nz o2))), .val (.ref dv), .val (.ref fv), .val (.ref sv), .val (.int o1), .val (.int d0), .val (.int o0), .val (.int dn), .val (.int o2), .val (.int ((((own_nz o0) + (own_nz o1)) + (own_nz o2)) + xs)), .val (.int (((own_nz o0) + (own_nz dn)) + (own_nz o2)))] [(.ref sv)])) tgt
      refine XS.iload X33.here hx rfl (hb hby at_338) rfl ?_
      exact k
    obtain ⟨cq34, kq34, q34a, q34b, q34c⟩ := isOf hZ K33 g25_0
    obtain ⟨_, _, ⟨T34, L34, k34, n34⟩, -, X34, ⟨Lc34, hQ34, l34, y34, z34⟩, st34⟩ := X33.virtualBack hx (y := (⟨"com/example/chainwright/chainwright/State", "floor", "(I)I"⟩ : MethodName)) (z := (⟨"com/example/chainwright/chainwright/State", "floor", "(I)I"⟩ : MethodName)) hown (mvT hZ (hw _ (List.mem_of_getElem? (i := 42) rfl))) (mvT hZ (hw _ (List.mem_of_getElem? (i := 43) rfl))) (notFace_of_selects (args := #[]) (mvT hZ (hw _ (List.mem_of_getElem? (i := 45) rfl)))) (mvT hZ (hw _ (List.mem_of_getElem? (i := 45) rfl))) (mvT hZ (hw _ (List.mem_of_getElem? (i := 44) rfl))) (by decide) (backOf (W := 0) (rm8 l Z a0 hw [] sv (1 : Int32) fv 3 (own_up (own_up (own_up (fun _ => 0) 0 fz) 1 d0) 2 d2) 1 T25.heap n0 Zs25 g25_2 A_fv_25 (by first | assumption | decide | rfl) (by first | assumption | decide | rfl)) hZ (hw _ (List.mem_of_getElem? (i := 46) rfl)) (hw _ (List.mem_of_getElem? (i := 8) rfl)) (by decide) (by decide)) q34a q34c (g := (mkF m 340 #[.val (.int d0), .val (.int d1), .val (.int d2), .val (.int sl), .val (.int dd), .val (.int fz), .val (.int (1 : Int32)), .val (.int o0), .val (.int o1), .val (.int o2), .val (.int dn), .val (.int (((own_nz o0) + (own_nz o1)) + (own_nz o2))), .val (.ref dv), .val (.ref fv), .val (.ref sv), .val (.int o1), .val (.int d0), .val (.int o0), .val (.int dn), .val (.int o2), .val (.int ((((own_nz o0) + (own_nz o1)) + (own_nz o2)) + xs)), .val (.int (((own_nz o0) + (own_nz dn)) + (own_nz o2)))] [(.int (1 : Int32)), (.ref sv)])) rfl (by rw [hml]; rfl) (Steps.refl _) (argsL := [(.int (1 : Int32))]) (rest := []) (lenOf pd_0_0 rfl) rfl (by show 2 * 0 + _ ≤ _; exact Nat.le_of_eq rfl) (hb hby at_340) (fun _ _ => ⟨rfl, K33, (by decide : 3 + 0 ≤ _), (by decide : 9 + 0 ≤ _)⟩)
    dsimp only [Pt.U, Pt.locs, Pt.cells, Pt.slots] at X34 l34 y34 z34 st34 hQ34
    subst l34 y34 z34
    obtain ⟨rfl, N34q, K34⟩ := hQ34
    have N34 := Fr.app N33 N34q
    refine own_st (fun tgt k => st34.trans k) ?_
    show own_Go p e below _ (T34.setTop (mkF m 343 #[.val (.int d0), .val (.int d1), .val (.int d2), .val (.int sl), .val (.int dd), .val (.int fz), .val (.int (1 : Int32)), .val (.int o0), .val (.int o1), .val (.int o2), .val (.int dn), .val (.int (((own_nz o0) + (own_nz o1)) + (own_nz o2))), .val (.ref dv), .val (.ref fv), .val (.ref sv), .val (.int o1), .val (.int d0), .val (.int o0), .val (.int dn), .val (.int o2), .val (.int ((((own_nz o0) + (own_nz o1)) + (own_nz o2)) + xs)), .val (.int (((own_nz o0) + (own_nz dn)) + (own_nz o2)))] [(.int ((own_up (own_up (own_up (fun _ => 0) 0 fz) 1 d0) 2 d2) 1))]))
    refine own_st (V := T34.setTop (mkF m 353 #[.val (.int d0), .val (.int d1), .val (.int d2), .val (.int sl), .val (.int dd), .val (.int fz), .val (.int (1 : Int32)), .val (.int o0), .val (.int o1), .val (.int o2), .val (.int dn), .val (.int (((own_nz o0) + (own_nz o1)) + (own_nz o2))), .val (.ref dv), .val (.ref fv), .val (.ref sv), .val (.int o1), .val (.int d0), .val (.int o0), .val (.int dn), .val (.int o2), .val (.int ((((own_nz o0) + (own_nz o1)) + (own_nz o2)) + xs)), .val (.int (((own_nz o0) + (own_nz dn)) + (own_nz o2)))] [(.int (1 : Int32))])) (fun tgt k => ?_) ?_
    · show Steps p.tables e below (T34.setTop (mkF m 343 #[.val (.int d0), .val (.int d1), .val (.int d2), .val (.int sl), .val (.int dd), .val (.int fz), .val (.int (1 : Int32)), .val (.int o0), .val (.int o1), .val (.int o2), .val (.int dn), .val (.int (((own_nz o0) + (own_nz o1)) + (own_nz o2))), .val (.ref dv), .val (.ref fv), .val (.ref sv), .val (.int o1), .val (.int d0), .val (.int o0), .val (.int dn), .val (.int o2), .val (.int ((((own_nz o0) + (own_nz o1)) + (own_nz o2)) + xs)), .val (.int (((own_nz o0) + (own_nz dn)) + (own_nz o2)))] [(.int ((own_up (own_up (own_up (fun _ => 0) 0 fz) 1 d0) 2 d2) 1))])) tgt
      refine XS.iload X34.here hx rfl (hb hby at_343) rfl ?_
      show Steps p.tables e below (T34.setTop (mkF m 345 #[.val (.int d0), .val (.int d1), .val (.int d2), .val (.int sl), .val (.int dd), .val (.int fz), .val (.int (1 : Int32)), .val (.int o0), .val (.int o1), .val (.int o2), .val (.int dn), .val (.int (((own_nz o0) + (own_nz o1)) + (own_nz o2))), .val (.ref dv), .val (.ref fv), .val (.ref sv), .val (.int o1), .val (.int d0), .val (.int o0), .val (.int dn), .val (.int o2), .val (.int ((((own_nz o0) + (own_nz o1)) + (own_nz o2)) + xs)), .val (.int (((own_nz o0) + (own_nz dn)) + (own_nz o2)))] [(.int d0), (.int ((own_up (own_up (own_up (fun _ => 0) 0 fz) 1 d0) 2 d2) 1))])) tgt
      refine XS.icmpNo X34.here hx rfl (hb hby at_345) rfl (teq (by simp [own_up])).2 ?_
      show Steps p.tables e below (T34.setTop (mkF m 348 #[.val (.int d0), .val (.int d1), .val (.int d2), .val (.int sl), .val (.int dd), .val (.int fz), .val (.int (1 : Int32)), .val (.int o0), .val (.int o1), .val (.int o2), .val (.int dn), .val (.int (((own_nz o0) + (own_nz o1)) + (own_nz o2))), .val (.ref dv), .val (.ref fv), .val (.ref sv), .val (.int o1), .val (.int d0), .val (.int o0), .val (.int dn), .val (.int o2), .val (.int ((((own_nz o0) + (own_nz o1)) + (own_nz o2)) + xs)), .val (.int (((own_nz o0) + (own_nz dn)) + (own_nz o2)))] [])) tgt
      refine XS.iconst X34.here hx rfl (hb hby at_348) ?_
      show Steps p.tables e below (T34.setTop (mkF m 349 #[.val (.int d0), .val (.int d1), .val (.int d2), .val (.int sl), .val (.int dd), .val (.int fz), .val (.int (1 : Int32)), .val (.int o0), .val (.int o1), .val (.int o2), .val (.int dn), .val (.int (((own_nz o0) + (own_nz o1)) + (own_nz o2))), .val (.ref dv), .val (.ref fv), .val (.ref sv), .val (.int o1), .val (.int d0), .val (.int o0), .val (.int dn), .val (.int o2), .val (.int ((((own_nz o0) + (own_nz o1)) + (own_nz o2)) + xs)), .val (.int (((own_nz o0) + (own_nz dn)) + (own_nz o2)))] [(.int (1 : Int32))])) tgt
      refine XS.goto X34.here hx rfl (pc0 := 349) (pc' := 353) rfl (hb hby at_349) (by decide) (by decide) ?_
      exact k
    refine own_retN X34 hx hlk (t := .boolean) (z' := (1 : Int32)) Bd.returns (by simp) rfl (hb hby at_353) ?_ (by decide) (by decide)
    show Q0 Z d0 d1 d2 sl dd fz h0 n0 (some (.int (1 : Int32))) T34.heap _
    rw [K34]
    exact ⟨rfl, N34⟩
  · skip
    rw [show ((sl &&& (2147483647 : Int32)) % (3 : Int32)) = (2 : Int32) from q]
    refine own_st (V := T13.setTop (mkF m 195 #[.val (.int d0), .val (.int d1), .val (.int d2), .val (.int sl), .val (.int dd), .val (.int fz), .val (.int (2 : Int32)), .val (.int o0), .val (.int o1), .val (.int o2), .val (.int dn), .val (.int (((own_nz o0) + (own_nz o1)) + (own_nz o2))), .val (.ref dv), .val (.ref fv), .val (.ref sv), .val (.int o2), .val (.int d2), .unset, .unset, .unset, .unset, .unset] [(.int dn), (.int (2 : Int32)), (.ref sv)])) (fun tgt k => ?_) ?_
    · show Steps p.tables e below (T13.setTop (mkF m 141 #[.val (.int d0), .val (.int d1), .val (.int d2), .val (.int sl), .val (.int dd), .val (.int fz), .val (.int (2 : Int32)), .val (.int o0), .val (.int o1), .val (.int o2), .val (.int dn), .val (.int (((own_nz o0) + (own_nz o1)) + (own_nz o2))), .val (.ref dv), .val (.ref fv), .val (.ref sv), .unset, .unset, .unset, .unset, .unset, .unset, .unset] [])) tgt
      refine XS.iload X13.here hx rfl (hb hby at_141) rfl ?_
      show Steps p.tables e below (T13.setTop (mkF m 143 #[.val (.int d0), .val (.int d1), .val (.int d2), .val (.int sl), .val (.int dd), .val (.int fz), .val (.int (2 : Int32)), .val (.int o0), .val (.int o1), .val (.int o2), .val (.int dn), .val (.int (((own_nz o0) + (own_nz o1)) + (own_nz o2))), .val (.ref dv), .val (.ref fv), .val (.ref sv), .unset, .unset, .unset, .unset, .unset, .unset, .unset] [(.int (2 : Int32))])) tgt
      refine XS.ifYes X13.here hx rfl (pc0 := 143) (pc' := 151) rfl (hb hby at_143) rfl ((if0 _ _).trans (feq (by decide : ¬ ((2 : Int32) = (0 : Int32)))).2) (by decide) (by decide) ?_
      show Steps p.tables e below (T13.setTop (mkF m 151 #[.val (.int d0), .val (.int d1), .val (.int d2), .val (.int sl), .val (.int dd), .val (.int fz), .val (.int (2 : Int32)), .val (.int o0), .val (.int o1), .val (.int o2), .val (.int dn), .val (.int (((own_nz o0) + (own_nz o1)) + (own_nz o2))), .val (.ref dv), .val (.ref fv), .val (.ref sv), .unset, .unset, .unset, .unset, .unset, .unset, .unset] [])) tgt
      refine XS.iload X13.here hx rfl (hb hby at_151) rfl ?_
      show Steps p.tables e below (T13.setTop (mkF m 153 #[.val (.int d0), .val (.int d1), .val (.int d2), .val (.int sl), .val (.int dd), .val (.int fz), .val (.int (2 : Int32)), .val (.int o0), .val (.int o1), .val (.int o2), .val (.int dn), .val (.int (((own_nz o0) + (own_nz o1)) + (own_nz o2))), .val (.ref dv), .val (.ref fv), .val (.ref sv), .unset, .unset, .unset, .unset, .unset, .unset, .unset] [(.int (2 : Int32))])) tgt
      refine XS.iconst X13.here hx rfl (hb hby at_153) ?_
      show Steps p.tables e below (T13.setTop (mkF m 154 #[.val (.int d0), .val (.int d1), .val (.int d2), .val (.int sl), .val (.int dd), .val (.int fz), .val (.int (2 : Int32)), .val (.int o0), .val (.int o1), .val (.int o2), .val (.int dn), .val (.int (((own_nz o0) + (own_nz o1)) + (own_nz o2))), .val (.ref dv), .val (.ref fv), .val (.ref sv), .unset, .unset, .unset, .unset, .unset, .unset, .unset] [(.int (1 : Int32)), (.int (2 : Int32))])) tgt
      refine XS.icmpYes X13.here hx rfl (pc0 := 154) (pc' := 162) rfl (hb hby at_154) rfl (feq (by decide : ¬ ((2 : Int32) = (1 : Int32)))).2 (by decide) (by decide) ?_
      show Steps p.tables e below (T13.setTop (mkF m 162 #[.val (.int d0), .val (.int d1), .val (.int d2), .val (.int sl), .val (.int dd), .val (.int fz), .val (.int (2 : Int32)), .val (.int o0), .val (.int o1), .val (.int o2), .val (.int dn), .val (.int (((own_nz o0) + (own_nz o1)) + (own_nz o2))), .val (.ref dv), .val (.ref fv), .val (.ref sv), .unset, .unset, .unset, .unset, .unset, .unset, .unset] [])) tgt
      refine XS.iload X13.here hx rfl (hb hby at_162) rfl ?_
      show Steps p.tables e below (T13.setTop (mkF m 164 #[.val (.int d0), .val (.int d1), .val (.int d2), .val (.int sl), .val (.int dd), .val (.int fz), .val (.int (2 : Int32)), .val (.int o0), .val (.int o1), .val (.int o2), .val (.int dn), .val (.int (((own_nz o0) + (own_nz o1)) + (own_nz o2))), .val (.ref dv), .val (.ref fv), .val (.ref sv), .unset, .unset, .unset, .unset, .unset, .unset, .unset] [(.int o2)])) tgt
      refine XS.istore X13.here hx rfl (hb hby at_164) rfl (l' := #[.val (.int d0), .val (.int d1), .val (.int d2), .val (.int sl), .val (.int dd), .val (.int fz), .val (.int (2 : Int32)), .val (.int o0), .val (.int o1), .val (.int o2), .val (.int dn), .val (.int (((own_nz o0) + (own_nz o1)) + (own_nz o2))), .val (.ref dv), .val (.ref fv), .val (.ref sv), .val (.int o2), .unset, .unset, .unset, .unset, .unset, .unset]) rfl ?_
      show Steps p.tables e below (T13.setTop (mkF m 166 #[.val (.int d0), .val (.int d1), .val (.int d2), .val (.int sl), .val (.int dd), .val (.int fz), .val (.int (2 : Int32)), .val (.int o0), .val (.int o1), .val (.int o2), .val (.int dn), .val (.int (((own_nz o0) + (own_nz o1)) + (own_nz o2))), .val (.ref dv), .val (.ref fv), .val (.ref sv), .val (.int o2), .unset, .unset, .unset, .unset, .unset, .unset] [])) tgt
      refine XS.iload X13.here hx rfl (hb hby at_166) rfl ?_
      show Steps p.tables e below (T13.setTop (mkF m 168 #[.val (.int d0), .val (.int d1), .val (.int d2), .val (.int sl), .val (.int dd), .val (.int fz), .val (.int (2 : Int32)), .val (.int o0), .val (.int o1), .val (.int o2), .val (.int dn), .val (.int (((own_nz o0) + (own_nz o1)) + (own_nz o2))), .val (.ref dv), .val (.ref fv), .val (.ref sv), .val (.int o2), .unset, .unset, .unset, .unset, .unset, .unset] [(.int (2 : Int32))])) tgt
      refine XS.ifYes X13.here hx rfl (pc0 := 168) (pc' := 176) rfl (hb hby at_168) rfl ((if0 _ _).trans (feq (by decide : ¬ ((2 : Int32) = (0 : Int32)))).2) (by decide) (by decide) ?_
      show Steps p.tables e below (T13.setTop (mkF m 176 #[.val (.int d0), .val (.int d1), .val (.int d2), .val (.int sl), .val (.int dd), .val (.int fz), .val (.int (2 : Int32)), .val (.int o0), .val (.int o1), .val (.int o2), .val (.int dn), .val (.int (((own_nz o0) + (own_nz o1)) + (own_nz o2))), .val (.ref dv), .val (.ref fv), .val (.ref sv), .val (.int o2), .unset, .unset, .unset, .unset, .unset, .unset] [])) tgt
      refine XS.iload X13.here hx rfl (hb hby at_176) rfl ?_
      show Steps p.tables e below (T13.setTop (mkF m 178 #[.val (.int d0), .val (.int d1), .val (.int d2), .val (.int sl), .val (.int dd), .val (.int fz), .val (.int (2 : Int32)), .val (.int o0), .val (.int o1), .val (.int o2), .val (.int dn), .val (.int (((own_nz o0) + (own_nz o1)) + (own_nz o2))), .val (.ref dv), .val (.ref fv), .val (.ref sv), .val (.int o2), .unset, .unset, .unset, .unset, .unset, .unset] [(.int (2 : Int32))])) tgt
      refine XS.iconst X13.here hx rfl (hb hby at_178) ?_
      show Steps p.tables e below (T13.setTop (mkF m 179 #[.val (.int d0), .val (.int d1), .val (.int d2), .val (.int sl), .val (.int dd), .val (.int fz), .val (.int (2 : Int32)), .val (.int o0), .val (.int o1), .val (.int o2), .val (.int dn), .val (.int (((own_nz o0) + (own_nz o1)) + (own_nz o2))), .val (.ref dv), .val (.ref fv), .val (.ref sv), .val (.int o2), .unset, .unset, .unset, .unset, .unset, .unset] [(.int (1 : Int32)), (.int (2 : Int32))])) tgt
      refine XS.icmpYes X13.here hx rfl (pc0 := 179) (pc' := 186) rfl (hb hby at_179) rfl (feq (by decide : ¬ ((2 : Int32) = (1 : Int32)))).2 (by decide) (by decide) ?_
      show Steps p.tables e below (T13.setTop (mkF m 186 #[.val (.int d0), .val (.int d1), .val (.int d2), .val (.int sl), .val (.int dd), .val (.int fz), .val (.int (2 : Int32)), .val (.int o0), .val (.int o1), .val (.int o2), .val (.int dn), .val (.int (((own_nz o0) + (own_nz o1)) + (own_nz o2))), .val (.ref dv), .val (.ref fv), .val (.ref sv), .val (.int o2), .unset, .unset, .unset, .unset, .unset, .unset] [])) tgt
      refine XS.iloadN X13.here hx rfl (hb hby at_186) rfl ?_
      show Steps p.tables e below (T13.setTop (mkF m 187 #[.val (.int d0), .val (.int d1), .val (.int d2), .val (.int sl), .val (.int dd), .val (.int fz), .val (.int (2 : Int32)), .val (.int o0), .val (.int o1), .val (.int o2), .val (.int dn), .val (.int (((own_nz o0) + (own_nz o1)) + (own_nz o2))), .val (.ref dv), .val (.ref fv), .val (.ref sv), .val (.int o2), .unset, .unset, .unset, .unset, .unset, .unset] [(.int d2)])) tgt
      refine XS.istore X13.here hx rfl (hb hby at_187) rfl (l' := #[.val (.int d0), .val (.int d1), .val (.int d2), .val (.int sl), .val (.int dd), .val (.int fz), .val (.int (2 : Int32)), .val (.int o0), .val (.int o1), .val (.int o2), .val (.int dn), .val (.int (((own_nz o0) + (own_nz o1)) + (own_nz o2))), .val (.ref dv), .val (.ref fv), .val (.ref sv), .val (.int o2), .val (.int d2), .unset, .unset, .unset, .unset, .unset]) rfl ?_
      show Steps p.tables e below (T13.setTop (mkF m 189 #[.val (.int d0), .val (.int d1), .val (.int d2), .val (.int sl), .val (.int dd), .val (.int fz), .val (.int (2 : Int32)), .val (.int o0), .val (.int o1), .val (.int o2), .val (.int dn), .val (.int (((own_nz o0) + (own_nz o1)) + (own_nz o2))), .val (.ref dv), .val (.ref fv), .val (.ref sv), .val (.int o2), .val (.int d2), .unset, .unset, .unset, .unset, .unset] [])) tgt
      refine XS.aload X13.here hx rfl (hb hby at_189) rfl rfl ?_
      show Steps p.tables e below (T13.setTop (mkF m 191 #[.val (.int d0), .val (.int d1), .val (.int d2), .val (.int sl), .val (.int dd), .val (.int fz), .val (.int (2 : Int32)), .val (.int o0), .val (.int o1), .val (.int o2), .val (.int dn), .val (.int (((own_nz o0) + (own_nz o1)) + (own_nz o2))), .val (.ref dv), .val (.ref fv), .val (.ref sv), .val (.int o2), .val (.int d2), .unset, .unset, .unset, .unset, .unset] [(.ref sv)])) tgt
      refine XS.iload X13.here hx rfl (hb hby at_191) rfl ?_
      show Steps p.tables e below (T13.setTop (mkF m 193 #[.val (.int d0), .val (.int d1), .val (.int d2), .val (.int sl), .val (.int dd), .val (.int fz), .val (.int (2 : Int32)), .val (.int o0), .val (.int o1), .val (.int o2), .val (.int dn), .val (.int (((own_nz o0) + (own_nz o1)) + (own_nz o2))), .val (.ref dv), .val (.ref fv), .val (.ref sv), .val (.int o2), .val (.int d2), .unset, .unset, .unset, .unset, .unset] [(.int (2 : Int32)), (.ref sv)])) tgt
      refine XS.iload X13.here hx rfl (hb hby at_193) rfl ?_
      exact k
    obtain ⟨cq36, kq36, q36a, q36b, q36c⟩ := isOf hZ rfl g13_0
    obtain ⟨_, _, ⟨T36, L36, k36, n36⟩, -, X36, ⟨Lc36, hQ36, l36, y36, z36⟩, st36⟩ := X13.virtualBack hx (y := (⟨"com/example/chainwright/chainwright/State", "choose", "(II)V"⟩ : MethodName)) (z := (⟨"com/example/chainwright/chainwright/State", "choose", "(II)V"⟩ : MethodName)) hown (mvT hZ (hw _ (List.mem_of_getElem? (i := 21) rfl))) (mvT hZ (hw _ (List.mem_of_getElem? (i := 22) rfl))) (notFace_of_selects (args := #[]) (mvT hZ (hw _ (List.mem_of_getElem? (i := 24) rfl)))) (mvT hZ (hw _ (List.mem_of_getElem? (i := 24) rfl))) (mvT hZ (hw _ (List.mem_of_getElem? (i := 23) rfl))) (by decide) (backOf (W := 0) (rm4 l Z a0 hw [] sv (2 : Int32) dn dv 3 (own_up (own_up (own_up (fun _ => 0) 0 o0) 1 o1) 2 o2) 2 fv (((own_nz o0) + (own_nz o1)) + (own_nz o2)) T13.heap n0 Zs13 g13_0 g13_1 g13_2 g13_3 A_dv_13 (by first | assumption | decide | rfl) (by first | assumption | decide | rfl) g_sv g_dv (Ne.symm ne_dv_sv)) hZ (hw _ (List.mem_of_getElem? (i := 25) rfl)) (hw _ (List.mem_of_getElem? (i := 8) rfl)) (by decide) (by decide)) q36a q36c (g := (mkF m 195 #[.val (.int d0), .val (.int d1), .val (.int d2), .val (.int sl), .val (.int dd), .val (.int fz), .val (.int (2 : Int32)), .val (.int o0), .val (.int o1), .val (.int o2), .val (.int dn), .val (.int (((own_nz o0) + (own_nz o1)) + (own_nz o2))), .val (.ref dv), .val (.ref fv), .val (.ref sv), .val (.int o2), .val (.int d2), .unset, .unset, .unset, .unset, .unset] [(.int dn), (.int (2 : Int32)), (.ref sv)])) rfl (by rw [hml]; rfl) (Steps.refl _) (argsL := [(.int (2 : Int32)), (.int dn)]) (rest := []) (lenOf pd_0_2 rfl) rfl (by show 2 * 0 + _ ≤ _; exact Nat.le_of_eq rfl) (hb hby at_195) (fun _ _ => ⟨rfl, rfl, (by decide : 3 + 0 ≤ _), (by decide : 9 + 0 ≤ _)⟩)
    dsimp only [Pt.U, Pt.locs, Pt.cells, Pt.slots] at X36 l36 y36 z36 st36 hQ36
    subst l36 y36 z36
    obtain ⟨rfl, N36q, K36, g36_0, g36_1, g36_2, g36_3, g36_4⟩ := hQ36
    have N36 := Fr.app N13 N36q
    have A_fv_36 := A_fv_13.keep K36 (ninS ne_fv_sv (ninS (Ne.symm ne_dv_fv) nin0))
    have E_sv_36 := g13_0.keep K36
    have Zs36 : n0 ≤ T36.heap.size := Nat.le_trans Zs13 K36.1
    refine own_st (fun tgt k => st36.trans k) ?_
    show own_Go p e below _ (T36.setTop (mkF m 198 #[.val (.int d0), .val (.int d1), .val (.int d2), .val (.int sl), .val (.int dd), .val (.int fz), .val (.int (2 : Int32)), .val (.int o0), .val (.int o1), .val (.int o2), .val (.int dn), .val (.int (((own_nz o0) + (own_nz o1)) + (own_nz o2))), .val (.ref dv), .val (.ref fv), .val (.ref sv), .val (.int o2), .val (.int d2), .unset, .unset, .unset, .unset, .unset] []))
    refine own_st (V := T36.setTop (mkF m 246 #[.val (.int d0), .val (.int d1), .val (.int d2), .val (.int sl), .val (.int dd), .val (.int fz), .val (.int (2 : Int32)), .val (.int o0), .val (.int o1), .val (.int o2), .val (.int dn), .val (.int (((own_nz o0) + (own_nz o1)) + (own_nz o2))), .val (.ref dv), .val (.ref fv), .val (.ref sv), .val (.int o2), .val (.int d2), .val (.int o0), .val (.int o1), .val (.int dn), .unset, .unset] [(.int o2), (.int (((own_nz o0) + (own_nz o1)) + (own_nz o2)))])) (fun tgt k => ?_) ?_
    · show Steps p.tables e below (T36.setTop (mkF m 198 #[.val (.int d0), .val (.int d1), .val (.int d2), .val (.int sl), .val (.int dd), .val (.int fz), .val (.int (2 : Int32)), .val (.int o0), .val (.int o1), .val (.int o2), .val (.int dn), .val (.int (((own_nz o0) + (own_nz o1)) + (own_nz o2))), .val (.ref dv), .val (.ref fv), .val (.ref sv), .val (.int o2), .val (.int d2), .unset, .unset, .unset, .unset, .unset] [])) tgt
      refine XS.iload X36.here hx rfl (hb hby at_198) rfl ?_
      show Steps p.tables e below (T36.setTop (mkF m 200 #[.val (.int d0), .val (.int d1), .val (.int d2), .val (.int sl), .val (.int dd), .val (.int fz), .val (.int (2 : Int32)), .val (.int o0), .val (.int o1), .val (.int o2), .val (.int dn), .val (.int (((own_nz o0) + (own_nz o1)) + (own_nz o2))), .val (.ref dv), .val (.ref fv), .val (.ref sv), .val (.int o2), .val (.int d2), .unset, .unset, .unset, .unset, .unset] [(.int (2 : Int32))])) tgt
      refine XS.ifYes X36.here hx rfl (pc0 := 200) (pc' := 208) rfl (hb hby at_200) rfl ((if0 _ _).trans (feq (by decide : ¬ ((2 : Int32) = (0 : Int32)))).2) (by decide) (by decide) ?_
      show Steps p.tables e below (T36.setTop (mkF m 208 #[.val (.int d0), .val (.int d1), .val (.int d2), .val (.int sl), .val (.int dd), .val (.int fz), .val (.int (2 : Int32)), .val (.int o0), .val (.int o1), .val (.int o2), .val (.int dn), .val (.int (((own_nz o0) + (own_nz o1)) + (own_nz o2))), .val (.ref dv), .val (.ref fv), .val (.ref sv), .val (.int o2), .val (.int d2), .unset, .unset, .unset, .unset, .unset] [])) tgt
      refine XS.iload X36.here hx rfl (hb hby at_208) rfl ?_
      show Steps p.tables e below (T36.setTop (mkF m 210 #[.val (.int d0), .val (.int d1), .val (.int d2), .val (.int sl), .val (.int dd), .val (.int fz), .val (.int (2 : Int32)), .val (.int o0), .val (.int o1), .val (.int o2), .val (.int dn), .val (.int (((own_nz o0) + (own_nz o1)) + (own_nz o2))), .val (.ref dv), .val (.ref fv), .val (.ref sv), .val (.int o2), .val (.int d2), .unset, .unset, .unset, .unset, .unset] [(.int o0)])) tgt
      refine XS.istore X36.here hx rfl (hb hby at_210) rfl (l' := #[.val (.int d0), .val (.int d1), .val (.int d2), .val (.int sl), .val (.int dd), .val (.int fz), .val (.int (2 : Int32)), .val (.int o0), .val (.int o1), .val (.int o2), .val (.int dn), .val (.int (((own_nz o0) + (own_nz o1)) + (own_nz o2))), .val (.ref dv), .val (.ref fv), .val (.ref sv), .val (.int o2), .val (.int d2), .val (.int o0), .unset, .unset, .unset, .unset]) rfl ?_
      show Steps p.tables e below (T36.setTop (mkF m 212 #[.val (.int d0), .val (.int d1), .val (.int d2), .val (.int sl), .val (.int dd), .val (.int fz), .val (.int (2 : Int32)), .val (.int o0), .val (.int o1), .val (.int o2), .val (.int dn), .val (.int (((own_nz o0) + (own_nz o1)) + (own_nz o2))), .val (.ref dv), .val (.ref fv), .val (.ref sv), .val (.int o2), .val (.int d2), .val (.int o0), .unset, .unset, .unset, .unset] [])) tgt
      refine XS.iload X36.here hx rfl (hb hby at_212) rfl ?_
      show Steps p.tables e below (T36.setTop (mkF m 214 #[.val (.int d0), .val (.int d1), .val (.int d2), .val (.int sl), .val (.int dd), .val (.int fz), .val (.int (2 : Int32)), .val (.int o0), .val (.int o1), .val (.int o2), .val (.int dn), .val (.int (((own_nz o0) + (own_nz o1)) + (own_nz o2))), .val (.ref dv), .val (.ref fv), .val (.ref sv), .val (.int o2), .val (.int d2), .val (.int o0), .unset, .unset, .unset, .unset] [(.int (2 : Int32))])) tgt
      refine XS.iconst X36.here hx rfl (hb hby at_214) ?_
      show Steps p.tables e below (T36.setTop (mkF m 215 #[.val (.int d0), .val (.int d1), .val (.int d2), .val (.int sl), .val (.int dd), .val (.int fz), .val (.int (2 : Int32)), .val (.int o0), .val (.int o1), .val (.int o2), .val (.int dn), .val (.int (((own_nz o0) + (own_nz o1)) + (own_nz o2))), .val (.ref dv), .val (.ref fv), .val (.ref sv), .val (.int o2), .val (.int d2), .val (.int o0), .unset, .unset, .unset, .unset] [(.int (1 : Int32)), (.int (2 : Int32))])) tgt
      refine XS.icmpYes X36.here hx rfl (pc0 := 215) (pc' := 223) rfl (hb hby at_215) rfl (feq (by decide : ¬ ((2 : Int32) = (1 : Int32)))).2 (by decide) (by decide) ?_
      show Steps p.tables e below (T36.setTop (mkF m 223 #[.val (.int d0), .val (.int d1), .val (.int d2), .val (.int sl), .val (.int dd), .val (.int fz), .val (.int (2 : Int32)), .val (.int o0), .val (.int o1), .val (.int o2), .val (.int dn), .val (.int (((own_nz o0) + (own_nz o1)) + (own_nz o2))), .val (.ref dv), .val (.ref fv), .val (.ref sv), .val (.int o2), .val (.int d2), .val (.int o0), .unset, .unset, .unset, .unset] [])) tgt
      refine XS.iload X36.here hx rfl (hb hby at_223) rfl ?_
      show Steps p.tables e below (T36.setTop (mkF m 225 #[.val (.int d0), .val (.int d1), .val (.int d2), .val (.int sl), .val (.int dd), .val (.int fz), .val (.int (2 : Int32)), .val (.int o0), .val (.int o1), .val (.int o2), .val (.int dn), .val (.int (((own_nz o0) + (own_nz o1)) + (own_nz o2))), .val (.ref dv), .val (.ref fv), .val (.ref sv), .val (.int o2), .val (.int d2), .val (.int o0), .unset, .unset, .unset, .unset] [(.int o1)])) tgt
      refine XS.istore X36.here hx rfl (hb hby at_225) rfl (l' := #[.val (.int d0), .val (.int d1), .val (.int d2), .val (.int sl), .val (.int dd), .val (.int fz), .val (.int (2 : Int32)), .val (.int o0), .val (.int o1), .val (.int o2), .val (.int dn), .val (.int (((own_nz o0) + (own_nz o1)) + (own_nz o2))), .val (.ref dv), .val (.ref fv), .val (.ref sv), .val (.int o2), .val (.int d2), .val (.int o0), .val (.int o1), .unset, .unset, .unset]) rfl ?_
      show Steps p.tables e below (T36.setTop (mkF m 227 #[.val (.int d0), .val (.int d1), .val (.int d2), .val (.int sl), .val (.int dd), .val (.int fz), .val (.int (2 : Int32)), .val (.int o0), .val (.int o1), .val (.int o2), .val (.int dn), .val (.int (((own_nz o0) + (own_nz o1)) + (own_nz o2))), .val (.ref dv), .val (.ref fv), .val (.ref sv), .val (.int o2), .val (.int d2), .val (.int o0), .val (.int o1), .unset, .unset, .unset] [])) tgt
      refine XS.iload X36.here hx rfl (hb hby at_227) rfl ?_
      show Steps p.tables e below (T36.setTop (mkF m 229 #[.val (.int d0), .val (.int d1), .val (.int d2), .val (.int sl), .val (.int dd), .val (.int fz), .val (.int (2 : Int32)), .val (.int o0), .val (.int o1), .val (.int o2), .val (.int dn), .val (.int (((own_nz o0) + (own_nz o1)) + (own_nz o2))), .val (.ref dv), .val (.ref fv), .val (.ref sv), .val (.int o2), .val (.int d2), .val (.int o0), .val (.int o1), .unset, .unset, .unset] [(.int (2 : Int32))])) tgt
      refine XS.iconst X36.here hx rfl (hb hby at_229) ?_
      show Steps p.tables e below (T36.setTop (mkF m 230 #[.val (.int d0), .val (.int d1), .val (.int d2), .val (.int sl), .val (.int dd), .val (.int fz), .val (.int (2 : Int32)), .val (.int o0), .val (.int o1), .val (.int o2), .val (.int dn), .val (.int (((own_nz o0) + (own_nz o1)) + (own_nz o2))), .val (.ref dv), .val (.ref fv), .val (.ref sv), .val (.int o2), .val (.int d2), .val (.int o0), .val (.int o1), .unset, .unset, .unset] [(.int (2 : Int32)), (.int (2 : Int32))])) tgt
      refine XS.icmpNo X36.here hx rfl (hb hby at_230) rfl (teq (by decide : (2 : Int32) = (2 : Int32))).2 ?_
      show Steps p.tables e below (T36.setTop (mkF m 233 #[.val (.int d0), .val (.int d1), .val (.int d2), .val (.int sl), .val (.int dd), .val (.int fz), .val (.int (2 : Int32)), .val (.int o0), .val (.int o1), .val (.int o2), .val (.int dn), .val (.int (((own_nz o0) + (own_nz o1)) + (own_nz o2))), .val (.ref dv), .val (.ref fv), .val (.ref sv), .val (.int o2), .val (.int d2), .val (.int o0), .val (.int o1), .unset, .unset, .unset] [])) tgt
      refine XS.iload X36.here hx rfl (hb hby at_233) rfl ?_
      show Steps p.tables e below (T36.setTop (mkF m 235 #[.val (.int d0), .val (.int d1), .val (.int d2), .val (.int sl), .val (.int dd), .val (.int fz), .val (.int (2 : Int32)), .val (.int o0), .val (.int o1), .val (.int o2), .val (.int dn), .val (.int (((own_nz o0) + (own_nz o1)) + (own_nz o2))), .val (.ref dv), .val (.ref fv), .val (.ref sv), .val (.int o2), .val (.int d2), .val (.int o0), .val (.int o1), .unset, .unset, .unset] [(.int dn)])) tgt
      refine XS.goto X36.here hx rfl (pc0 := 235) (pc' := 240) rfl (hb hby at_235) (by decide) (by decide) ?_
      show Steps p.tables e below (T36.setTop (mkF m 240 #[.val (.int d0), .val (.int d1), .val (.int d2), .val (.int sl), .val (.int dd), .val (.int fz), .val (.int (2 : Int32)), .val (.int o0), .val (.int o1), .val (.int o2), .val (.int dn), .val (.int (((own_nz o0) + (own_nz o1)) + (own_nz o2))), .val (.ref dv), .val (.ref fv), .val (.ref sv), .val (.int o2), .val (.int d2), .val (.int o0), .val (.int o1), .unset, .unset, .unset] [(.int dn)])) tgt
      refine XS.istore X36.here hx rfl (hb hby at_240) rfl (l' := #[.val (.int d0), .val (.int d1), .val (.int d2), .val (.int sl), .val (.int dd), .val (.int fz), .val (.int (2 : Int32)), .val (.int o0), .val (.int o1), .val (.int o2), .val (.int dn), .val (.int (((own_nz o0) + (own_nz o1)) + (own_nz o2))), .val (.ref dv), .val (.ref fv), .val (.ref sv), .val (.int o2), .val (.int d2), .val (.int o0), .val (.int o1), .val (.int dn), .unset, .unset]) rfl ?_
      show Steps p.tables e below (T36.setTop (mkF m 242 #[.val (.int d0), .val (.int d1), .val (.int d2), .val (.int sl), .val (.int dd), .val (.int fz), .val (.int (2 : Int32)), .val (.int o0), .val (.int o1), .val (.int o2), .val (.int dn), .val (.int (((own_nz o0) + (own_nz o1)) + (own_nz o2))), .val (.ref dv), .val (.ref fv), .val (.ref sv), .val (.int o2), .val (.int d2), .val (.int o0), .val (.int o1), .val (.int dn), .unset, .unset] [])) tgt
      refine XS.iload X36.here hx rfl (hb hby at_242) rfl ?_
      show Steps p.tables e below (T36.setTop (mkF m 244 #[.val (.int d0), .val (.int d1), .val (.int d2), .val (.int sl), .val (.int dd), .val (.int fz), .val (.int (2 : Int32)), .val (.int o0), .val (.int o1), .val (.int o2), .val (.int dn), .val (.int (((own_nz o0) + (own_nz o1)) + (own_nz o2))), .val (.ref dv), .val (.ref fv), .val (.ref sv), .val (.int o2), .val (.int d2), .val (.int o0), .val (.int o1), .val (.int dn), .unset, .unset] [(.int (((own_nz o0) + (own_nz o1)) + (own_nz o2)))])) tgt
      refine XS.iload X36.here hx rfl (hb hby at_244) rfl ?_
      exact k
    obtain ⟨xs, hxs⟩ : ∃ z : Int32, z = (if o2 = (0 : Int32) then (1 : Int32) else (0 : Int32)) := ⟨_, rfl⟩
    refine own_st (V := T36.setTop (mkF m 254 #[.val (.int d0), .val (.int d1), .val (.int d2), .val (.int sl), .val (.int dd), .val (.int fz), .val (.int (2 : Int32)), .val (.int o0), .val (.int o1), .val (.int o2), .val (.int dn), .val (.int (((own_nz o0) + (own_nz o1)) + (own_nz o2))), .val (.ref dv), .val (.ref fv), .val (.ref sv), .val (.int o2), .val (.int d2), .val (.int o0), .val (.int o1), .val (.int dn), .unset, .unset] [(.int xs), (.int (((own_nz o0) + (own_nz o1)) + (own_nz o2)))])) (fun tgt k => ?_) ?_
    · skip
      by_cases hc246_2 : o2 = (0 : Int32)
      · skip
        rw [if_pos hc246_2] at hxs
        show Steps p.tables e below (T36.setTop (mkF m 246 #[.val (.int d0), .val (.int d1), .val (.int d2), .val (.int sl), .val (.int dd), .val (.int fz), .val (.int (2 : Int32)), .val (.int o0), .val (.int o1), .val (.int o2), .val (.int dn), .val (.int (((own_nz o0) + (own_nz o1)) + (own_nz o2))), .val (.ref dv), .val (.ref fv), .val (.ref sv), .val (.int o2), .val (.int d2), .val (.int o0), .val (.int o1), .val (.int dn), .unset, .unset] [(.int o2), (.int (((own_nz o0) + (own_nz o1)) + (own_nz o2)))])) tgt
        refine XS.ifNo X36.here hx rfl (hb hby at_246) rfl ((if0 _ _).trans (teq hc246_2).2) ?_
        show Steps p.tables e below (T36.setTop (mkF m 249 #[.val (.int d0), .val (.int d1), .val (.int d2), .val (.int sl), .val (.int dd), .val (.int fz), .val (.int (2 : Int32)), .val (.int o0), .val (.int o1), .val (.int o2), .val (.int dn), .val (.int (((own_nz o0) + (own_nz o1)) + (own_nz o2))), .val (.ref dv), .val (.ref fv), .val (.ref sv), .val (.int o2), .val (.int d2), .val (.int o0), .val (.int o1), .val (.int dn), .unset, .unset] [(.int (((own_nz o0) + (own_nz o1)) + (own_nz o2)))])) tgt
        refine XS.iconst X36.here hx rfl (hb hby at_249) ?_
        show Steps p.tables e below (T36.setTop (mkF m 250 #[.val (.int d0), .val (.int d1), .val (.int d2), .val (.int sl), .val (.int dd), .val (.int fz), .val (.int (2 : Int32)), .val (.int o0), .val (.int o1), .val (.int o2), .val (.int dn), .val (.int (((own_nz o0) + (own_nz o1)) + (own_nz o2))), .val (.ref dv), .val (.ref fv), .val (.ref sv), .val (.int o2), .val (.int d2), .val (.int o0), .val (.int o1), .val (.int dn), .unset, .unset] [(.int (1 : Int32)), (.int (((own_nz o0) + (own_nz o1)) + (own_nz o2)))])) tgt
        refine XS.goto X36.here hx rfl (pc0 := 250) (pc' := 254) rfl (hb hby at_250) (by decide) (by decide) ?_
        rw [hxs] at k
        exact k
      · skip
        rw [if_neg hc246_2] at hxs
        show Steps p.tables e below (T36.setTop (mkF m 246 #[.val (.int d0), .val (.int d1), .val (.int d2), .val (.int sl), .val (.int dd), .val (.int fz), .val (.int (2 : Int32)), .val (.int o0), .val (.int o1), .val (.int o2), .val (.int dn), .val (.int (((own_nz o0) + (own_nz o1)) + (own_nz o2))), .val (.ref dv), .val (.ref fv), .val (.ref sv), .val (.int o2), .val (.int d2), .val (.int o0), .val (.int o1), .val (.int dn), .unset, .unset] [(.int o2), (.int (((own_nz o0) + (own_nz o1)) + (own_nz o2)))])) tgt
        refine XS.ifYes X36.here hx rfl (pc0 := 246) (pc' := 253) rfl (hb hby at_246) rfl ((if0 _ _).trans (feq hc246_2).2) (by decide) (by decide) ?_
        show Steps p.tables e below (T36.setTop (mkF m 253 #[.val (.int d0), .val (.int d1), .val (.int d2), .val (.int sl), .val (.int dd), .val (.int fz), .val (.int (2 : Int32)), .val (.int o0), .val (.int o1), .val (.int o2), .val (.int dn), .val (.int (((own_nz o0) + (own_nz o1)) + (own_nz o2))), .val (.ref dv), .val (.ref fv), .val (.ref sv), .val (.int o2), .val (.int d2), .val (.int o0), .val (.int o1), .val (.int dn), .unset, .unset] [(.int (((own_nz o0) + (own_nz o1)) + (own_nz o2)))])) tgt
        refine XS.iconst X36.here hx rfl (hb hby at_253) ?_
        rw [hxs] at k
        exact k
    refine own_st (V := T36.setTop (mkF m 259 #[.val (.int d0), .val (.int d1), .val (.int d2), .val (.int sl), .val (.int dd), .val (.int fz), .val (.int (2 : Int32)), .val (.int o0), .val (.int o1), .val (.int o2), .val (.int dn), .val (.int (((own_nz o0) + (own_nz o1)) + (own_nz o2))), .val (.ref dv), .val (.ref fv), .val (.ref sv), .val (.int o2), .val (.int d2), .val (.int o0), .val (.int o1), .val (.int dn), .val (.int ((((own_nz o0) + (own_nz o1)) + (own_nz o2)) + xs)), .unset] [(.int o0)])) (fun tgt k => ?_) ?_
    · show Steps p.tables e below (T36.setTop (mkF m 254 #[.val (.int d0), .val (.int d1), .val (.int d2), .val (.int sl), .val (.int dd), .val (.int fz), .val (.int (2 : Int32)), .val (.int o0), .val (.int o1), .val (.int o2), .val (.int dn), .val (.int (((own_nz o0) + (own_nz o1)) + (own_nz o2))), .val (.ref dv), .val (.ref fv), .val (.ref sv), .val (.int o2), .val (.int d2), .val (.int o0), .val (.int o1), .val (.int dn), .unset, .unset] [(.int xs), (.int (((own_nz o0) + (own_nz o1)) + (own_nz o2)))])) tgt
      refine XS.iadd X36.here hx rfl (hb hby at_254) rfl ?_
      show Steps p.tables e below (T36.setTop (mkF m 255 #[.val (.int d0), .val (.int d1), .val (.int d2), .val (.int sl), .val (.int dd), .val (.int fz), .val (.int (2 : Int32)), .val (.int o0), .val (.int o1), .val (.int o2), .val (.int dn), .val (.int (((own_nz o0) + (own_nz o1)) + (own_nz o2))), .val (.ref dv), .val (.ref fv), .val (.ref sv), .val (.int o2), .val (.int d2), .val (.int o0), .val (.int o1), .val (.int dn), .unset, .unset] [(.int ((((own_nz o0) + (own_nz o1)) + (own_nz o2)) + xs))])) tgt
      refine XS.istore X36.here hx rfl (hb hby at_255) rfl (l' := #[.val (.int d0), .val (.int d1), .val (.int d2), .val (.int sl), .val (.int dd), .val (.int fz), .val (.int (2 : Int32)), .val (.int o0), .val (.int o1), .val (.int o2), .val (.int dn), .val (.int (((own_nz o0) + (own_nz o1)) + (own_nz o2))), .val (.ref dv), .val (.ref fv), .val (.ref sv), .val (.int o2), .val (.int d2), .val (.int o0), .val (.int o1), .val (.int dn), .val (.int ((((own_nz o0) + (own_nz o1)) + (own_nz o2)) + xs)), .unset]) rfl ?_
      show Steps p.tables e below (T36.setTop (mkF m 257 #[.val (.int d0), .val (.int d1), .val (.int d2), .val (.int sl), .val (.int dd), .val (.int fz), .val (.int (2 : Int32)), .val (.int o0), .val (.int o1), .val (.int o2), .val (.int dn), .val (.int (((own_nz o0) + (own_nz o1)) + (own_nz o2))), .val (.ref dv), .val (.ref fv), .val (.ref sv), .val (.int o2), .val (.int d2), .val (.int o0), .val (.int o1), .val (.int dn), .val (.int ((((own_nz o0) + (own_nz o1)) + (own_nz o2)) + xs)), .unset] [])) tgt
      refine XS.iload X36.here hx rfl (hb hby at_257) rfl ?_
      exact k
    obtain ⟨_, _, ⟨T37, L37, k37, n37⟩, -, X37, ⟨Lc37, hQ37, l37, y37, z37⟩, st37⟩ := Jvm.LawKit.callS X36 hx (y := (⟨"com/example/chainwright/chainwright/StateChoosePinLaw", "nz", "(I)I"⟩ : MethodName)) hown (mvT hZ (hw _ (List.mem_of_getElem? (i := 1) rfl))) (mvT hZ (hw _ (List.mem_of_getElem? (i := 2) rfl))) (mvT hZ (hw _ (List.mem_of_getElem? (i := 3) rfl))) (mvT hZ (hw _ (List.mem_of_getElem? (i := 4) rfl))) (by decide) (backOf (W := 0) (rm1 l Z a0 hw [] o0 T36.heap n0 Zs36 ) hZ (hw _ (List.mem_of_getElem? (i := 4) rfl)) (hw _ (List.mem_of_getElem? (i := 3) rfl)) (by decide) (by decide)) (g := (mkF m 259 #[.val (.int d0), .val (.int d1), .val (.int d2), .val (.int sl), .val (.int dd), .val (.int fz), .val (.int (2 : Int32)), .val (.int o0), .val (.int o1), .val (.int o2), .val (.int dn), .val (.int (((own_nz o0) + (own_nz o1)) + (own_nz o2))), .val (.ref dv), .val (.ref fv), .val (.ref sv), .val (.int o2), .val (.int d2), .val (.int o0), .val (.int o1), .val (.int dn), .val (.int ((((own_nz o0) + (own_nz o1)) + (own_nz o2)) + xs)), .unset] [(.int o0)])) rfl (by rw [hml]; rfl) (argsL := [(.int o0)]) (rest := []) (lenOf pd_0_0 rfl) rfl (by show 2 * 0 + _ ≤ _; exact Nat.le_of_eq rfl) (hb hby at_259) (fun _ _ => ⟨rfl, rfl, (by decide : 3 + 0 ≤ _), (by decide : 9 + 0 ≤ _)⟩)
    dsimp only [Pt.U, Pt.locs, Pt.cells, Pt.slots] at X37 l37 y37 z37 st37 hQ37
    subst l37 y37 z37
    obtain ⟨rfl, N37q, K37⟩ := hQ37
    have N37 := Fr.app N36 N37q
    refine own_st st37 ?_
    show own_Go p e below _ (T37.setTop (mkF m 262 #[.val (.int d0), .val (.int d1), .val (.int d2), .val (.int sl), .val (.int dd), .val (.int fz), .val (.int (2 : Int32)), .val (.int o0), .val (.int o1), .val (.int o2), .val (.int dn), .val (.int (((own_nz o0) + (own_nz o1)) + (own_nz o2))), .val (.ref dv), .val (.ref fv), .val (.ref sv), .val (.int o2), .val (.int d2), .val (.int o0), .val (.int o1), .val (.int dn), .val (.int ((((own_nz o0) + (own_nz o1)) + (own_nz o2)) + xs)), .unset] [(.int (own_nz o0))]))
    refine own_st (V := T37.setTop (mkF m 264 #[.val (.int d0), .val (.int d1), .val (.int d2), .val (.int sl), .val (.int dd), .val (.int fz), .val (.int (2 : Int32)), .val (.int o0), .val (.int o1), .val (.int o2), .val (.int dn), .val (.int (((own_nz o0) + (own_nz o1)) + (own_nz o2))), .val (.ref dv), .val (.ref fv), .val (.ref sv), .val (.int o2), .val (.int d2), .val (.int o0), .val (.int o1), .val (.int dn), .val (.int ((((own_nz o0) + (own_nz o1)) + (own_nz o2)) + xs)), .unset] [(.int o1), (.int (own_nz o0))])) (fun tgt k => ?_) ?_
    · show Steps p.tables e below (T37.setTop (mkF m 262 #[.val (.int d0), .val (.int d1), .val (.int d2), .val (.int sl), .val (.int dd), .val (.int fz), .val (.int (2 : Int32)), .val (.int o0), .val (.int o1), .val (.int o2), .val (.int dn), .val (.int (((own_nz o0) + (own_nz o1)) + (own_nz o2))), .val (.ref dv), .val (.ref fv), .val (.ref sv), .val (.int o2), .val (.int d2), .val (.int o0), .val (.int o1), .val (.int dn), .val (.int ((((own_nz o0) + (own_nz o1)) + (own_nz o2)) + xs)), .unset] [(.int (own_nz o0))])) tgt
      refine XS.iload X37.here hx rfl (hb hby at_262) rfl ?_
      exact k
    obtain ⟨_, _, ⟨T38, L38, k38, n38⟩, -, X38, ⟨Lc38, hQ38, l38, y38, z38⟩, st38⟩ := Jvm.LawKit.callS X37 hx (y := (⟨"com/example/chainwright/chainwright/StateChoosePinLaw", "nz", "(I)I"⟩ : MethodName)) hown (mvT hZ (hw _ (List.mem_of_getElem? (i := 1) rfl))) (mvT hZ (hw _ (List.mem_of_getElem? (i := 2) rfl))) (mvT hZ (hw _ (List.mem_of_getElem? (i := 3) rfl))) (mvT hZ (hw _ (List.mem_of_getElem? (i := 4) rfl))) (by decide) (backOf (W := 1) (rm1 l Z a0 hw [] o1 T36.heap n0 Zs36 ) hZ (hw _ (List.mem_of_getElem? (i := 4) rfl)) (hw _ (List.mem_of_getElem? (i := 3) rfl)) (by decide) (by decide)) (g := (mkF m 264 #[.val (.int d0), .val (.int d1), .val (.int d2), .val (.int sl), .val (.int dd), .val (.int fz), .val (.int (2 : Int32)), .val (.int o0), .val (.int o1), .val (.int o2), .val (.int dn), .val (.int (((own_nz o0) + (own_nz o1)) + (own_nz o2))), .val (.ref dv), .val (.ref fv), .val (.ref sv), .val (.int o2), .val (.int d2), .val (.int o0), .val (.int o1), .val (.int dn), .val (.int ((((own_nz o0) + (own_nz o1)) + (own_nz o2)) + xs)), .unset] [(.int o1), (.int (own_nz o0))])) rfl (by rw [hml]; rfl) (argsL := [(.int o1)]) (rest := [(.int (own_nz o0))]) (lenOf pd_0_0 rfl) rfl (by show 2 * 0 + _ ≤ _; exact Nat.le_of_eq rfl) (hb hby at_264) (fun _ _ => ⟨rfl, K37, (by decide : 3 + 0 ≤ _), (by decide : 9 + 0 ≤ _)⟩)
    dsimp only [Pt.U, Pt.locs, Pt.cells, Pt.slots] at X38 l38 y38 z38 st38 hQ38
    subst l38 y38 z38
    obtain ⟨rfl, N38q, K38⟩ := hQ38
    have N38 := Fr.app N37 N38q
    refine own_st st38 ?_
    show own_Go p e below _ (T38.setTop (mkF m 267 #[.val (.int d0), .val (.int d1), .val (.int d2), .val (.int sl), .val (.int dd), .val (.int fz), .val (.int (2 : Int32)), .val (.int o0), .val (.int o1), .val (.int o2), .val (.int dn), .val (.int (((own_nz o0) + (own_nz o1)) + (own_nz o2))), .val (.ref dv), .val (.ref fv), .val (.ref sv), .val (.int o2), .val (.int d2), .val (.int o0), .val (.int o1), .val (.int dn), .val (.int ((((own_nz o0) + (own_nz o1)) + (own_nz o2)) + xs)), .unset] [(.int (own_nz o1)), (.int (own_nz o0))]))
    refine own_st (V := T38.setTop (mkF m 270 #[.val (.int d0), .val (.int d1), .val (.int d2), .val (.int sl), .val (.int dd), .val (.int fz), .val (.int (2 : Int32)), .val (.int o0), .val (.int o1), .val (.int o2), .val (.int dn), .val (.int (((own_nz o0) + (own_nz o1)) + (own_nz o2))), .val (.ref dv), .val (.ref fv), .val (.ref sv), .val (.int o2), .val (.int d2), .val (.int o0), .val (.int o1), .val (.int dn), .val (.int ((((own_nz o0) + (own_nz o1)) + (own_nz o2)) + xs)), .unset] [(.int dn), (.int ((own_nz o0) + (own_nz o1)))])) (fun tgt k => ?_) ?_
    · show Steps p.tables e below (T38.setTop (mkF m 267 #[.val (.int d0), .val (.int d1), .val (.int d2), .val (.int sl), .val (.int dd), .val (.int fz), .val (.int (2 : Int32)), .val (.int o0), .val (.int o1), .val (.int o2), .val (.int dn), .val (.int (((own_nz o0) + (own_nz o1)) + (own_nz o2))), .val (.ref dv), .val (.ref fv), .val (.ref sv), .val (.int o2), .val (.int d2), .val (.int o0), .val (.int o1), .val (.int dn), .val (.int ((((own_nz o0) + (own_nz o1)) + (own_nz o2)) + xs)), .unset] [(.int (own_nz o1)), (.int (own_nz o0))])) tgt
      refine XS.iadd X38.here hx rfl (hb hby at_267) rfl ?_
      show Steps p.tables e below (T38.setTop (mkF m 268 #[.val (.int d0), .val (.int d1), .val (.int d2), .val (.int sl), .val (.int dd), .val (.int fz), .val (.int (2 : Int32)), .val (.int o0), .val (.int o1), .val (.int o2), .val (.int dn), .val (.int (((own_nz o0) + (own_nz o1)) + (own_nz o2))), .val (.ref dv), .val (.ref fv), .val (.ref sv), .val (.int o2), .val (.int d2), .val (.int o0), .val (.int o1), .val (.int dn), .val (.int ((((own_nz o0) + (own_nz o1)) + (own_nz o2)) + xs)), .unset] [(.int ((own_nz o0) + (own_nz o1)))])) tgt
      refine XS.iload X38.here hx rfl (hb hby at_268) rfl ?_
      exact k
    obtain ⟨_, _, ⟨T39, L39, k39, n39⟩, -, X39, ⟨Lc39, hQ39, l39, y39, z39⟩, st39⟩ := Jvm.LawKit.callS X38 hx (y := (⟨"com/example/chainwright/chainwright/StateChoosePinLaw", "nz", "(I)I"⟩ : MethodName)) hown (mvT hZ (hw _ (List.mem_of_getElem? (i := 1) rfl))) (mvT hZ (hw _ (List.mem_of_getElem? (i := 2) rfl))) (mvT hZ (hw _ (List.mem_of_getElem? (i := 3) rfl))) (mvT hZ (hw _ (List.mem_of_getElem? (i := 4) rfl))) (by decide) (backOf (W := 1) (rm1 l Z a0 hw [] dn T36.heap n0 Zs36 ) hZ (hw _ (List.mem_of_getElem? (i := 4) rfl)) (hw _ (List.mem_of_getElem? (i := 3) rfl)) (by decide) (by decide)) (g := (mkF m 270 #[.val (.int d0), .val (.int d1), .val (.int d2), .val (.int sl), .val (.int dd), .val (.int fz), .val (.int (2 : Int32)), .val (.int o0), .val (.int o1), .val (.int o2), .val (.int dn), .val (.int (((own_nz o0) + (own_nz o1)) + (own_nz o2))), .val (.ref dv), .val (.ref fv), .val (.ref sv), .val (.int o2), .val (.int d2), .val (.int o0), .val (.int o1), .val (.int dn), .val (.int ((((own_nz o0) + (own_nz o1)) + (own_nz o2)) + xs)), .unset] [(.int dn), (.int ((own_nz o0) + (own_nz o1)))])) rfl (by rw [hml]; rfl) (argsL := [(.int dn)]) (rest := [(.int ((own_nz o0) + (own_nz o1)))]) (lenOf pd_0_0 rfl) rfl (by show 2 * 0 + _ ≤ _; exact Nat.le_of_eq rfl) (hb hby at_270) (fun _ _ => ⟨rfl, K38, (by decide : 3 + 0 ≤ _), (by decide : 9 + 0 ≤ _)⟩)
    dsimp only [Pt.U, Pt.locs, Pt.cells, Pt.slots] at X39 l39 y39 z39 st39 hQ39
    subst l39 y39 z39
    obtain ⟨rfl, N39q, K39⟩ := hQ39
    have N39 := Fr.app N38 N39q
    refine own_st st39 ?_
    show own_Go p e below _ (T39.setTop (mkF m 273 #[.val (.int d0), .val (.int d1), .val (.int d2), .val (.int sl), .val (.int dd), .val (.int fz), .val (.int (2 : Int32)), .val (.int o0), .val (.int o1), .val (.int o2), .val (.int dn), .val (.int (((own_nz o0) + (own_nz o1)) + (own_nz o2))), .val (.ref dv), .val (.ref fv), .val (.ref sv), .val (.int o2), .val (.int d2), .val (.int o0), .val (.int o1), .val (.int dn), .val (.int ((((own_nz o0) + (own_nz o1)) + (own_nz o2)) + xs)), .unset] [(.int (own_nz dn)), (.int ((own_nz o0) + (own_nz o1)))]))
    refine own_st (V := T39.setTop (mkF m 279 #[.val (.int d0), .val (.int d1), .val (.int d2), .val (.int sl), .val (.int dd), .val (.int fz), .val (.int (2 : Int32)), .val (.int o0), .val (.int o1), .val (.int o2), .val (.int dn), .val (.int (((own_nz o0) + (own_nz o1)) + (own_nz o2))), .val (.ref dv), .val (.ref fv), .val (.ref sv), .val (.int o2), .val (.int d2), .val (.int o0), .val (.int o1), .val (.int dn), .val (.int ((((own_nz o0) + (own_nz o1)) + (own_nz o2)) + xs)), .val (.int (((own_nz o0) + (own_nz o1)) + (own_nz dn)))] [(.int (0 : Int32)), (.ref sv)])) (fun tgt k => ?_) ?_
    · show Steps p.tables e below (T39.setTop (mkF m 273 #[.val (.int d0), .val (.int d1), .val (.int d2), .val (.int sl), .val (.int dd), .val (.int fz), .val (.int (2 : Int32)), .val (.int o0), .val (.int o1), .val (.int o2), .val (.int dn), .val (.int (((own_nz o0) + (own_nz o1)) + (own_nz o2))), .val (.ref dv), .val (.ref fv), .val (.ref sv), .val (.int o2), .val (.int d2), .val (.int o0), .val (.int o1), .val (.int dn), .val (.int ((((own_nz o0) + (own_nz o1)) + (own_nz o2)) + xs)), .unset] [(.int (own_nz dn)), (.int ((own_nz o0) + (own_nz o1)))])) tgt
      refine XS.iadd X39.here hx rfl (hb hby at_273) rfl ?_
      show Steps p.tables e below (T39.setTop (mkF m 274 #[.val (.int d0), .val (.int d1), .val (.int d2), .val (.int sl), .val (.int dd), .val (.int fz), .val (.int (2 : Int32)), .val (.int o0), .val (.int o1), .val (.int o2), .val (.int dn), .val (.int (((own_nz o0) + (own_nz o1)) + (own_nz o2))), .val (.ref dv), .val (.ref fv), .val (.ref sv), .val (.int o2), .val (.int d2), .val (.int o0), .val (.int o1), .val (.int dn), .val (.int ((((own_nz o0) + (own_nz o1)) + (own_nz o2)) + xs)), .unset] [(.int (((own_nz o0) + (own_nz o1)) + (own_nz dn)))])) tgt
      refine XS.istore X39.here hx rfl (hb hby at_274) rfl (l' := #[.val (.int d0), .val (.int d1), .val (.int d2), .val (.int sl), .val (.int dd), .val (.int fz), .val (.int (2 : Int32)), .val (.int o0), .val (.int o1), .val (.int o2), .val (.int dn), .val (.int (((own_nz o0) + (own_nz o1)) + (own_nz o2))), .val (.ref dv), .val (.ref fv), .val (.ref sv), .val (.int o2), .val (.int d2), .val (.int o0), .val (.int o1), .val (.int dn), .val (.int ((((own_nz o0) + (own_nz o1)) + (own_nz o2)) + xs)), .val (.int (((own_nz o0) + (own_nz o1)) + (own_nz dn)))]) rfl ?_
      show Steps p.tables e below (T39.setTop (mkF m 276 #[.val (.int d0), .val (.int d1), .val (.int d2), .val (.int sl), .val (.int dd), .val (.int fz), .val (.int (2 : Int32)), .val (.int o0), .val (.int o1), .val (.int o2), .val (.int dn), .val (.int (((own_nz o0) + (own_nz o1)) + (own_nz o2))), .val (.ref dv), .val (.ref fv), .val (.ref sv), .val (.int o2), .val (.int d2), .val (.int o0), .val (.int o1), .val (.int dn), .val (.int ((((own_nz o0) + (own_nz o1)) + (own_nz o2)) + xs)), .val (.int (((own_nz o0) + (own_nz o1)) + (own_nz dn)))] [])) tgt
      refine XS.aload X39.here hx rfl (hb hby at_276) rfl rfl ?_
      show Steps p.tables e below (T39.setTop (mkF m 278 #[.val (.int d0), .val (.int d1), .val (.int d2), .val (.int sl), .val (.int dd), .val (.int fz), .val (.int (2 : Int32)), .val (.int o0), .val (.int o1), .val (.int o2), .val (.int dn), .val (.int (((own_nz o0) + (own_nz o1)) + (own_nz o2))), .val (.ref dv), .val (.ref fv), .val (.ref sv), .val (.int o2), .val (.int d2), .val (.int o0), .val (.int o1), .val (.int dn), .val (.int ((((own_nz o0) + (own_nz o1)) + (own_nz o2)) + xs)), .val (.int (((own_nz o0) + (own_nz o1)) + (own_nz dn)))] [(.ref sv)])) tgt
      refine XS.iconst X39.here hx rfl (hb hby at_278) ?_
      exact k
    obtain ⟨cq40, kq40, q40a, q40b, q40c⟩ := isOf hZ K39 g36_0
    obtain ⟨_, _, ⟨T40, L40, k40, n40⟩, -, X40, ⟨Lc40, hQ40, l40, y40, z40⟩, st40⟩ := X39.virtualBack hx (y := (⟨"com/example/chainwright/chainwright/State", "deadline", "(I)I"⟩ : MethodName)) (z := (⟨"com/example/chainwright/chainwright/State", "deadline", "(I)I"⟩ : MethodName)) hown (mvT hZ (hw _ (List.mem_of_getElem? (i := 31) rfl))) (mvT hZ (hw _ (List.mem_of_getElem? (i := 32) rfl))) (notFace_of_selects (args := #[]) (mvT hZ (hw _ (List.mem_of_getElem? (i := 34) rfl)))) (mvT hZ (hw _ (List.mem_of_getElem? (i := 34) rfl))) (mvT hZ (hw _ (List.mem_of_getElem? (i := 33) rfl))) (by decide) (backOf (W := 0) (rm6 l Z a0 hw [] sv (0 : Int32) dv 3 (own_up (own_up (own_up (own_up (fun _ => 0) 0 o0) 1 o1) 2 o2) 2 dn) 0 T36.heap n0 Zs36 g36_1 g36_4 (by first | assumption | decide | rfl) (by first | assumption | decide | rfl)) hZ (hw _ (List.mem_of_getElem? (i := 35) rfl)) (hw _ (List.mem_of_getElem? (i := 8) rfl)) (by decide) (by decide)) q40a q40c (g := (mkF m 279 #[.val (.int d0), .val (.int d1), .val (.int d2), .val (.int sl), .val (.int dd), .val (.int fz), .val (.int (2 : Int32)), .val (.int o0), .val (.int o1), .val (.int o2), .val (.int dn), .val (.int (((own_nz o0) + (own_nz o1)) + (own_nz o2))), .val (.ref dv), .val (.ref fv), .val (.ref sv), .val (.int o2), .val (.int d2), .val (.int o0), .val (.int o1), .val (.int dn), .val (.int ((((own_nz o0) + (own_nz o1)) + (own_nz o2)) + xs)), .val (.int (((own_nz o0) + (own_nz o1)) + (own_nz dn)))] [(.int (0 : Int32)), (.ref sv)])) rfl (by rw [hml]; rfl) (Steps.refl _) (argsL := [(.int (0 : Int32))]) (rest := []) (lenOf pd_0_0 rfl) rfl (by show 2 * 0 + _ ≤ _; exact Nat.le_of_eq rfl) (hb hby at_279) (fun _ _ => ⟨rfl, K39, (by decide : 3 + 0 ≤ _), (by decide : 9 + 0 ≤ _)⟩)
    dsimp only [Pt.U, Pt.locs, Pt.cells, Pt.slots] at X40 l40 y40 z40 st40 hQ40
    subst l40 y40 z40
    obtain ⟨rfl, N40q, K40⟩ := hQ40
    have N40 := Fr.app N39 N40q
    refine own_st (fun tgt k => st40.trans k) ?_
    show own_Go p e below _ (T40.setTop (mkF m 282 #[.val (.int d0), .val (.int d1), .val (.int d2), .val (.int sl), .val (.int dd), .val (.int fz), .val (.int (2 : Int32)), .val (.int o0), .val (.int o1), .val (.int o2), .val (.int dn), .val (.int (((own_nz o0) + (own_nz o1)) + (own_nz o2))), .val (.ref dv), .val (.ref fv), .val (.ref sv), .val (.int o2), .val (.int d2), .val (.int o0), .val (.int o1), .val (.int dn), .val (.int ((((own_nz o0) + (own_nz o1)) + (own_nz o2)) + xs)), .val (.int (((own_nz o0) + (own_nz o1)) + (own_nz dn)))] [(.int ((own_up (own_up (own_up (own_up (fun _ => 0) 0 o0) 1 o1) 2 o2) 2 dn) 0))]))
    refine own_st (V := T40.setTop (mkF m 290 #[.val (.int d0), .val (.int d1), .val (.int d2), .val (.int sl), .val (.int dd), .val (.int fz), .val (.int (2 : Int32)), .val (.int o0), .val (.int o1), .val (.int o2), .val (.int dn), .val (.int (((own_nz o0) + (own_nz o1)) + (own_nz o2))), .val (.ref dv), .val (.ref fv), .val (.ref sv), .val (.int o2), .val (.int d2), .val (.int o0), .val (.int o1), .val (.int dn), .val (.int ((((own_nz o0) + (own_nz o1)) + (own_nz o2)) + xs)), .val (.int (((own_nz o0) + (own_nz o1)) + (own_nz dn)))] [(.int (1 : Int32)), (.ref sv)])) (fun tgt k => ?_) ?_
    · show Steps p.tables e below (T40.setTop (mkF m 282 #[.val (.int d0), .val (.int d1), .val (.int d2), .val (.int sl), .val (.int dd), .val (.int fz), .val (.int (2 : Int32)), .val (.int o0), .val (.int o1), .val (.int o2), .val (.int dn), .val (.int (((own_nz o0) + (own_nz o1)) + (own_nz o2))), .val (.ref dv), .val (.ref fv), .val (.ref sv), .val (.int o2), .val (.int d2), .val (.int o0), .val (.int o1), .val (.int dn), .val (.int ((((own_nz o0) + (own_nz o1)) + (own_nz o2)) + xs)), .val (.int (((own_nz o0) + (own_nz o1)) + (own_nz dn)))] [(.int ((own_up (own_up (own_up (own_up (fun _ => 0) 0 o0) 1 o1) 2 o2) 2 dn) 0))])) tgt
      refine XS.iload X40.here hx rfl (hb hby at_282) rfl ?_
      show Steps p.tables e below (T40.setTop (mkF m 284 #[.val (.int d0), .val (.int d1), .val (.int d2), .val (.int sl), .val (.int dd), .val (.int fz), .val (.int (2 : Int32)), .val (.int o0), .val (.int o1), .val (.int o2), .val (.int dn), .val (.int (((own_nz o0) + (own_nz o1)) + (own_nz o2))), .val (.ref dv), .val (.ref fv), .val (.ref sv), .val (.int o2), .val (.int d2), .val (.int o0), .val (.int o1), .val (.int dn), .val (.int ((((own_nz o0) + (own_nz o1)) + (own_nz o2)) + xs)), .val (.int (((own_nz o0) + (own_nz o1)) + (own_nz dn)))] [(.int o0), (.int ((own_up (own_up (own_up (own_up (fun _ => 0) 0 o0) 1 o1) 2 o2) 2 dn) 0))])) tgt
      refine XS.icmpNo X40.here hx rfl (hb hby at_284) rfl (teq (by simp [own_up])).2 ?_
      show Steps p.tables e below (T40.setTop (mkF m 287 #[.val (.int d0), .val (.int d1), .val (.int d2), .val (.int sl), .val (.int dd), .val (.int fz), .val (.int (2 : Int32)), .val (.int o0), .val (.int o1), .val (.int o2), .val (.int dn), .val (.int (((own_nz o0) + (own_nz o1)) + (own_nz o2))), .val (.ref dv), .val (.ref fv), .val (.ref sv), .val (.int o2), .val (.int d2), .val (.int o0), .val (.int o1), .val (.int dn), .val (.int ((((own_nz o0) + (own_nz o1)) + (own_nz o2)) + xs)), .val (.int (((own_nz o0) + (own_nz o1)) + (own_nz dn)))] [])) tgt
      refine XS.aload X40.here hx rfl (hb hby at_287) rfl rfl ?_
      show Steps p.tables e below (T40.setTop (mkF m 289 #[.val (.int d0), .val (.int d1), .val (.int d2), .val (.int sl), .val (.int dd), .val (.int fz), .val (.int (2 : Int32)), .val (.int o0), .val (.int o1), .val (.int o2), .val (.int dn), .val (.int (((own_nz o0) + (own_nz o1)) + (own_nz o2))), .val (.ref dv), .val (.ref fv), .val (.ref sv), .val (.int o2), .val (.int d2), .val (.int o0), .val (.int o1), .val (.int dn), .val (.int ((((own_nz o0) + (own_nz o1)) + (own_nz o2)) + xs)), .val (.int (((own_nz o0) + (own_nz o1)) + (own_nz dn)))] [(.ref sv)])) tgt
      refine XS.iconst X40.here hx rfl (hb hby at_289) ?_
      exact k
    obtain ⟨cq41, kq41, q41a, q41b, q41c⟩ := isOf hZ K40 g36_0
    obtain ⟨_, _, ⟨T41, L41, k41, n41⟩, -, X41, ⟨Lc41, hQ41, l41, y41, z41⟩, st41⟩ := X40.virtualBack hx (y := (⟨"com/example/chainwright/chainwright/State", "deadline", "(I)I"⟩ : MethodName)) (z := (⟨"com/example/chainwright/chainwright/State", "deadline", "(I)I"⟩ : MethodName)) hown (mvT hZ (hw _ (List.mem_of_getElem? (i := 31) rfl))) (mvT hZ (hw _ (List.mem_of_getElem? (i := 32) rfl))) (notFace_of_selects (args := #[]) (mvT hZ (hw _ (List.mem_of_getElem? (i := 34) rfl)))) (mvT hZ (hw _ (List.mem_of_getElem? (i := 34) rfl))) (mvT hZ (hw _ (List.mem_of_getElem? (i := 33) rfl))) (by decide) (backOf (W := 0) (rm6 l Z a0 hw [] sv (1 : Int32) dv 3 (own_up (own_up (own_up (own_up (fun _ => 0) 0 o0) 1 o1) 2 o2) 2 dn) 1 T36.heap n0 Zs36 g36_1 g36_4 (by first | assumption | decide | rfl) (by first | assumption | decide | rfl)) hZ (hw _ (List.mem_of_getElem? (i := 35) rfl)) (hw _ (List.mem_of_getElem? (i := 8) rfl)) (by decide) (by decide)) q41a q41c (g := (mkF m 290 #[.val (.int d0), .val (.int d1), .val (.int d2), .val (.int sl), .val (.int dd), .val (.int fz), .val (.int (2 : Int32)), .val (.int o0), .val (.int o1), .val (.int o2), .val (.int dn), .val (.int (((own_nz o0) + (own_nz o1)) + (own_nz o2))), .val (.ref dv), .val (.ref fv), .val (.ref sv), .val (.int o2), .val (.int d2), .val (.int o0), .val (.int o1), .val (.int dn), .val (.int ((((own_nz o0) + (own_nz o1)) + (own_nz o2)) + xs)), .val (.int (((own_nz o0) + (own_nz o1)) + (own_nz dn)))] [(.int (1 : Int32)), (.ref sv)])) rfl (by rw [hml]; rfl) (Steps.refl _) (argsL := [(.int (1 : Int32))]) (rest := []) (lenOf pd_0_0 rfl) rfl (by show 2 * 0 + _ ≤ _; exact Nat.le_of_eq rfl) (hb hby at_290) (fun _ _ => ⟨rfl, K40, (by decide : 3 + 0 ≤ _), (by decide : 9 + 0 ≤ _)⟩)
    dsimp only [Pt.U, Pt.locs, Pt.cells, Pt.slots] at X41 l41 y41 z41 st41 hQ41
    subst l41 y41 z41
    obtain ⟨rfl, N41q, K41⟩ := hQ41
    have N41 := Fr.app N40 N41q
    refine own_st (fun tgt k => st41.trans k) ?_
    show own_Go p e below _ (T41.setTop (mkF m 293 #[.val (.int d0), .val (.int d1), .val (.int d2), .val (.int sl), .val (.int dd), .val (.int fz), .val (.int (2 : Int32)), .val (.int o0), .val (.int o1), .val (.int o2), .val (.int dn), .val (.int (((own_nz o0) + (own_nz o1)) + (own_nz o2))), .val (.ref dv), .val (.ref fv), .val (.ref sv), .val (.int o2), .val (.int d2), .val (.int o0), .val (.int o1), .val (.int dn), .val (.int ((((own_nz o0) + (own_nz o1)) + (own_nz o2)) + xs)), .val (.int (((own_nz o0) + (own_nz o1)) + (own_nz dn)))] [(.int ((own_up (own_up (own_up (own_up (fun _ => 0) 0 o0) 1 o1) 2 o2) 2 dn) 1))]))
    refine own_st (V := T41.setTop (mkF m 301 #[.val (.int d0), .val (.int d1), .val (.int d2), .val (.int sl), .val (.int dd), .val (.int fz), .val (.int (2 : Int32)), .val (.int o0), .val (.int o1), .val (.int o2), .val (.int dn), .val (.int (((own_nz o0) + (own_nz o1)) + (own_nz o2))), .val (.ref dv), .val (.ref fv), .val (.ref sv), .val (.int o2), .val (.int d2), .val (.int o0), .val (.int o1), .val (.int dn), .val (.int ((((own_nz o0) + (own_nz o1)) + (own_nz o2)) + xs)), .val (.int (((own_nz o0) + (own_nz o1)) + (own_nz dn)))] [(.int (2 : Int32)), (.ref sv)])) (fun tgt k => ?_) ?_
    · show Steps p.tables e below (T41.setTop (mkF m 293 #[.val (.int d0), .val (.int d1), .val (.int d2), .val (.int sl), .val (.int dd), .val (.int fz), .val (.int (2 : Int32)), .val (.int o0), .val (.int o1), .val (.int o2), .val (.int dn), .val (.int (((own_nz o0) + (own_nz o1)) + (own_nz o2))), .val (.ref dv), .val (.ref fv), .val (.ref sv), .val (.int o2), .val (.int d2), .val (.int o0), .val (.int o1), .val (.int dn), .val (.int ((((own_nz o0) + (own_nz o1)) + (own_nz o2)) + xs)), .val (.int (((own_nz o0) + (own_nz o1)) + (own_nz dn)))] [(.int ((own_up (own_up (own_up (own_up (fun _ => 0) 0 o0) 1 o1) 2 o2) 2 dn) 1))])) tgt
      refine XS.iload X41.here hx rfl (hb hby at_293) rfl ?_
      show Steps p.tables e below (T41.setTop (mkF m 295 #[.val (.int d0), .val (.int d1), .val (.int d2), .val (.int sl), .val (.int dd), .val (.int fz), .val (.int (2 : Int32)), .val (.int o0), .val (.int o1), .val (.int o2), .val (.int dn), .val (.int (((own_nz o0) + (own_nz o1)) + (own_nz o2))), .val (.ref dv), .val (.ref fv), .val (.ref sv), .val (.int o2), .val (.int d2), .val (.int o0), .val (.int o1), .val (.int dn), .val (.int ((((own_nz o0) + (own_nz o1)) + (own_nz o2)) + xs)), .val (.int (((own_nz o0) + (own_nz o1)) + (own_nz dn)))] [(.int o1), (.int ((own_up (own_up (own_up (own_up (fun _ => 0) 0 o0) 1 o1) 2 o2) 2 dn) 1))])) tgt
      refine XS.icmpNo X41.here hx rfl (hb hby at_295) rfl (teq (by simp [own_up])).2 ?_
      show Steps p.tables e below (T41.setTop (mkF m 298 #[.val (.int d0), .val (.int d1), .val (.int d2), .val (.int sl), .val (.int dd), .val (.int fz), .val (.int (2 : Int32)), .val (.int o0), .val (.int o1), .val (.int o2), .val (.int dn), .val (.int (((own_nz o0) + (own_nz o1)) + (own_nz o2))), .val (.ref dv), .val (.ref fv), .val (.ref sv), .val (.int o2), .val (.int d2), .val (.int o0), .val (.int o1), .val (.int dn), .val (.int ((((own_nz o0) + (own_nz o1)) + (own_nz o2)) + xs)), .val (.int (((own_nz o0) + (own_nz o1)) + (own_nz dn)))] [])) tgt
      refine XS.aload X41.here hx rfl (hb hby at_298) rfl rfl ?_
      show Steps p.tables e below (T41.setTop (mkF m 300 #[.val (.int d0), .val (.int d1), .val (.int d2), .val (.int sl), .val (.int dd), .val (.int fz), .val (.int (2 : Int32)), .val (.int o0), .val (.int o1), .val (.int o2), .val (.int dn), .val (.int (((own_nz o0) + (own_nz o1)) + (own_nz o2))), .val (.ref dv), .val (.ref fv), .val (.ref sv), .val (.int o2), .val (.int d2), .val (.int o0), .val (.int o1), .val (.int dn), .val (.int ((((own_nz o0) + (own_nz o1)) + (own_nz o2)) + xs)), .val (.int (((own_nz o0) + (own_nz o1)) + (own_nz dn)))] [(.ref sv)])) tgt
      refine XS.iconst X41.here hx rfl (hb hby at_300) ?_
      exact k
    obtain ⟨cq42, kq42, q42a, q42b, q42c⟩ := isOf hZ K41 g36_0
    obtain ⟨_, _, ⟨T42, L42, k42, n42⟩, -, X42, ⟨Lc42, hQ42, l42, y42, z42⟩, st42⟩ := X41.virtualBack hx (y := (⟨"com/example/chainwright/chainwright/State", "deadline", "(I)I"⟩ : MethodName)) (z := (⟨"com/example/chainwright/chainwright/State", "deadline", "(I)I"⟩ : MethodName)) hown (mvT hZ (hw _ (List.mem_of_getElem? (i := 31) rfl))) (mvT hZ (hw _ (List.mem_of_getElem? (i := 32) rfl))) (notFace_of_selects (args := #[]) (mvT hZ (hw _ (List.mem_of_getElem? (i := 34) rfl)))) (mvT hZ (hw _ (List.mem_of_getElem? (i := 34) rfl))) (mvT hZ (hw _ (List.mem_of_getElem? (i := 33) rfl))) (by decide) (backOf (W := 0) (rm6 l Z a0 hw [] sv (2 : Int32) dv 3 (own_up (own_up (own_up (own_up (fun _ => 0) 0 o0) 1 o1) 2 o2) 2 dn) 2 T36.heap n0 Zs36 g36_1 g36_4 (by first | assumption | decide | rfl) (by first | assumption | decide | rfl)) hZ (hw _ (List.mem_of_getElem? (i := 35) rfl)) (hw _ (List.mem_of_getElem? (i := 8) rfl)) (by decide) (by decide)) q42a q42c (g := (mkF m 301 #[.val (.int d0), .val (.int d1), .val (.int d2), .val (.int sl), .val (.int dd), .val (.int fz), .val (.int (2 : Int32)), .val (.int o0), .val (.int o1), .val (.int o2), .val (.int dn), .val (.int (((own_nz o0) + (own_nz o1)) + (own_nz o2))), .val (.ref dv), .val (.ref fv), .val (.ref sv), .val (.int o2), .val (.int d2), .val (.int o0), .val (.int o1), .val (.int dn), .val (.int ((((own_nz o0) + (own_nz o1)) + (own_nz o2)) + xs)), .val (.int (((own_nz o0) + (own_nz o1)) + (own_nz dn)))] [(.int (2 : Int32)), (.ref sv)])) rfl (by rw [hml]; rfl) (Steps.refl _) (argsL := [(.int (2 : Int32))]) (rest := []) (lenOf pd_0_0 rfl) rfl (by show 2 * 0 + _ ≤ _; exact Nat.le_of_eq rfl) (hb hby at_301) (fun _ _ => ⟨rfl, K41, (by decide : 3 + 0 ≤ _), (by decide : 9 + 0 ≤ _)⟩)
    dsimp only [Pt.U, Pt.locs, Pt.cells, Pt.slots] at X42 l42 y42 z42 st42 hQ42
    subst l42 y42 z42
    obtain ⟨rfl, N42q, K42⟩ := hQ42
    have N42 := Fr.app N41 N42q
    refine own_st (fun tgt k => st42.trans k) ?_
    show own_Go p e below _ (T42.setTop (mkF m 304 #[.val (.int d0), .val (.int d1), .val (.int d2), .val (.int sl), .val (.int dd), .val (.int fz), .val (.int (2 : Int32)), .val (.int o0), .val (.int o1), .val (.int o2), .val (.int dn), .val (.int (((own_nz o0) + (own_nz o1)) + (own_nz o2))), .val (.ref dv), .val (.ref fv), .val (.ref sv), .val (.int o2), .val (.int d2), .val (.int o0), .val (.int o1), .val (.int dn), .val (.int ((((own_nz o0) + (own_nz o1)) + (own_nz o2)) + xs)), .val (.int (((own_nz o0) + (own_nz o1)) + (own_nz dn)))] [(.int ((own_up (own_up (own_up (own_up (fun _ => 0) 0 o0) 1 o1) 2 o2) 2 dn) 2))]))
    refine own_st (V := T42.setTop (mkF m 311 #[.val (.int d0), .val (.int d1), .val (.int d2), .val (.int sl), .val (.int dd), .val (.int fz), .val (.int (2 : Int32)), .val (.int o0), .val (.int o1), .val (.int o2), .val (.int dn), .val (.int (((own_nz o0) + (own_nz o1)) + (own_nz o2))), .val (.ref dv), .val (.ref fv), .val (.ref sv), .val (.int o2), .val (.int d2), .val (.int o0), .val (.int o1), .val (.int dn), .val (.int ((((own_nz o0) + (own_nz o1)) + (own_nz o2)) + xs)), .val (.int (((own_nz o0) + (own_nz o1)) + (own_nz dn)))] [(.ref sv)])) (fun tgt k => ?_) ?_
    · show Steps p.tables e below (T42.setTop (mkF m 304 #[.val (.int d0), .val (.int d1), .val (.int d2), .val (.int sl), .val (.int dd), .val (.int fz), .val (.int (2 : Int32)), .val (.int o0), .val (.int o1), .val (.int o2), .val (.int dn), .val (.int (((own_nz o0) + (own_nz o1)) + (own_nz o2))), .val (.ref dv), .val (.ref fv), .val (.ref sv), .val (.int o2), .val (.int d2), .val (.int o0), .val (.int o1), .val (.int dn), .val (.int ((((own_nz o0) + (own_nz o1)) + (own_nz o2)) + xs)), .val (.int (((own_nz o0) + (own_nz o1)) + (own_nz dn)))] [(.int ((own_up (own_up (own_up (own_up (fun _ => 0) 0 o0) 1 o1) 2 o2) 2 dn) 2))])) tgt
      refine XS.iload X42.here hx rfl (hb hby at_304) rfl ?_
      show Steps p.tables e below (T42.setTop (mkF m 306 #[.val (.int d0), .val (.int d1), .val (.int d2), .val (.int sl), .val (.int dd), .val (.int fz), .val (.int (2 : Int32)), .val (.int o0), .val (.int o1), .val (.int o2), .val (.int dn), .val (.int (((own_nz o0) + (own_nz o1)) + (own_nz o2))), .val (.ref dv), .val (.ref fv), .val (.ref sv), .val (.int o2), .val (.int d2), .val (.int o0), .val (.int o1), .val (.int dn), .val (.int ((((own_nz o0) + (own_nz o1)) + (own_nz o2)) + xs)), .val (.int (((own_nz o0) + (own_nz o1)) + (own_nz dn)))] [(.int dn), (.int ((own_up (own_up (own_up (own_up (fun _ => 0) 0 o0) 1 o1) 2 o2) 2 dn) 2))])) tgt
      refine XS.icmpNo X42.here hx rfl (hb hby at_306) rfl (teq (by simp [own_up])).2 ?_
      show Steps p.tables e below (T42.setTop (mkF m 309 #[.val (.int d0), .val (.int d1), .val (.int d2), .val (.int sl), .val (.int dd), .val (.int fz), .val (.int (2 : Int32)), .val (.int o0), .val (.int o1), .val (.int o2), .val (.int dn), .val (.int (((own_nz o0) + (own_nz o1)) + (own_nz o2))), .val (.ref dv), .val (.ref fv), .val (.ref sv), .val (.int o2), .val (.int d2), .val (.int o0), .val (.int o1), .val (.int dn), .val (.int ((((own_nz o0) + (own_nz o1)) + (own_nz o2)) + xs)), .val (.int (((own_nz o0) + (own_nz o1)) + (own_nz dn)))] [])) tgt
      refine XS.aload X42.here hx rfl (hb hby at_309) rfl rfl ?_
      exact k
    obtain ⟨cq43, kq43, q43a, q43b, q43c⟩ := isOf hZ K42 g36_0
    obtain ⟨_, _, ⟨T43, L43, k43, n43⟩, -, X43, ⟨Lc43, hQ43, l43, y43, z43⟩, st43⟩ := X42.virtualBack hx (y := (⟨"com/example/chainwright/chainwright/State", "size", "()I"⟩ : MethodName)) (z := (⟨"com/example/chainwright/chainwright/State", "size", "()I"⟩ : MethodName)) hown (mvT hZ (hw _ (List.mem_of_getElem? (i := 36) rfl))) (mvT hZ (hw _ (List.mem_of_getElem? (i := 37) rfl))) (notFace_of_selects (args := #[]) (mvT hZ (hw _ (List.mem_of_getElem? (i := 39) rfl)))) (mvT hZ (hw _ (List.mem_of_getElem? (i := 39) rfl))) (mvT hZ (hw _ (List.mem_of_getElem? (i := 38) rfl))) (by decide) (backOf (W := 0) (rm7 l Z a0 hw [] sv (if (own_up (own_up (own_up (fun _ => 0) 0 o0) 1 o1) 2 o2) 2 = 0 then (((own_nz o0) + (own_nz o1)) + (own_nz o2)) + (1 : Int32) else (((own_nz o0) + (own_nz o1)) + (own_nz o2))) T36.heap n0 Zs36 g36_3) hZ (hw _ (List.mem_of_getElem? (i := 40) rfl)) (hw _ (List.mem_of_getElem? (i := 8) rfl)) (by decide) (by decide)) q43a q43c (g := (mkF m 311 #[.val (.int d0), .val (.int d1), .val (.int d2), .val (.int sl), .val (.int dd), .val (.int fz), .val (.int (2 : Int32)), .val (.int o0), .val (.int o1), .val (.int o2), .val (.int dn), .val (.int (((own_nz o0) + (own_nz o1)) + (own_nz o2))), .val (.ref dv), .val (.ref fv), .val (.ref sv), .val (.int o2), .val (.int d2), .val (.int o0), .val (.int o1), .val (.int dn), .val (.int ((((own_nz o0) + (own_nz o1)) + (own_nz o2)) + xs)), .val (.int (((own_nz o0) + (own_nz o1)) + (own_nz dn)))] [(.ref sv)])) rfl (by rw [hml]; rfl) (Steps.refl _) (argsL := []) (rest := []) (lenOf pd_0_3 rfl) rfl (by show 2 * 0 + _ ≤ _; exact Nat.le_of_eq rfl) (hb hby at_311) (fun _ _ => ⟨rfl, K42, (by decide : 3 + 0 ≤ _), (by decide : 9 + 0 ≤ _)⟩)
    dsimp only [Pt.U, Pt.locs, Pt.cells, Pt.slots] at X43 l43 y43 z43 st43 hQ43
    subst l43 y43 z43
    obtain ⟨rfl, N43q, K43⟩ := hQ43
    have N43 := Fr.app N42 N43q
    refine own_st (fun tgt k => st43.trans k) ?_
    show own_Go p e below _ (T43.setTop (mkF m 314 #[.val (.int d0), .val (.int d1), .val (.int d2), .val (.int sl), .val (.int dd), .val (.int fz), .val (.int (2 : Int32)), .val (.int o0), .val (.int o1), .val (.int o2), .val (.int dn), .val (.int (((own_nz o0) + (own_nz o1)) + (own_nz o2))), .val (.ref dv), .val (.ref fv), .val (.ref sv), .val (.int o2), .val (.int d2), .val (.int o0), .val (.int o1), .val (.int dn), .val (.int ((((own_nz o0) + (own_nz o1)) + (own_nz o2)) + xs)), .val (.int (((own_nz o0) + (own_nz o1)) + (own_nz dn)))] [(.int (if (own_up (own_up (own_up (fun _ => 0) 0 o0) 1 o1) 2 o2) 2 = 0 then (((own_nz o0) + (own_nz o1)) + (own_nz o2)) + (1 : Int32) else (((own_nz o0) + (own_nz o1)) + (own_nz o2))))]))
    refine own_st (V := T43.setTop (mkF m 330 #[.val (.int d0), .val (.int d1), .val (.int d2), .val (.int sl), .val (.int dd), .val (.int fz), .val (.int (2 : Int32)), .val (.int o0), .val (.int o1), .val (.int o2), .val (.int dn), .val (.int (((own_nz o0) + (own_nz o1)) + (own_nz o2))), .val (.ref dv), .val (.ref fv), .val (.ref sv), .val (.int o2), .val (.int d2), .val (.int o0), .val (.int o1), .val (.int dn), .val (.int ((((own_nz o0) + (own_nz o1)) + (own_nz o2)) + xs)), .val (.int (((own_nz o0) + (own_nz o1)) + (own_nz dn)))] [(.int (2 : Int32)), (.ref sv)])) (fun tgt k => ?_) ?_
    · show Steps p.tables e below (T43.setTop (mkF m 314 #[.val (.int d0), .val (.int d1), .val (.int d2), .val (.int sl), .val (.int dd), .val (.int fz), .val (.int (2 : Int32)), .val (.int o0), .val (.int o1), .val (.int o2), .val (.int dn), .val (.int (((own_nz o0) + (own_nz o1)) + (own_nz o2))), .val (.ref dv), .val (.ref fv), .val (.ref sv), .val (.int o2), .val (.int d2), .val (.int o0), .val (.int o1), .val (.int dn), .val (.int ((((own_nz o0) + (own_nz o1)) + (own_nz o2)) + xs)), .val (.int (((own_nz o0) + (own_nz o1)) + (own_nz dn)))] [(.int (if (own_up (own_up (own_up (fun _ => 0) 0 o0) 1 o1) 2 o2) 2 = 0 then (((own_nz o0) + (own_nz o1)) + (own_nz o2)) + (1 : Int32) else (((own_nz o0) + (own_nz o1)) + (own_nz o2))))])) tgt
      refine XS.iload X43.here hx rfl (hb hby at_314) rfl ?_
      show Steps p.tables e below (T43.setTop (mkF m 316 #[.val (.int d0), .val (.int d1), .val (.int d2), .val (.int sl), .val (.int dd), .val (.int fz), .val (.int (2 : Int32)), .val (.int o0), .val (.int o1), .val (.int o2), .val (.int dn), .val (.int (((own_nz o0) + (own_nz o1)) + (own_nz o2))), .val (.ref dv), .val (.ref fv), .val (.ref sv), .val (.int o2), .val (.int d2), .val (.int o0), .val (.int o1), .val (.int dn), .val (.int ((((own_nz o0) + (own_nz o1)) + (own_nz o2)) + xs)), .val (.int (((own_nz o0) + (own_nz o1)) + (own_nz dn)))] [(.int ((((own_nz o0) + (own_nz o1)) + (own_nz o2)) + xs)), (.int (if (own_up (own_up (own_up (fun _ => 0) 0 o0) 1 o1) 2 o2) 2 = 0 then (((own_nz o0) + (own_nz o1)) + (own_nz o2)) + (1 : Int32) else (((own_nz o0) + (own_nz o1)) + (own_nz o2))))])) tgt
      refine XS.icmpNo X43.here hx rfl (hb hby at_316) rfl (teq (by rw [hxs]; by_cases q9 : o2 = 0 <;> simp [own_up, q9])).2 ?_
      show Steps p.tables e below (T43.setTop (mkF m 319 #[.val (.int d0), .val (.int d1), .val (.int d2), .val (.int sl), .val (.int dd), .val (.int fz), .val (.int (2 : Int32)), .val (.int o0), .val (.int o1), .val (.int o2), .val (.int dn), .val (.int (((own_nz o0) + (own_nz o1)) + (own_nz o2))), .val (.ref dv), .val (.ref fv), .val (.ref sv), .val (.int o2), .val (.int d2), .val (.int o0), .val (.int o1), .val (.int dn), .val (.int ((((own_nz o0) + (own_nz o1)) + (own_nz o2)) + xs)), .val (.int (((own_nz o0) + (own_nz o1)) + (own_nz dn)))] [])) tgt
      refine XS.iload X43.here hx rfl (hb hby at_319) rfl ?_
      show Steps p.tables e below (T43.setTop (mkF m 321 #[.val (.int d0), .val (.int d1), .val (.int d2), .val (.int sl), .val (.int dd), .val (.int fz), .val (.int (2 : Int32)), .val (.int o0), .val (.int o1), .val (.int o2), .val (.int dn), .val (.int (((own_nz o0) + (own_nz o1)) + (own_nz o2))), .val (.ref dv), .val (.ref fv), .val (.ref sv), .val (.int o2), .val (.int d2), .val (.int o0), .val (.int o1), .val (.int dn), .val (.int ((((own_nz o0) + (own_nz o1)) + (own_nz o2)) + xs)), .val (.int (((own_nz o0) + (own_nz o1)) + (own_nz dn)))] [(.int ((((own_nz o0) + (own_nz o1)) + (own_nz o2)) + xs))])) tgt
      refine XS.iload X43.here hx rfl (hb hby at_321) rfl ?_
      show Steps p.tables e below (T43.setTop (mkF m 323 #[.val (.int d0), .val (.int d1), .val (.int d2), .val (.int sl), .val (.int dd), .val (.int fz), .val (.int (2 : Int32)), .val (.int o0), .val (.int o1), .val (.int o2), .val (.int dn), .val (.int (((own_nz o0) + (own_nz o1)) + (own_nz o2))), .val (.ref dv), .val (.ref fv), .val (.ref sv), .val (.int o2), .val (.int d2), .val (.int o0), .val (.int o1), .val (.int dn), .val (.int ((((own_nz o0) + (own_nz o1)) + (own_nz o2)) + xs)), .val (.int (((own_nz o0) + (own_nz o1)) + (own_nz dn)))] [(.int (((own_nz o0) + (own_nz o1)) + (own_nz dn))), (.int ((((own_nz o0) + (own_nz o1)) + (own_nz o2)) + xs))])) tgt
      refine XS.icmpNo X43.here hx rfl (hb hby at_323) rfl (teq (by rw [hxs]; exact own_cnt2 o0 o1 o2 dn hdn0)).2 ?_
      show Steps p.tables e below (T43.setTop (mkF m 326 #[.val (.int d0), .val (.int d1), .val (.int d2), .val (.int sl), .val (.int dd), .val (.int fz), .val (.int (2 : Int32)), .val (.int o0), .val (.int o1), .val (.int o2), .val (.int dn), .val (.int (((own_nz o0) + (own_nz o1)) + (own_nz o2))), .val (.ref dv), .val (.ref fv), .val (.ref sv), .val (.int o2), .val (.int d2), .val (.int o0), .val (.int o1), .val (.int dn), .val (.int ((((own_nz o0) + (own_nz o1)) + (own_nz o2)) + xs)), .val (.int (((own_nz o0) + (own_nz o1)) + (own_nz dn)))] [])) tgt
      refine XS.aload X43.here hx rfl (hb hby at_326) rfl rfl ?_
      show Steps p.tables e below (T43.setTop (mkF m 328 #[.val (.int d0), .val (.int d1), .val (.int d2), .val (.int sl), .val (.int dd), .val (.int fz), .val (.int (2 : Int32)), .val (.int o0), .val (.int o1), .val (.int o2), .val (.int dn), .val (.int (((own_nz o0) + (own_nz o1)) + (own_nz o2))), .val (.ref dv), .val (.ref fv), .val (.ref sv), .val (.int o2), .val (.int d2), .val (.int o0), .val (.int o1), .val (.int dn), .val (.int ((((own_nz o0) + (own_nz o1)) + (own_nz o2)) + xs)), .val (.int (((own_nz o0) + (own_nz o1)) + (own_nz dn)))] [(.ref sv)])) tgt
      refine XS.iload X43.here hx rfl (hb hby at_328) rfl ?_
      exact k
    obtain ⟨cq44, kq44, q44a, q44b, q44c⟩ := isOf hZ K43 g36_0
    obtain ⟨_, _, ⟨T44, L44, k44, n44⟩, -, X44, ⟨Lc44, hQ44, l44, y44, z44⟩, st44⟩ := X43.virtualBack hx (y := (⟨"com/example/chainwright/chainwright/State", "isChosen", "(I)Z"⟩ : MethodName)) (z := (⟨"com/example/chainwright/chainwright/State", "isChosen", "(I)Z"⟩ : MethodName)) hown (mvT hZ (hw _ (List.mem_of_getElem? (i := 41) rfl))) (mvT hZ (hw _ (List.mem_of_getElem? (i := 27) rfl))) (notFace_of_selects (args := #[]) (mvT hZ (hw _ (List.mem_of_getElem? (i := 29) rfl)))) (mvT hZ (hw _ (List.mem_of_getElem? (i := 29) rfl))) (mvT hZ (hw _ (List.mem_of_getElem? (i := 28) rfl))) (by decide) (backOf (W := 0) (rm5 l Z a0 hw [] sv (2 : Int32) dv 3 (own_up (own_up (own_up (own_up (fun _ => 0) 0 o0) 1 o1) 2 o2) 2 dn) 2 T36.heap n0 Zs36 g36_1 g36_4 (by first | assumption | decide | rfl) (by first | assumption | decide | rfl)) hZ (hw _ (List.mem_of_getElem? (i := 30) rfl)) (hw _ (List.mem_of_getElem? (i := 8) rfl)) (by decide) (by decide)) q44a q44c (g := (mkF m 330 #[.val (.int d0), .val (.int d1), .val (.int d2), .val (.int sl), .val (.int dd), .val (.int fz), .val (.int (2 : Int32)), .val (.int o0), .val (.int o1), .val (.int o2), .val (.int dn), .val (.int (((own_nz o0) + (own_nz o1)) + (own_nz o2))), .val (.ref dv), .val (.ref fv), .val (.ref sv), .val (.int o2), .val (.int d2), .val (.int o0), .val (.int o1), .val (.int dn), .val (.int ((((own_nz o0) + (own_nz o1)) + (own_nz o2)) + xs)), .val (.int (((own_nz o0) + (own_nz o1)) + (own_nz dn)))] [(.int (2 : Int32)), (.ref sv)])) rfl (by rw [hml]; rfl) (Steps.refl _) (argsL := [(.int (2 : Int32))]) (rest := []) (lenOf pd_0_4 rfl) rfl (by show 2 * 0 + _ ≤ _; exact Nat.le_of_eq rfl) (hb hby at_330) (fun _ _ => ⟨rfl, K43, (by decide : 3 + 0 ≤ _), (by decide : 9 + 0 ≤ _)⟩)
    dsimp only [Pt.U, Pt.locs, Pt.cells, Pt.slots] at X44 l44 y44 z44 st44 hQ44
    subst l44 y44 z44
    obtain ⟨rfl, N44q, K44⟩ := hQ44
    have N44 := Fr.app N43 N44q
    refine own_st (fun tgt k => st44.trans k) ?_
    show own_Go p e below _ (T44.setTop (mkF m 333 #[.val (.int d0), .val (.int d1), .val (.int d2), .val (.int sl), .val (.int dd), .val (.int fz), .val (.int (2 : Int32)), .val (.int o0), .val (.int o1), .val (.int o2), .val (.int dn), .val (.int (((own_nz o0) + (own_nz o1)) + (own_nz o2))), .val (.ref dv), .val (.ref fv), .val (.ref sv), .val (.int o2), .val (.int d2), .val (.int o0), .val (.int o1), .val (.int dn), .val (.int ((((own_nz o0) + (own_nz o1)) + (own_nz o2)) + xs)), .val (.int (((own_nz o0) + (own_nz o1)) + (own_nz dn)))] [(.int (if (own_up (own_up (own_up (own_up (fun _ => 0) 0 o0) 1 o1) 2 o2) 2 dn) 2 = 0 then (0 : Int32) else (1 : Int32)))]))
    refine own_st (V := T44.setTop (mkF m 340 #[.val (.int d0), .val (.int d1), .val (.int d2), .val (.int sl), .val (.int dd), .val (.int fz), .val (.int (2 : Int32)), .val (.int o0), .val (.int o1), .val (.int o2), .val (.int dn), .val (.int (((own_nz o0) + (own_nz o1)) + (own_nz o2))), .val (.ref dv), .val (.ref fv), .val (.ref sv), .val (.int o2), .val (.int d2), .val (.int o0), .val (.int o1), .val (.int dn), .val (.int ((((own_nz o0) + (own_nz o1)) + (own_nz o2)) + xs)), .val (.int (((own_nz o0) + (own_nz o1)) + (own_nz dn)))] [(.int (2 : Int32)), (.ref sv)])) (fun tgt k => ?_) ?_
    · show Steps p.tables e below (T44.setTop (mkF m 333 #[.val (.int d0), .val (.int d1), .val (.int d2), .val (.int sl), .val (.int dd), .val (.int fz), .val (.int (2 : Int32)), .val (.int o0), .val (.int o1), .val (.int o2), .val (.int dn), .val (.int (((own_nz o0) + (own_nz o1)) + (own_nz o2))), .val (.ref dv), .val (.ref fv), .val (.ref sv), .val (.int o2), .val (.int d2), .val (.int o0), .val (.int o1), .val (.int dn), .val (.int ((((own_nz o0) + (own_nz o1)) + (own_nz o2)) + xs)), .val (.int (((own_nz o0) + (own_nz o1)) + (own_nz dn)))] [(.int (if (own_up (own_up (own_up (own_up (fun _ => 0) 0 o0) 1 o1) 2 o2) 2 dn) 2 = 0 then (0 : Int32) else (1 : Int32)))])) tgt
      refine XS.ifNo X44.here hx rfl (hb hby at_333) rfl ((if0 _ _).trans (feq (by simp [own_up, hdn0])).1) ?_
      show Steps p.tables e below (T44.setTop (mkF m 336 #[.val (.int d0), .val (.int d1), .val (.int d2), .val (.int sl), .val (.int dd), .val (.int fz), .val (.int (2 : Int32)), .val (.int o0), .val (.int o1), .val (.int o2), .val (.int dn), .val (.int (((own_nz o0) + (own_nz o1)) + (own_nz o2))), .val (.ref dv), .val (.ref fv), .val (.ref sv), .val (.int o2), .val (.int d2), .val (.int o0), .val (.int o1), .val (.int dn), .val (.int ((((own_nz o0) + (own_nz o1)) + (own_nz o2)) + xs)), .val (.int (((own_nz o0) + (own_nz o1)) + (own_nz dn)))] [])) tgt
      refine XS.aload X44.here hx rfl (hb hby at_336) rfl rfl ?_
      show Steps p.tables e below (T44.setTop (mkF m 338 #[.val (.int d0), .val (.int d1), .val (.int d2), .val (.int sl), .val (.int dd), .val (.int fz), .val (.int (2 : Int32)), .val (.int o0), .val (.int o1), .val (.int o2), .val (.int dn), .val (.int (((own_nz o0) + (own_nz o1)) + (own_nz o2))), .val (.ref dv), .val (.ref fv), .val (.ref sv), .val (.int o2), .val (.int d2), .val (.int o0), .val (.int o1), .val (.int dn), .val (.int ((((own_nz o0) + (own_nz o1)) + (own_nz o2)) + xs)), .val (.int (((own_nz o0) + (own_nz o1)) + (own_nz dn)))] [(.ref sv)])) tgt
      refine XS.iload X44.here hx rfl (hb hby at_338) rfl ?_
      exact k
    obtain ⟨cq45, kq45, q45a, q45b, q45c⟩ := isOf hZ K44 g36_0
    obtain ⟨_, _, ⟨T45, L45, k45, n45⟩, -, X45, ⟨Lc45, hQ45, l45, y45, z45⟩, st45⟩ := X44.virtualBack hx (y := (⟨"com/example/chainwright/chainwright/State", "floor", "(I)I"⟩ : MethodName)) (z := (⟨"com/example/chainwright/chainwright/State", "floor", "(I)I"⟩ : MethodName)) hown (mvT hZ (hw _ (List.mem_of_getElem? (i := 42) rfl))) (mvT hZ (hw _ (List.mem_of_getElem? (i := 43) rfl))) (notFace_of_selects (args := #[]) (mvT hZ (hw _ (List.mem_of_getElem? (i := 45) rfl)))) (mvT hZ (hw _ (List.mem_of_getElem? (i := 45) rfl))) (mvT hZ (hw _ (List.mem_of_getElem? (i := 44) rfl))) (by decide) (backOf (W := 0) (rm8 l Z a0 hw [] sv (2 : Int32) fv 3 (own_up (own_up (own_up (fun _ => 0) 0 fz) 1 d0) 2 d2) 2 T36.heap n0 Zs36 g36_2 A_fv_36 (by first | assumption | decide | rfl) (by first | assumption | decide | rfl)) hZ (hw _ (List.mem_of_getElem? (i := 46) rfl)) (hw _ (List.mem_of_getElem? (i := 8) rfl)) (by decide) (by decide)) q45a q45c (g := (mkF m 340 #[.val (.int d0), .val (.int d1), .val (.int d2), .val (.int sl), .val (.int dd), .val (.int fz), .val (.int (2 : Int32)), .val (.int o0), .val (.int o1), .val (.int o2), .val (.int dn), .val (.int (((own_nz o0) + (own_nz o1)) + (own_nz o2))), .val (.ref dv), .val (.ref fv), .val (.ref sv), .val (.int o2), .val (.int d2), .val (.int o0), .val (.int o1), .val (.int dn), .val (.int ((((own_nz o0) + (own_nz o1)) + (own_nz o2)) + xs)), .val (.int (((own_nz o0) + (own_nz o1)) + (own_nz dn)))] [(.int (2 : Int32)), (.ref sv)])) rfl (by rw [hml]; rfl) (Steps.refl _) (argsL := [(.int (2 : Int32))]) (rest := []) (lenOf pd_0_0 rfl) rfl (by show 2 * 0 + _ ≤ _; exact Nat.le_of_eq rfl) (hb hby at_340) (fun _ _ => ⟨rfl, K44, (by decide : 3 + 0 ≤ _), (by decide : 9 + 0 ≤ _)⟩)
    dsimp only [Pt.U, Pt.locs, Pt.cells, Pt.slots] at X45 l45 y45 z45 st45 hQ45
    subst l45 y45 z45
    obtain ⟨rfl, N45q, K45⟩ := hQ45
    have N45 := Fr.app N44 N45q
    refine own_st (fun tgt k => st45.trans k) ?_
    show own_Go p e below _ (T45.setTop (mkF m 343 #[.val (.int d0), .val (.int d1), .val (.int d2), .val (.int sl), .val (.int dd), .val (.int fz), .val (.int (2 : Int32)), .val (.int o0), .val (.int o1), .val (.int o2), .val (.int dn), .val (.int (((own_nz o0) + (own_nz o1)) + (own_nz o2))), .val (.ref dv), .val (.ref fv), .val (.ref sv), .val (.int o2), .val (.int d2), .val (.int o0), .val (.int o1), .val (.int dn), .val (.int ((((own_nz o0) + (own_nz o1)) + (own_nz o2)) + xs)), .val (.int (((own_nz o0) + (own_nz o1)) + (own_nz dn)))] [(.int ((own_up (own_up (own_up (fun _ => 0) 0 fz) 1 d0) 2 d2) 2))]))
    refine own_st (V := T45.setTop (mkF m 353 #[.val (.int d0), .val (.int d1), .val (.int d2), .val (.int sl), .val (.int dd), .val (.int fz), .val (.int (2 : Int32)), .val (.int o0), .val (.int o1), .val (.int o2), .val (.int dn), .val (.int (((own_nz o0) + (own_nz o1)) + (own_nz o2))), .val (.ref dv), .val (.ref fv), .val (.ref sv), .val (.int o2), .val (.int d2), .val (.int o0), .val (.int o1), .val (.int dn), .val (.int ((((own_nz o0) + (own_nz o1)) + (own_nz o2)) + xs)), .val (.int (((own_nz o0) + (own_nz o1)) + (own_nz dn)))] [(.int (1 : Int32))])) (fun tgt k => ?_) ?_
    · show Steps p.tables e below (T45.setTop (mkF m 343 #[.val (.int d0), .val (.int d1), .val (.int d2), .val (.int sl), .val (.int dd), .val (.int fz), .val (.int (2 : Int32)), .val (.int o0), .val (.int o1), .val (.int o2), .val (.int dn), .val (.int (((own_nz o0) + (own_nz o1)) + (own_nz o2))), .val (.ref dv), .val (.ref fv), .val (.ref sv), .val (.int o2), .val (.int d2), .val (.int o0), .val (.int o1), .val (.int dn), .val (.int ((((own_nz o0) + (own_nz o1)) + (own_nz o2)) + xs)), .val (.int (((own_nz o0) + (own_nz o1)) + (own_nz dn)))] [(.int ((own_up (own_up (own_up (fun _ => 0) 0 fz) 1 d0) 2 d2) 2))])) tgt
      refine XS.iload X45.here hx rfl (hb hby at_343) rfl ?_
      show Steps p.tables e below (T45.setTop (mkF m 345 #[.val (.int d0), .val (.int d1), .val (.int d2), .val (.int sl), .val (.int dd), .val (.int fz), .val (.int (2 : Int32)), .val (.int o0), .val (.int o1), .val (.int o2), .val (.int dn), .val (.int (((own_nz o0) + (own_nz o1)) + (own_nz o2))), .val (.ref dv), .val (.ref fv), .val (.ref sv), .val (.int o2), .val (.int d2), .val (.int o0), .val (.int o1), .val (.int dn), .val (.int ((((own_nz o0) + (own_nz o1)) + (own_nz o2)) + xs)), .val (.int (((own_nz o0) + (own_nz o1)) + (own_nz dn)))] [(.int d2), (.int ((own_up (own_up (own_up (fun _ => 0) 0 fz) 1 d0) 2 d2) 2))])) tgt
      refine XS.icmpNo X45.here hx rfl (hb hby at_345) rfl (teq (by simp [own_up])).2 ?_
      show Steps p.tables e below (T45.setTop (mkF m 348 #[.val (.int d0), .val (.int d1), .val (.int d2), .val (.int sl), .val (.int dd), .val (.int fz), .val (.int (2 : Int32)), .val (.int o0), .val (.int o1), .val (.int o2), .val (.int dn), .val (.int (((own_nz o0) + (own_nz o1)) + (own_nz o2))), .val (.ref dv), .val (.ref fv), .val (.ref sv), .val (.int o2), .val (.int d2), .val (.int o0), .val (.int o1), .val (.int dn), .val (.int ((((own_nz o0) + (own_nz o1)) + (own_nz o2)) + xs)), .val (.int (((own_nz o0) + (own_nz o1)) + (own_nz dn)))] [])) tgt
      refine XS.iconst X45.here hx rfl (hb hby at_348) ?_
      show Steps p.tables e below (T45.setTop (mkF m 349 #[.val (.int d0), .val (.int d1), .val (.int d2), .val (.int sl), .val (.int dd), .val (.int fz), .val (.int (2 : Int32)), .val (.int o0), .val (.int o1), .val (.int o2), .val (.int dn), .val (.int (((own_nz o0) + (own_nz o1)) + (own_nz o2))), .val (.ref dv), .val (.ref fv), .val (.ref sv), .val (.int o2), .val (.int d2), .val (.int o0), .val (.int o1), .val (.int dn), .val (.int ((((own_nz o0) + (own_nz o1)) + (own_nz o2)) + xs)), .val (.int (((own_nz o0) + (own_nz o1)) + (own_nz dn)))] [(.int (1 : Int32))])) tgt
      refine XS.goto X45.here hx rfl (pc0 := 349) (pc' := 353) rfl (hb hby at_349) (by decide) (by decide) ?_
      exact k
    refine own_retN X45 hx hlk (t := .boolean) (z' := (1 : Int32)) Bd.returns (by simp) rfl (hb hby at_353) ?_ (by decide) (by decide)
    show Q0 Z d0 d1 d2 sl dd fz h0 n0 (some (.int (1 : Int32))) T45.heap _
    rw [K45]
    exact ⟨rfl, N45⟩
set_option maxRecDepth 65536 in
set_option maxHeartbeats 40000000 in
theorem comes_1 {Post : Tables → Env → Array Value → State → Outcome → State → Prop} (hpost : ∀ tb e args s v u, (limb_1_1.after args s (.returned v) u = true ∧ limb_1_2.after args s (.returned v) u = true ∧ True) → FrameEnd s (.returned v) u (Jvm.fieldLocs frame_1_writes args s ++ Jvm.arrayLocs frame_1_arrays args s ++ Jvm.staticLocs frame_1_statics s) 16 128 → Post tb e args s (.returned v) u) :
    ArmFor flags0 classFile x code maxLocals ret World_1 tables_1 room_1 Calls_1 rest_1 Pre_1 Post := by
  intro l hfl _ _ p e ha hc hk s m args below hf hA hF happ hP
  obtain ⟨hcalls, hrest, hpre⟩ := hP
  obtain ⟨-, -, -, hnamed, -, -, -, hat⟩ := (Spec.applies_iff hf).mp happ
  obtain ⟨hg, hn⟩ := and_e (Cond.before_iff.mp (show (Jvm.Cond.and given_1 narrow_1).before args s = true from hpre))
  obtain ⟨hcount, g0⟩ := and_e hg
  obtain ⟨a0, g1⟩ := and_e g0
  obtain ⟨a1, g2⟩ := and_e g1
  obtain ⟨a2, g3⟩ := and_e g2
  obtain ⟨a3, g4⟩ := and_e g3
  obtain ⟨a4, g5⟩ := and_e g4
  have a5 := g5
  obtain ⟨w0, w1, w2, w3, w4, w5, rfl⟩ : ∃ w0 w1 w2 w3 w4 w5 : Value, args = #[w0, w1, w2, w3, w4, w5] := by
    have hs : args.size = 6 := by simpa [Cond.value, given_1] using hcount
    obtain ⟨L⟩ := args
    match L, hs with
    | [w0, w1, w2, w3, w4, w5], _ => exact ⟨w0, w1, w2, w3, w4, w5, rfl⟩
  have hw := fun d (hd : d ∈ tables_1) => atoms_spec (ws := Jvm.Cond.code x code maxLocals ret :: tables_1) hat d (List.mem_cons_of_mem _ hd)
  obtain ⟨i0, ei0⟩ := is_v a0
  obtain rfl : w0 = (.int i0) := Option.some.inj ei0
  obtain ⟨i1, ei1⟩ := is_v a1
  obtain rfl : w1 = (.int i1) := Option.some.inj ei1
  obtain ⟨i2, ei2⟩ := is_v a2
  obtain rfl : w2 = (.int i2) := Option.some.inj ei2
  obtain ⟨i3, ei3⟩ := is_v a3
  obtain rfl : w3 = (.int i3) := Option.some.inj ei3
  obtain ⟨i4, ei4⟩ := is_v a4
  obtain rfl : w4 = (.int i4) := Option.some.inj ei4
  obtain ⟨i5, ei5⟩ := is_v a5
  obtain rfl : w5 = (.int i5) := Option.some.inj ei5
  obtain ⟨n, o, h1, h2, h3, _, L, rfl, ⟨rfl, N⟩, hq⟩ := rm0 l s _ hw tables_1 i0 i1 i2 i3 i4 i5 s.heap s.heap.size (Nat.le_refl _) p e ha hc hk s m _ below hf ((Spec.applies_iff_loose hf).mp happ).1 ⟨rfl, State.Warmed39.refl s, rfl⟩ trivial
  refine ⟨n, _, h1, h2, h3, hpost _ _ _ _ _ _ ⟨Cond.after_iff.mpr rfl, Cond.after_iff.mpr (eq_i res_at (Term.int_eval (1)) rfl), trivial⟩ ⟨hq.1, hq.2.1, (hq.2.2.sift fun y hy => Or.inr (N y hy)).mono (by decide) (by decide)⟩⟩
theorem main_1_1 : Claimed_1_1 := comes_1 fun _ _ _ _ _ _ h hF => ⟨h.1, hF⟩
theorem main_1_2 : Claimed_1_2 := comes_1 fun _ _ _ _ _ _ h hF => ⟨h.2.1, hF⟩
end Jvm.Pilot.@@N@@
namespace Jvm.Pilot.@@N@@
open Jvm Jvm.ClassFile Sem Op Lib Jvm.Free Jvm.Stand Jvm.Pilot.@@N@@.Jvm.D
/-! MADE BY PROGRAM (witnessworld.py) out of the Statement's table words and the real class files: 9 classes; the members and pool entries that the words name. The judged class is class 1, her method 2. -/
namespace start1
open Jvm.ClassFile
def u (s : String) : CpInfo := .utf8 (stringToUtf16 s)
/-- a pool by its gaps: so many unusable entries, then the entry; so many at the end -/
def gap : Nat → List CpInfo → List CpInfo
  | 0, r => r
  | n + 1, r => .unusable :: gap n r
def poolList (es : List (Nat × CpInfo)) (last : Nat) : List CpInfo := es.foldr (fun e r => gap e.1 (e.2 :: r)) (gap last [])
def pool (es : List (Nat × CpInfo)) (last : Nat) : Array CpInfo := ⟨poolList es last⟩
def fileOf (pool : Array CpInfo) (this : Nat) (attrs : Array Attribute := #[]) (ms : Array MethodInfo := #[]) (fl : Nat := 33) (sup : Nat := 0) (ifs : Array Nat := #[]) (fds : Array FieldInfo := #[]) : ClassFile where
  minorVersion := 0
  majorVersion := 65
  constantPool := pool
  accessFlags := fl
  thisClass := this
  superClass := sup
  interfaces := ifs
  fields := fds
  methods := ms
  attributes := attrs
def plain (name : String) (sup : Option ClassId) : Class where
  name := name
  kind := .ordinary
  loader := none
  accessFlags := 33
  super := sup
  interfaces := #[]
  cf := none
  fields := #[]
  methods := #[]
  instanceTypes := #[]
  staticTypes := #[]
  resolved := #[]
  callSites := []
  init := .initialized
  statics := none
  mirror := none

def pool0 : Array CpInfo := pool [(5, u "<init>"), (0, u "()V"), (1, .class_ 10), (1, u "java/lang/Object")] 113

def k0c0 : Code := { maxStack := 0, maxLocals := 1, code := object_method_1_code, exceptionTable := #[], attributes := #[] }
def k0m0 : Method := { name := "<init>", desc := "()V", sig := { parameters := [], returnType := none }, accessFlags := 1, code := some k0c0 }
/-- java/lang/Object -/
def k0 : Class := { plain "java/lang/Object" none with
  accessFlags := 33
  interfaces := #[]
  cf := some (fileOf pool0 8 #[] #[{ accessFlags := 1, nameIndex := 5, descriptorIndex := 6, attributes := #[] }] 33 0 #[] #[])
  fields := #[]
  methods := #[k0m0]
  instanceTypes := #[]
  staticTypes := #[]
  resolved := Array.replicate 124 none
  statics := none }

def pool1 : Array CpInfo := pool [(2, .class_ 4), (1, u "java/lang/Object"), (0, u "<init>"), (0, u "()V"), (0, .integer 2147483647), (0, .methodref 9 10), (0, .class_ 11), (0, .nameAndType 12 13), (0, u "com/example/chainwright/chainwright/StateChoosePinLaw"), (0, u "nz"), (0, u "(I)I"), (0, .class_ 15), (0, u "com/example/chainwright/chainwright/State"), (0, .methodref 14 17), (0, .nameAndType 5 18), (0, u "([I[II)V"), (0, .methodref 14 20), (0, .nameAndType 21 22), (0, u "choose"), (0, u "(II)V"), (0, .methodref 14 24), (0, .nameAndType 25 13), (0, u "deadline"), (0, .methodref 14 27), (0, .nameAndType 28 29), (0, u "size"), (0, u "()I"), (0, .methodref 14 31), (0, .nameAndType 32 33), (0, u "isChosen"), (0, u "(I)Z"), (0, .methodref 14 35), (0, .nameAndType 36 13), (0, u "floor"), (3, u "law"), (0, u "(IIIIII)Z")] 4

def k1m0 : Method := { name := "<init>", desc := "()V", sig := { parameters := [], returnType := none }, accessFlags := 1, code := none }
def k1c1 : Code := { maxStack := 1, maxLocals := 1, code := method_2_code, exceptionTable := #[], attributes := #[] }
def k1m1 : Method := { name := "nz", desc := "(I)I", sig := { parameters := [.int], returnType := some .int }, accessFlags := 10, code := some k1c1 }
def k1c2 : Code := { maxStack := 5, maxLocals := 22, code := code, exceptionTable := #[], attributes := #[] }
def k1m2 : Method := { name := "law", desc := "(IIIIII)Z", sig := { parameters := [.int, .int, .int, .int, .int, .int], returnType := some .boolean }, accessFlags := 9, code := some k1c2 }
/-- com/example/chainwright/chainwright/StateChoosePinLaw -/
def k1 : Class := { plain "com/example/chainwright/chainwright/StateChoosePinLaw" (some 0) with
  accessFlags := 49
  interfaces := #[]
  cf := some (fileOf pool1 9 #[] #[{ accessFlags := 1, nameIndex := 5, descriptorIndex := 6, attributes := #[] }, { accessFlags := 10, nameIndex := 12, descriptorIndex := 13, attributes := #[] }, { accessFlags := 9, nameIndex := 40, descriptorIndex := 41, attributes := #[] }] 49 2 #[] #[])
  fields := #[]
  methods := #[k1m0, k1m1, k1m2]
  instanceTypes := #[]
  staticTypes := #[]
  resolved := Array.replicate 46 none
  statics := none }

def pool2 : Array CpInfo := pool [(1, .methodref 2 3), (0, .class_ 4), (0, .nameAndType 5 6), (0, u "java/lang/Object"), (0, u "<init>"), (0, u "()V"), (0, .fieldref 8 9), (0, .class_ 10), (0, .nameAndType 11 12), (0, u "com/example/chainwright/chainwright/State"), (0, u "deadlines"), (0, u "[I"), (0, .fieldref 8 14), (0, .nameAndType 15 12), (0, u "floors"), (0, .fieldref 8 17), (0, .nameAndType 18 19), (0, u "size"), (0, u "I"), (0, .methodref 8 21), (0, .nameAndType 22 23), (0, u "isChosen"), (0, u "(I)Z"), (5, u "(I)I"), (6, u "NOT_CHOSEN"), (2, u "([I[II)V"), (3, u "()I"), (0, u "deadline"), (1, u "floor"), (0, u "choose"), (0, u "(II)V")] 6

def k2c0 : Code := { maxStack := 2, maxLocals := 4, code := prog_29_method_1_code, exceptionTable := #[], attributes := #[] }
def k2m0 : Method := { name := "<init>", desc := "([I[II)V", sig := { parameters := [(.array .int), (.array .int), .int], returnType := none }, accessFlags := 0, code := some k2c0 }
def k2c1 : Code := { maxStack := 1, maxLocals := 1, code := prog_29_method_3_code, exceptionTable := #[], attributes := #[] }
def k2m1 : Method := { name := "size", desc := "()I", sig := { parameters := [], returnType := some .int }, accessFlags := 0, code := some k2c1 }
def k2c2 : Code := { maxStack := 2, maxLocals := 2, code := prog_29_method_4_code, exceptionTable := #[], attributes := #[] }
def k2m2 : Method := { name := "deadline", desc := "(I)I", sig := { parameters := [.int], returnType := some .int }, accessFlags := 0, code := some k2c2 }
def k2c3 : Code := { maxStack := 2, maxLocals := 2, code := prog_29_method_5_code, exceptionTable := #[], attributes := #[] }
def k2m3 : Method := { name := "isChosen", desc := "(I)Z", sig := { parameters := [.int], returnType := some .boolean }, accessFlags := 0, code := some k2c3 }
def k2c4 : Code := { maxStack := 2, maxLocals := 2, code := prog_29_method_6_code, exceptionTable := #[], attributes := #[] }
def k2m4 : Method := { name := "floor", desc := "(I)I", sig := { parameters := [.int], returnType := some .int }, accessFlags := 0, code := some k2c4 }
def k2c5 : Code := { maxStack := 3, maxLocals := 3, code := prog_29_method_7_code, exceptionTable := #[], attributes := #[] }
def k2m5 : Method := { name := "choose", desc := "(II)V", sig := { parameters := [.int, .int], returnType := none }, accessFlags := 0, code := some k2c5 }
/-- com/example/chainwright/chainwright/State -/
def k2 : Class := { plain "com/example/chainwright/chainwright/State" (some 0) with
  accessFlags := 48
  interfaces := #[]
  cf := some (fileOf pool2 8 #[] #[{ accessFlags := 0, nameIndex := 5, descriptorIndex := 39, attributes := #[] }, { accessFlags := 0, nameIndex := 18, descriptorIndex := 43, attributes := #[] }, { accessFlags := 0, nameIndex := 44, descriptorIndex := 29, attributes := #[] }, { accessFlags := 0, nameIndex := 22, descriptorIndex := 23, attributes := #[] }, { accessFlags := 0, nameIndex := 46, descriptorIndex := 29, attributes := #[] }, { accessFlags := 0, nameIndex := 47, descriptorIndex := 48, attributes := #[] }] 48 2 #[] #[{ accessFlags := 24, nameIndex := 36, descriptorIndex := 19, attributes := #[] }, { accessFlags := 18, nameIndex := 11, descriptorIndex := 12, attributes := #[] }, { accessFlags := 18, nameIndex := 15, descriptorIndex := 12, attributes := #[] }, { accessFlags := 2, nameIndex := 18, descriptorIndex := 19, attributes := #[] }])
  fields := #[{ name := "NOT_CHOSEN", type := .int, accessFlags := 24, slot := 0, constantValue := 0 }, { name := "deadlines", type := (.array .int), accessFlags := 18, slot := 0, constantValue := 0 }, { name := "floors", type := (.array .int), accessFlags := 18, slot := 1, constantValue := 0 }, { name := "size", type := .int, accessFlags := 2, slot := 2, constantValue := 0 }]
  methods := #[k2m0, k2m1, k2m2, k2m3, k2m4, k2m5]
  instanceTypes := #[(.array .int), (.array .int), .int]
  staticTypes := #[.int]
  resolved := Array.replicate 55 none
  statics := none }

def pool3 : Array CpInfo := pool [(1, u "java/lang/Cloneable"), (0, .class_ 1), (0, u "java/lang/Object"), (0, .class_ 3)] 3

/-- java/lang/Cloneable -/
def k3 : Class := { plain "java/lang/Cloneable" (some 0) with
  accessFlags := 1537
  interfaces := #[]
  cf := some (fileOf pool3 2 #[] #[] 1537 4 #[] #[])
  fields := #[]
  methods := #[]
  instanceTypes := #[]
  staticTypes := #[]
  resolved := Array.replicate 8 none
  statics := none }

def pool4 : Array CpInfo := pool [(1, u "java/io/Serializable"), (0, .class_ 1), (0, u "java/lang/Object"), (0, .class_ 3)] 3

/-- java/io/Serializable -/
def k4 : Class := { plain "java/io/Serializable" (some 0) with
  accessFlags := 1537
  interfaces := #[]
  cf := some (fileOf pool4 2 #[] #[] 1537 4 #[] #[])
  fields := #[]
  methods := #[]
  instanceTypes := #[]
  staticTypes := #[]
  resolved := Array.replicate 8 none
  statics := none }

/-- the primitive byte -/
def k5 : Class := { plain "byte" none with kind := .primitive 'B', accessFlags := 0x411 }
/-- [B -/
def k6 : Class := { plain "[B" (some 0) with kind := .array 5 .byte, interfaces := #[3, 4], accessFlags := 1041 }

/-- the primitive int -/
def k7 : Class := { plain "int" none with kind := .primitive 'I', accessFlags := 0x411 }
/-- [I -/
def k8 : Class := { plain "[I" (some 0) with kind := .array 7 .int, interfaces := #[3, 4], accessFlags := 1041 }

def heap : Heap := #[]
def classes : Array Class := #[k0, k1, k2, k3, k4, k5, k6, k7, k8]
def interned : List (Array UInt16 × Addr) := []
def slotsUsed : Nat := 0
def theMethod : MethodId := ⟨1, 2⟩
def args0 : Array Value := #[.int 5, .int 3, .int 0, .int 7, .int 9, .int 2]
def aboutOver (below : List Frame) : State where
  vm := { classes := classes, interned := interned.toArray }
  heap := heap
  slotsUsed := slotsUsed
  threads := #[{ frames := .invoking theMethod args0 :: below }]
def below0 : List Frame := [.native { method := ⟨0, 0⟩, args := #[] }]
def about1 : State := aboutOver below0
def p0 : Program := .bare "" "" ""
def e0 : Env := launch0.env 0 0 0
theorem w_frames : about1.frames = Frame.invoking theMethod args0 :: below0 := rfl
set_option maxRecDepth 65536 in
theorem w_args : argsFit about1.vm theMethod args0 = true := by decide +kernel
set_option maxRecDepth 65536 in
theorem w_heap : heapFits about1 = true := by decide +kernel
set_option maxRecDepth 65536 in
theorem w_runnable : about1.curStatus? = some .runnable := by decide +kernel
set_option maxRecDepth 65536 in
theorem w_alone : about1.alone = true := by decide +kernel
set_option maxRecDepth 65536 in
theorem w_named : about1.methodNamed? x = some theMethod := by decide +kernel
set_option maxRecDepth 65536 in
theorem w_hears : about1.hears theMethod below0 = true := by decide +kernel
set_option maxRecDepth 65536 in
theorem w_ripe : about1.ripe theMethod args0 below0 = true := by decide +kernel
theorem w_running : about1.status = .running := rfl
set_option maxRecDepth 65536 in
theorem w_room : about1.hasRoom e0.platform room_1 = true :=
  launch0.hasRoom_least _ room_1 (by decide +kernel) (by decide +kernel) (by decide +kernel) (by decide +kernel) (by decide +kernel) (by decide +kernel)
theorem allAtoms_all (ts : List Jvm.Cond) (a : Array Jvm.Value) (st : Jvm.State) : (allAtoms ts).before a st = ts.all (fun c => c.before a st) := by
  induction ts with
  | nil => rfl
  | cons c t ih =>
    show (Jvm.Cond.and c (allAtoms t)).before a st = _
    rw [Jvm.Cond.before_and, ih, List.all_cons]
def words1 : List Jvm.Cond := Jvm.Cond.code x code maxLocals ret :: tables_1
/-- a 'code' word, met by the world's own term for the bytes: nothing is compared byte by byte -/
theorem code_word {y : MethodName} {bytes : ByteArray} {mx : Nat} {rt : Option FieldType} {a : Array Value} {s : State} {m : MethodId} {meth : Method} {c : Code} (h1 : s.methodNamed? y = some m) (h2 : s.vm.method? m = some meth) (h3 : meth.code = some c) (h4 : c.code = bytes)
    (h5 : (c.maxLocals == mx && c.exceptionTable.isEmpty && decide (c.maxStack ≤ mostOperands) && decide (meth.sig.returnType = rt) && !meth.locks && decide (parseMethodDescriptor y.desc = some meth.sig)) = true) : (Jvm.Cond.code y bytes mx rt).before a s = true := by
  simp only [Bool.and_eq_true, beq_iff_eq, Bool.not_eq_true', decide_eq_true_eq] at h5
  obtain ⟨⟨⟨⟨⟨g1, g2⟩, g3⟩, g4⟩, g5⟩, g6⟩ := h5
  simp [Cond.before, Cond.holds, Cond.value, h1, h2, h3, h4, g1, g2, g3, g4, g5, g6]
def isCode : Jvm.Cond → Bool
  | .code _ _ _ _ => true
  | _ => false
theorem all_split {L : List Jvm.Cond} {P : Jvm.Cond → Bool} (h1 : L.all (fun c => isCode c || P c) = true) (h2 : ∀ c ∈ L.filter isCode, P c = true) : L.all P = true := by
  refine List.all_eq_true.mpr fun c hc => ?_
  have h := List.all_eq_true.mp h1 c hc
  rcases Bool.eq_false_or_eq_true (isCode c) with hi | hi
  · exact h2 c (List.mem_filter.mpr ⟨hc, hi⟩)
  · simpa [hi] using h
set_option maxRecDepth 65536 in
theorem w_c0 : (Jvm.Cond.code x code maxLocals ret).before args0 about1 = true := code_word (m := ⟨1, 2⟩) (meth := k1m2) (c := k1c2) (by decide +kernel) rfl rfl rfl (by decide +kernel)
set_option maxRecDepth 65536 in
theorem w_c1 : (Jvm.Cond.code ({ cls := "com/example/chainwright/chainwright/StateChoosePinLaw", name := "nz", desc := "(I)I" } : Jvm.MethodName) method_2_code (1 : Nat) (Option.some Jvm.ClassFile.FieldType.int)).before args0 about1 = true := code_word (m := ⟨1, 1⟩) (meth := k1m1) (c := k1c1) (by decide +kernel) rfl rfl rfl (by decide +kernel)
set_option maxRecDepth 65536 in
theorem w_c2 : (Jvm.Cond.code ({ cls := "com/example/chainwright/chainwright/State", name := "<init>", desc := "([I[II)V" } : Jvm.MethodName) prog_29_method_1_code (4 : Nat) (Option.none : Option Jvm.ClassFile.FieldType)).before args0 about1 = true := code_word (m := ⟨2, 0⟩) (meth := k2m0) (c := k2c0) (by decide +kernel) rfl rfl rfl (by decide +kernel)
set_option maxRecDepth 65536 in
theorem w_c3 : (Jvm.Cond.code ({ cls := "java/lang/Object", name := "<init>", desc := "()V" } : Jvm.MethodName) object_method_1_code (1 : Nat) (Option.none : Option Jvm.ClassFile.FieldType)).before args0 about1 = true := code_word (m := ⟨0, 0⟩) (meth := k0m0) (c := k0c0) (by decide +kernel) rfl rfl rfl (by decide +kernel)
set_option maxRecDepth 65536 in
theorem w_c4 : (Jvm.Cond.code ({ cls := "com/example/chainwright/chainwright/State", name := "choose", desc := "(II)V" } : Jvm.MethodName) prog_29_method_7_code (3 : Nat) (Option.none : Option Jvm.ClassFile.FieldType)).before args0 about1 = true := code_word (m := ⟨2, 5⟩) (meth := k2m5) (c := k2c5) (by decide +kernel) rfl rfl rfl (by decide +kernel)
set_option maxRecDepth 65536 in
theorem w_c5 : (Jvm.Cond.code ({ cls := "com/example/chainwright/chainwright/State", name := "isChosen", desc := "(I)Z" } : Jvm.MethodName) prog_29_method_5_code (2 : Nat) (Option.some Jvm.ClassFile.FieldType.boolean)).before args0 about1 = true := code_word (m := ⟨2, 3⟩) (meth := k2m3) (c := k2c3) (by decide +kernel) rfl rfl rfl (by decide +kernel)
set_option maxRecDepth 65536 in
theorem w_c6 : (Jvm.Cond.code ({ cls := "com/example/chainwright/chainwright/State", name := "deadline", desc := "(I)I" } : Jvm.MethodName) prog_29_method_4_code (2 : Nat) (Option.some Jvm.ClassFile.FieldType.int)).before args0 about1 = true := code_word (m := ⟨2, 2⟩) (meth := k2m2) (c := k2c2) (by decide +kernel) rfl rfl rfl (by decide +kernel)
set_option maxRecDepth 65536 in
theorem w_c7 : (Jvm.Cond.code ({ cls := "com/example/chainwright/chainwright/State", name := "size", desc := "()I" } : Jvm.MethodName) prog_29_method_3_code (1 : Nat) (Option.some Jvm.ClassFile.FieldType.int)).before args0 about1 = true := code_word (m := ⟨2, 1⟩) (meth := k2m1) (c := k2c1) (by decide +kernel) rfl rfl rfl (by decide +kernel)
set_option maxRecDepth 65536 in
theorem w_c8 : (Jvm.Cond.code ({ cls := "com/example/chainwright/chainwright/State", name := "floor", desc := "(I)I" } : Jvm.MethodName) prog_29_method_6_code (2 : Nat) (Option.some Jvm.ClassFile.FieldType.int)).before args0 about1 = true := code_word (m := ⟨2, 4⟩) (meth := k2m4) (c := k2c4) (by decide +kernel) rfl rfl rfl (by decide +kernel)
def codes1 : List Jvm.Cond := [Jvm.Cond.code x code maxLocals ret, Jvm.Cond.code ({ cls := "com/example/chainwright/chainwright/StateChoosePinLaw", name := "nz", desc := "(I)I" } : Jvm.MethodName) method_2_code (1 : Nat) (Option.some Jvm.ClassFile.FieldType.int), Jvm.Cond.code ({ cls := "com/example/chainwright/chainwright/State", name := "<init>", desc := "([I[II)V" } : Jvm.MethodName) prog_29_method_1_code (4 : Nat) (Option.none : Option Jvm.ClassFile.FieldType), Jvm.Cond.code ({ cls := "java/lang/Object", name := "<init>", desc := "()V" } : Jvm.MethodName) object_method_1_code (1 : Nat) (Option.none : Option Jvm.ClassFile.FieldType), Jvm.Cond.code ({ cls := "com/example/chainwright/chainwright/State", name := "choose", desc := "(II)V" } : Jvm.MethodName) prog_29_method_7_code (3 : Nat) (Option.none : Option Jvm.ClassFile.FieldType), Jvm.Cond.code ({ cls := "com/example/chainwright/chainwright/State", name := "isChosen", desc := "(I)Z" } : Jvm.MethodName) prog_29_method_5_code (2 : Nat) (Option.some Jvm.ClassFile.FieldType.boolean), Jvm.Cond.code ({ cls := "com/example/chainwright/chainwright/State", name := "deadline", desc := "(I)I" } : Jvm.MethodName) prog_29_method_4_code (2 : Nat) (Option.some Jvm.ClassFile.FieldType.int), Jvm.Cond.code ({ cls := "com/example/chainwright/chainwright/State", name := "size", desc := "()I" } : Jvm.MethodName) prog_29_method_3_code (1 : Nat) (Option.some Jvm.ClassFile.FieldType.int), Jvm.Cond.code ({ cls := "com/example/chainwright/chainwright/State", name := "floor", desc := "(I)I" } : Jvm.MethodName) prog_29_method_6_code (2 : Nat) (Option.some Jvm.ClassFile.FieldType.int)]
set_option maxRecDepth 65536 in
theorem codes_eq : words1.filter isCode = codes1 := rfl
theorem w_codes : ∀ c ∈ words1.filter isCode, c.before args0 about1 = true := by
  rw [codes_eq]
  intro c hc
  simp only [codes1, List.mem_cons, List.not_mem_nil, or_false] at hc
  rcases hc with rfl | rfl | rfl | rfl | rfl | rfl | rfl | rfl | rfl
  · exact w_c0
  · exact w_c1
  · exact w_c2
  · exact w_c3
  · exact w_c4
  · exact w_c5
  · exact w_c6
  · exact w_c7
  · exact w_c8
set_option maxRecDepth 65536 in
theorem w_t1 : (words1.take 24).all (fun c => isCode c || c.before args0 about1) = true := by decide +kernel
set_option maxRecDepth 65536 in
theorem w_t2 : (words1.drop 24).all (fun c => isCode c || c.before args0 about1) = true := by decide +kernel
theorem w_tables : (allAtoms (Jvm.Cond.code x code maxLocals ret :: tables_1)).before args0 about1 = true := by
  rw [allAtoms_all]
  show words1.all (fun c => c.before args0 about1) = true
  refine all_split ?_ w_codes
  rw [← List.take_append_drop 24 words1, List.all_append, w_t1, w_t2]
  rfl
set_option maxRecDepth 65536 in
theorem w_case : (Jvm.Cond.and given_1 narrow_1).before args0 about1 = true := by decide +kernel
theorem w_applies : (headSpec (Jvm.Cond.code x code maxLocals ret :: tables_1) room_1).applies x e0.platform about1 = true :=
  (Spec.applies_iff w_frames).mpr ⟨w_running, w_runnable, w_alone, w_named, w_hears, w_ripe, w_room, w_tables⟩
theorem atStart : AtStart classFile x code maxLocals ret World_1 tables_1 room_1 Calls_1 rest_1 Pre_1 launch0 p0 e0 about1 theMethod args0 below0 :=
  ⟨lists_1, trivial, launch0.admits_env _ _ _, launch0.least_env, fairChoices_fair.cas, fairChoices_fair.clock, w_frames, w_args, w_heap, w_applies, trivial, trivial, w_case⟩
end start1
theorem witness_1 : WitnessClaimed_1 := ⟨start1.p0, start1.e0, start1.about1, start1.theMethod, start1.args0, start1.below0, start1.atStart⟩
end Jvm.Pilot.@@N@@
