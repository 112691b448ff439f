import JvmDerived
import JvmDerived.Pilot.@@N@@Statement
import JvmDerived.Pilot.@@N@@Code
set_option linter.unusedVariables false
set_option linter.unusedSimpArgs false
@@BLOCK:NumsL.lean.txt@@
@@BLOCK:Masks.lean.txt@@
@@BLOCK:Nums.lean.txt@@
namespace Jvm.Pilot.@@N@@
open Jvm Jvm.ClassFile Sem Op Lib Jvm.Free Jvm.Stand Jvm.LawKit Jvm.RoadKit Bundle Jvm.Pilot.@@N@@.Jvm.D
section Own
variable {p : Program} {l : Launch} {e : Env} {R : Room} {s : State} {m : MethodId} {args : Array Value} {below : List Frame} {meth : Method} {c : Code} {T T' : State} {locs : List Loc} {cells slots : Nat} {Z : State} {h h' : Heap} {n0 : Nat} {a0 : Array Value} {CC SS : Nat} {Q : Option Value → Heap → List Loc → Prop} {g g' : JFrame} {pc : Nat} {Ls : Array Slot} {rest st : List Value}
/-- from here the run comes to its end, and Q holds there -/
def own_Run (p : Program) (e : Env) (below : List Frame) (s : State) (CC SS : Nat) (Q : Option Value → Heap → List Loc → Prop) (T : State) (g : JFrame) : Prop :=
  ∃ s₂ o, Steps p.tables e below (T.setTop g) s₂ ∧ s₂.status = .running ∧ Ended s₂ below o ∧ ∃ v L, o = .returned v ∧ Q v s₂.heap L ∧ FrameEnd s o s₂ L CC SS
theorem own_run (sp : ∀ t, Steps p.tables e below (T'.setTop g') t → Steps p.tables e below (T.setTop g) t) (r : own_Run p e below s CC SS Q T' g') : own_Run p e below s CC SS Q T g := by
  obtain ⟨s₂, o, h1, r⟩ := r; exact ⟨s₂, o, sp _ h1, r⟩
theorem own_enter {ml : Nat} (q : entryFrame m args ml = g) (r : own_Run p e below s CC SS Q T g) : ∃ s₂ o, Steps p.tables e below (T.setTop (entryFrame m args ml)) s₂ ∧ s₂.status = .running ∧ Ended s₂ below o ∧ ∃ v L, o = .returned v ∧ Q v s₂.heap L ∧ FrameEnd s o s₂ L CC SS := by rw [q]; exact r
theorem own_retN {t : FieldType} {z : Int32} (X : Stand p l e R s m args below meth c T locs cells slots) (hx : p.tables.exec = Jvm.exec) (hlk : meth.locks = false) (hret : meth.sig.returnType = some t) (ht : t = .boolean ∨ t = .byte ∨ t = .char ∨ t = .short) (hd : decode c.code pc = .ok (.ireturn, 1)) (hc : cells ≤ CC) (hs : slots ≤ SS) (q : Q (some (.int (nar t z))) T.heap locs) : own_Run p e below s CC SS Q T (mkF m pc Ls (.int z :: rest)) := by
  obtain ⟨fs, hr, hrun, hended, hW, hsame⟩ := X.leave (v := some (.int (nar t z))) (fun h => by rw [hret] at h; cases h) hlk
  exact ⟨_, _, retN X hx hret ht hd hr, hrun, hended, _, _, rfl, q, ⟨_, rfl⟩, hW, hsame.mono hc hs⟩
theorem own_retI {z : Int32} (X : Stand p l e R s m args below meth c T locs cells slots) (hx : p.tables.exec = Jvm.exec) (hlk : meth.locks = false) (hret : meth.sig.returnType = some .int) (hd : decode c.code pc = .ok (.ireturn, 1)) (hc : cells ≤ CC) (hs : slots ≤ SS) (q : Q (some (.int z)) T.heap locs) : own_Run p e below s CC SS Q T (mkF m pc Ls (.int z :: rest)) := by
  obtain ⟨fs, hr, hrun, hended, hW, hsame⟩ := X.leave (v := some (.int z)) (fun h => by rw [hret] at h; cases h) hlk
  refine ⟨_, _, ?_, hrun, hended, _, _, rfl, q, ⟨_, rfl⟩, hW, hsame.mono hc hs⟩
  have hm' : T.vm.method? m = some meth := X.method'
  have hn : narrow .int (.int z) = .int z := rfl
  show Steps p.tables e below (T.setTop { method := m, pc := pc, locals := Ls, stack := _ :: rest, locked := none }) _
  jvm_step X.here [X.here.top, hx, hd, hm', hret, hn]
  first | (intro acts; rw [hr _ acts rfl rfl rfl]) | rw [hr _ _ rfl rfl rfl]
  exact Steps.refl _
theorem own_retL {z : Int64} (X : Stand p l e R s m args below meth c T locs cells slots) (hx : p.tables.exec = Jvm.exec) (hlk : meth.locks = false) (hret : meth.sig.returnType = some .long) (hd : decode c.code pc = .ok (.lreturn, 1)) (hc : cells ≤ CC) (hs : slots ≤ SS) (q : Q (some (.long z)) T.heap locs) : own_Run p e below s CC SS Q T (mkF m pc Ls [.long z]) := by
  obtain ⟨fs, hr, hrun, hended, hW, hsame⟩ := X.leave (v := some (.long z)) (fun h => by rw [hret] at h; cases h) hlk
  exact ⟨_, _, X.lreturnOut hx hret hd hr, hrun, hended, _, _, rfl, q, ⟨_, rfl⟩, hW, hsame.mono hc hs⟩
theorem own_retV (X : Stand p l e R s m args below meth c T locs cells slots) (hx : p.tables.exec = Jvm.exec) (hlk : meth.locks = false) (hret : meth.sig.returnType = none) (hd : decode c.code pc = .ok (.return_, 1)) (hc : cells ≤ CC) (hs : slots ≤ SS) (q : Q none T.heap locs) : own_Run p e below s CC SS Q T (mkF m pc Ls []) := by
  obtain ⟨fs, hr, hrun, hended, hW, hsame⟩ := X.leave (v := none) (fun _ => rfl) hlk
  exact ⟨_, _, X.returnOut hx hret hd hr, hrun, hended, _, _, rfl, q, ⟨_, rfl⟩, hW, hsame.mono hc hs⟩
theorem own_retR {v : Value} {t : FieldType} (X : Stand p l e R s m args below meth c T locs cells slots) (hx : p.tables.exec = Jvm.exec) (hlk : meth.locks = false) (hret : meth.sig.returnType = some t) (ht : t.isReference = true) (hv : v.isRef = true) (hd : decode c.code pc = .ok (.areturn, 1)) (hc : cells ≤ CC) (hs : slots ≤ SS) (q : Q (some v) T.heap locs) : own_Run p e below s CC SS Q T (mkF m pc Ls (v :: rest)) := by
  obtain ⟨fs, hr, hrun, hended, hW, hsame⟩ := X.leave (v := some v) (fun h => by rw [hret] at h; cases h) hlk
  refine ⟨_, _, ?_, hrun, hended, _, _, rfl, q, ⟨_, rfl⟩, hW, hsame.mono hc hs⟩
  have hm' : T.vm.method? m = some meth := X.method'
  show Steps p.tables e below (T.setTop { method := m, pc := pc, locals := Ls, stack := _ :: rest, locked := none }) _
  jvm_step X.here [X.here.top, hx, hd, hm', hret, ht, hv]
  first | (intro acts; rw [hr _ acts rfl rfl rfl]) | rw [hr _ _ rfl rfl rfl]
  exact Steps.refl _
theorem own_clt {x y : Int64} (q : x < y) : ifCond.holds .lt (XT.cmpL x y) = true ∧ ifCond.holds .ge (XT.cmpL x y) = false := by
  have q' : XT.cmpL x y < 0 := (lw_lt x y).mpr q
  exact ⟨(if0 _ _).trans (tlt q').1, (if0 _ _).trans (tlt q').2.1⟩
theorem own_cnlt {x y : Int64} (q : ¬ x < y) : ifCond.holds .lt (XT.cmpL x y) = false ∧ ifCond.holds .ge (XT.cmpL x y) = true := by
  have q' : ¬ XT.cmpL x y < 0 := fun z => q ((lw_lt x y).mp z)
  exact ⟨(if0 _ _).trans (flt q').1, (if0 _ _).trans (flt q').2.1⟩
theorem own_cgt {x y : Int64} (q : y < x) : ifCond.holds .gt (XT.cmpL x y) = true ∧ ifCond.holds .le (XT.cmpL x y) = false := by
  have q' : 0 < XT.cmpL x y := (lw_gt x y).mpr q
  exact ⟨(if0 _ _).trans (tlt q').2.2.1, (if0 _ _).trans (tlt q').2.2.2⟩
theorem own_cngt {x y : Int64} (q : ¬ y < x) : ifCond.holds .gt (XT.cmpL x y) = false ∧ ifCond.holds .le (XT.cmpL x y) = true := by
  have q' : ¬ 0 < XT.cmpL x y := fun z => q ((lw_gt x y).mp z)
  exact ⟨(if0 _ _).trans (flt q').2.2.1, (if0 _ _).trans (flt q').2.2.2⟩
theorem own_ceq {x y : Int64} (q : x = y) : ifCond.holds .eq (XT.cmpL x y) = true ∧ ifCond.holds .ne (XT.cmpL x y) = false := by
  have q' : XT.cmpL x y = 0 := (lw_eq x y).mpr q
  exact ⟨(if0 _ _).trans (teq q').1, (if0 _ _).trans (teq q').2⟩
theorem own_cneq {x y : Int64} (q : ¬ x = y) : ifCond.holds .eq (XT.cmpL x y) = false ∧ ifCond.holds .ne (XT.cmpL x y) = true := by
  have q' : ¬ XT.cmpL x y = 0 := fun z => q ((lw_eq x y).mp z)
  exact ⟨(if0 _ _).trans (feq q').1, (if0 _ _).trans (feq q').2⟩
theorem own_rem (x y : Int32) : x - (x / y) * y = x % y := by
  have a := (x % y).toInt_lt; have b := (x % y).le_toInt
  rw [Int32.toInt_mod] at a b
  apply Int32.toInt_inj.mp
  rw [Int32.toInt_mod, Int32.toInt_sub, Int32.toInt_mul, Int32.toInt_div, Int.bmod_mul_bmod, Int.sub_bmod_bmod, Int.mul_comm, ← Int.tmod_def]
  exact Jvm.Kit.bmod32 b a
theorem own_irem {tb : Tables} [Ours tb] {e : Env} {below : List Frame} {T target : State} {m : MethodId} {c : Code} {g : JFrame} (h : At T m c below) (hx : tb.exec = Jvm.exec) (hg : g.method = m) {x y : Int32} {rest : List Value} (hd : decode c.code g.pc = .ok (.irem, 1)) (hs : g.stack = .int y :: .int x :: rest) (hy : y ≠ 0)
    (hr : Steps tb e below (T.setTop { g with pc := g.pc + 1, stack := .int (x % y) :: rest }) target) : Steps tb e below (T.setTop g) target := XS.irem h hx hg hd hs hy (by rw [own_rem]; exact hr)
theorem own_ldcI {own : String} {index : Nat} {x : Int32} (X : Stand p l e R s m args below meth c T locs cells slots) (hx : p.tables.exec = Jvm.exec) (hZ : Z.Warmed39 s.vm) (hown : s.vm.findClass own = some m.cls) (w : (Cond.constant own index x).before a0 Z = true) (hd : decode c.code pc = .ok (.ldc index, 2)) (k : own_Run p e below s CC SS Q T (mkF m (pc + 2) Ls (.int x :: rest))) : own_Run p e below s CC SS Q T (mkF m pc Ls rest) :=
  own_run (X.ldcInt hx hown (mvT hZ w) (g := mkF m pc Ls rest) rfl hd) k
theorem own_ldcwI {own : String} {index : Nat} {x : Int32} (X : Stand p l e R s m args below meth c T locs cells slots) (hx : p.tables.exec = Jvm.exec) (hZ : Z.Warmed39 s.vm) (hown : s.vm.findClass own = some m.cls) (w : (Cond.constant own index x).before a0 Z = true) (hd : decode c.code pc = .ok (.ldc_w index, 3)) (k : own_Run p e below s CC SS Q T (mkF m (pc + 3) Ls (.int x :: rest))) : own_Run p e below s CC SS Q T (mkF m pc Ls rest) :=
  own_run (X.ldcwInt hx hown (mvT hZ w) (g := mkF m pc Ls rest) rfl hd) k
theorem own_ldcL {own : String} {index : Nat} {x : Int64} (X : Stand p l e R s m args below meth c T locs cells slots) (hx : p.tables.exec = Jvm.exec) (hZ : Z.Warmed39 s.vm) (hown : s.vm.findClass own = some m.cls) (w : (Cond.constantLong own index x).before a0 Z = true) (hd : decode c.code pc = .ok (.ldc2_w index, 3)) (k : own_Run p e below s CC SS Q T (mkF m (pc + 3) Ls (.long x :: rest))) : own_Run p e below s CC SS Q T (mkF m pc Ls rest) :=
  own_run (X.ldc2Long hx hown (mvT hZ w) (g := mkF m pc Ls rest) rfl hd) k
/-- an array of ints or bytes: its length and what it holds -/
def own_A (Z : State) (h : Heap) (a : Addr) (ty : FieldType) (n : Int32) (xs : List Int32) : Prop :=
  xs.length = n.toNatClampNeg ∧ ∃ k, Arv Z h a k ty n (xs.map Value.int) (.int (0 : Int32))
variable {a b : Addr} {ty : FieldType} {n j x : Int32} {xs ys : List Int32} {sl : Nat} {v : Value} {ws : List Addr}
theorem own_A.lt (A : own_A Z h a ty n xs) : a < h.size := by obtain ⟨-, k, V⟩ := A; exact V.lt
theorem own_A.ext (A : own_A Z h a ty n xs) (E : Ext h h') : own_A Z h' a ty n xs := ⟨A.1, A.2.imp fun _ V => V.ext E⟩
theorem own_A.other (A : own_A Z h b ty n xs) (W : Wr h h' a sl v) (q : b ≠ a) : own_A Z h' b ty n xs := ⟨A.1, A.2.imp fun _ V => V.other W q⟩
theorem own_A.keep (A : own_A Z h a ty n xs) (K : Keep h h' ws) (q : a ∉ ws) : own_A Z h' a ty n xs := ⟨A.1, A.2.imp fun _ V => V.keep K q⟩
theorem own_A.nn (A : own_A Z h a ty n xs) : ¬ n < 0 := by obtain ⟨-, k, cl, -, -, -, q, -⟩ := A; exact q
theorem own_A.to (A : own_A Z h a ty n xs) (q : xs = ys) : own_A Z h a ty n ys := q ▸ A
theorem own_lt_clamp {j n : Int32} (hj : ¬ j < 0 ∧ j < n) : j.toNatClampNeg < n.toNatClampNeg := by
  obtain ⟨q1, q2⟩ := hj
  rw [Int32.lt_iff_toInt_lt] at q1 q2
  have e0 : (0 : Int32).toInt = 0 := rfl
  simp only [Int32.toNatClampNeg] at *; omega
theorem own_newA {aty : ArrayType} {cap : Nat} (X : Stand p l e R s m args below meth c T locs cells slots) (hx : p.tables.exec = Jvm.exec) (hZ : Z.Warmed39 s.vm) (w : (Cond.arrayClass (newarray.typeOf aty)).before a0 Z = true) (hty : newarray.typeOf aty = ty) (hdv : defaultValue ty = .int 0) (eT : T.heap = h) (hd : decode c.code pc = .ok (.newarray aty, 2)) (hn : ¬ n < 0) (hcap : n.toNatClampNeg ≤ cap) (hb : cap * 8 ≤ 536870912) (hc : cells + 1 ≤ R.cells) (hl : slots + cap ≤ R.slots)
    (k : ∀ T' h' b, b = h.size → Stand p l e R s m args below meth c T' locs (cells + 1) (slots + cap) → T'.heap = h' → Ext h h' → own_A Z h' b ty n (List.replicate n.toNatClampNeg 0) → own_Run p e below s CC SS Q T' (mkF m (pc + 2) Ls (.ref b :: rest))) :
    own_Run p e below s CC SS Q T (mkF m pc Ls (.int n :: rest)) := by
  obtain ⟨T', h', cA, X', e', E', A', sp⟩ := newP X hx hZ w eT (g := mkF m pc Ls (.int n :: rest)) rfl hd rfl hn hcap hb hc hl
  subst hty
  refine own_run sp (k T' h' _ rfl X' e' E' ⟨by simp, cA, ?_⟩)
  have V := Arv.new A' hn
  rw [hdv] at V
  have q := V.pad (pad_rep [] (.int 0) n.toNatClampNeg)
  simpa using q
theorem own_len (X : Stand p l e R s m args below meth c T locs cells slots) (hx : p.tables.exec = Jvm.exec) (hZ : Z.Warmed39 s.vm) (eT : T.heap = h) (A : own_A Z h a ty n xs) (hd : decode c.code pc = .ok (.arraylength, 1)) (k : own_Run p e below s CC SS Q T (mkF m (pc + 1) Ls (.int n :: rest))) : own_Run p e below s CC SS Q T (mkF m pc Ls (.ref a :: rest)) := by
  obtain ⟨hl, kk, cl, Ar, q1, Sz, Nn, H, G⟩ := A
  refine own_run (fun t kt => X.arraylength hx (by rw [eT]; exact Ar.1) (State.isArrayOf_alike hZ.alike Ar.2.1) (g := mkF m pc Ls (.ref a :: rest)) rfl rfl hd t (by rw [len_of Sz Nn]; exact kt)) k
theorem own_getD (xs : List Int32) (i : Nat) : (xs.map Value.int).getD i (.int 0) = .int (xs.getD i 0) := by
  simp only [List.getD_eq_getElem?_getD, List.getElem?_map]; cases xs[i]? <;> rfl
theorem own_ldI (X : Stand p l e R s m args below meth c T locs cells slots) (hx : p.tables.exec = Jvm.exec) (hZ : Z.Warmed39 s.vm) (eT : T.heap = h) (A : own_A Z h a .int n xs) (hj : ¬ j < 0 ∧ j < n) (hd : decode c.code pc = .ok (.iaload, 1)) (hv : xs.getD j.toNatClampNeg 0 = x) (k : own_Run p e below s CC SS Q T (mkF m (pc + 1) Ls (.int x :: rest))) : own_Run p e below s CC SS Q T (mkF m pc Ls (.int j :: .ref a :: rest)) := by
  obtain ⟨hl, kk, cl, Ar, q1, Sz, Nn, H, G⟩ := A
  have hin := inb_of Sz hj
  refine own_run (fun t kt => X.iaload hx (j := j) (v := .int x) (by rw [eT]; exact Ar.1) (State.isArrayOf_alike hZ.alike Ar.2.1) Ar.2.2 hin (H.at hin (by rw [own_getD, hv])) (g := mkF m pc Ls (.int j :: .ref a :: rest)) rfl rfl hd t kt) k
theorem own_ldB (X : Stand p l e R s m args below meth c T locs cells slots) (hx : p.tables.exec = Jvm.exec) (hZ : Z.Warmed39 s.vm) (eT : T.heap = h) (A : own_A Z h a .byte n xs) (hj : ¬ j < 0 ∧ j < n) (hd : decode c.code pc = .ok (.baload, 1)) (hv : xs.getD j.toNatClampNeg 0 = x) (k : own_Run p e below s CC SS Q T (mkF m (pc + 1) Ls (.int x :: rest))) : own_Run p e below s CC SS Q T (mkF m pc Ls (.int j :: .ref a :: rest)) := by
  obtain ⟨hl, kk, cl, Ar, q1, Sz, Nn, H, G⟩ := A
  have hin := inb_of Sz hj
  refine own_run (fun t kt => X.baloadBytes hx (j := j) (v := .int x) (by rw [eT]; exact Ar.1) (State.isArrayOf_alike hZ.alike Ar.2.1) Ar.2.2 hin (H.at hin (by rw [own_getD, hv])) (g := mkF m pc Ls (.int j :: .ref a :: rest)) rfl rfl hd t kt) k
theorem own_map_set (xs : List Int32) (i : Nat) (x : Int32) : (xs.map Value.int).set i (.int x) = (xs.set i x).map Value.int := by rw [List.map_set]
theorem own_stI (X : Stand p l e R s m args below meth c T locs cells slots) (hx : p.tables.exec = Jvm.exec) (hZ : Z.Warmed39 s.vm) (eT : T.heap = h) (A : own_A Z h a .int n xs) (hj : ¬ j < 0 ∧ j < n) (N : Fr n0 locs) (ga : n0 ≤ a) (hd : decode c.code pc = .ok (.iastore, 1)) (hys : xs.set j.toNatClampNeg x = ys)
    (k : ∀ T' h' locs', Stand p l e R s m args below meth c T' locs' cells slots → Fr n0 locs' → T'.heap = h' → Wr h h' a j.toNatClampNeg (.int x) → own_A Z h' a .int n ys → own_Run p e below s CC SS Q T' (mkF m (pc + 1) Ls rest)) : own_Run p e below s CC SS Q T (mkF m pc Ls (.int x :: .int j :: .ref a :: rest)) := by
  obtain ⟨hl, kk, cl, Ar, q1, Sz, Nn, H, G⟩ := A
  have hin := inb_of Sz hj
  obtain ⟨T', h', X', e', W, sp⟩ := stI X hx hZ eT Ar (j := j) (x := x) hin (g := mkF m pc Ls (.int x :: .int j :: .ref a :: rest)) rfl rfl hd
  have V := Arv.set Ar q1 Sz Nn H G (show fits .int (.int x) = true from rfl) W _ rfl (by rw [List.length_map, hl]; exact own_lt_clamp hj)
  refine own_run sp (k T' h' _ X' (Fr.snoc X' N ga) e' W ⟨by rw [← hys, List.length_set]; exact hl, kk, ?_⟩)
  rw [← hys, ← own_map_set]; exact V
theorem own_stB (X : Stand p l e R s m args below meth c T locs cells slots) (hx : p.tables.exec = Jvm.exec) (hZ : Z.Warmed39 s.vm) (eT : T.heap = h) (A : own_A Z h a .byte n xs) (hj : ¬ j < 0 ∧ j < n) (N : Fr n0 locs) (ga : n0 ≤ a) (hd : decode c.code pc = .ok (.bastore, 1)) (hys : xs.set j.toNatClampNeg (nar .byte x) = ys)
    (k : ∀ T' h' locs', Stand p l e R s m args below meth c T' locs' cells slots → Fr n0 locs' → T'.heap = h' → Wr h h' a j.toNatClampNeg (.int (nar .byte x)) → own_A Z h' a .byte n ys → own_Run p e below s CC SS Q T' (mkF m (pc + 1) Ls rest)) : own_Run p e below s CC SS Q T (mkF m pc Ls (.int x :: .int j :: .ref a :: rest)) := by
  obtain ⟨hl, kk, cl, Ar, q1, Sz, Nn, H, G⟩ := A
  have hin := inb_of Sz hj
  obtain ⟨T', h', X', e', W, sp⟩ := stB X hx hZ eT Ar (j := j) (x := x) hin (g := mkF m pc Ls (.int x :: .int j :: .ref a :: rest)) rfl rfl hd
  have V := Arv.set Ar q1 Sz Nn H G (fits_nar_byte x) W _ rfl (by rw [List.length_map, hl]; exact own_lt_clamp hj)
  refine own_run sp (k T' h' _ X' (Fr.snoc X' N ga) e' W ⟨by rw [← hys, List.length_set]; exact hl, kk, ?_⟩)
  rw [← hys, ← own_map_set]; exact V
/-- an array of which only the length is said -/
def own_L (Z : State) (h : Heap) (a : Addr) (n : Int32) : Prop := ∃ (ty : FieldType) (k : ClassId) (vs : List Value) (d : Value), Arv Z h a k ty n vs d
theorem own_L.lt (A : own_L Z h a n) : a < h.size := by obtain ⟨_, _, _, _, V⟩ := A; exact V.lt
theorem own_L.ext (A : own_L Z h a n) (E : Ext h h') : own_L Z h' a n := by obtain ⟨_, _, _, _, V⟩ := A; exact ⟨_, _, _, _, V.ext E⟩
theorem own_L.other (A : own_L Z h b n) (W : Wr h h' a sl v) (q : b ≠ a) : own_L Z h' b n := by obtain ⟨_, _, _, _, V⟩ := A; exact ⟨_, _, _, _, V.other W q⟩
theorem own_L.keep (A : own_L Z h a n) (K : Keep h h' ws) (q : a ∉ ws) : own_L Z h' a n := by obtain ⟨_, _, _, _, V⟩ := A; exact ⟨_, _, _, _, V.keep K q⟩
theorem own_A.toL (A : own_A Z h a ty n xs) : own_L Z h a n := by obtain ⟨-, k, V⟩ := A; exact ⟨_, _, _, _, V⟩
theorem own_newL {aty : ArrayType} {cap : Nat} (X : Stand p l e R s m args below meth c T locs cells slots) (hx : p.tables.exec = Jvm.exec) (hZ : Z.Warmed39 s.vm) (w : (Cond.arrayClass (newarray.typeOf aty)).before a0 Z = true) (eT : T.heap = h) (hd : decode c.code pc = .ok (.newarray aty, 2)) (hn : ¬ n < 0) (hcap : n.toNatClampNeg ≤ cap) (hb : cap * 8 ≤ 536870912) (hc : cells + 1 ≤ R.cells) (hl : slots + cap ≤ R.slots)
    (k : ∀ T' h' b, b = h.size → Stand p l e R s m args below meth c T' locs (cells + 1) (slots + cap) → T'.heap = h' → Ext h h' → own_L Z h' b n → own_Run p e below s CC SS Q T' (mkF m (pc + 2) Ls (.ref b :: rest))) :
    own_Run p e below s CC SS Q T (mkF m pc Ls (.int n :: rest)) := by
  obtain ⟨T', h', cA, X', e', E', A', sp⟩ := newP X hx hZ w eT (g := mkF m pc Ls (.int n :: rest)) rfl hd rfl hn hcap hb hc hl
  exact own_run sp (k T' h' _ rfl X' e' E' ⟨_, _, _, _, Arv.new A' hn⟩)
theorem own_lenL (X : Stand p l e R s m args below meth c T locs cells slots) (hx : p.tables.exec = Jvm.exec) (hZ : Z.Warmed39 s.vm) (eT : T.heap = h) (A : own_L Z h a n) (hd : decode c.code pc = .ok (.arraylength, 1)) (k : own_Run p e below s CC SS Q T (mkF m (pc + 1) Ls (.int n :: rest))) : own_Run p e below s CC SS Q T (mkF m pc Ls (.ref a :: rest)) := by
  obtain ⟨ty, kk, vs, d, cl, Ar, q1, Sz, Nn, H, G⟩ := A
  refine own_run (fun t kt => X.arraylength hx (by rw [eT]; exact Ar.1) (State.isArrayOf_alike hZ.alike Ar.2.1) (g := mkF m pc Ls (.ref a :: rest)) rfl rfl hd t (by rw [len_of Sz Nn]; exact kt)) k
/-- an array of references that holds nothing but null -/
def own_U (Z : State) (h : Heap) (a : Addr) (n : Int32) : Prop := ∃ (C : String) (k : ClassId), Arv Z h a k (.object C) n [] .null
theorem own_U.lt (A : own_U Z h a n) : a < h.size := by obtain ⟨_, _, V⟩ := A; exact V.lt
theorem own_U.ext (A : own_U Z h a n) (E : Ext h h') : own_U Z h' a n := by obtain ⟨_, _, V⟩ := A; exact ⟨_, _, V.ext E⟩
theorem own_U.toL (A : own_U Z h a n) : own_L Z h a n := by obtain ⟨_, _, V⟩ := A; exact ⟨_, _, _, _, V⟩
theorem own_newU {own K : String} {index cap : Nat} (X : Stand p l e R s m args below meth c T locs cells slots) (hx : p.tables.exec = Jvm.exec) (hZ : Z.Warmed39 s.vm) (hown : s.vm.findClass own = some m.cls) (w1 : (Cond.classLink own index K).before a0 Z = true) (w2 : (Cond.arrayOver (.object K)).before a0 Z = true) (eT : T.heap = h) (hd : decode c.code pc = .ok (.anewarray index, 3)) (hn : ¬ n < 0) (hcap : n.toNatClampNeg ≤ cap) (hb : cap * 8 ≤ 536870912) (hc : cells + 1 ≤ R.cells) (hl : slots + cap ≤ R.slots)
    (k : ∀ T' h' b, b = h.size → Stand p l e R s m args below meth c T' locs (cells + 1) (slots + cap) → T'.heap = h' → Ext h h' → own_U Z h' b n → own_Run p e below s CC SS Q T' (mkF m (pc + 3) Ls (.ref b :: rest))) :
    own_Run p e below s CC SS Q T (mkF m pc Ls (.int n :: rest)) := by
  obtain ⟨T', h', cA, X', e', E', A', -, sp⟩ := newR X hx hZ hown w1 w2 eT (g := mkF m pc Ls (.int n :: rest)) rfl hd rfl hn hcap hb hc hl
  exact own_run sp (k T' h' _ rfl X' e' E' ⟨_, _, Arv.new A' hn⟩)
theorem own_ldU (X : Stand p l e R s m args below meth c T locs cells slots) (hx : p.tables.exec = Jvm.exec) (hZ : Z.Warmed39 s.vm) (eT : T.heap = h) (A : own_U Z h a n) (hj : ¬ j < 0 ∧ j < n) (hd : decode c.code pc = .ok (.aaload, 1)) (k : own_Run p e below s CC SS Q T (mkF m (pc + 1) Ls (.null :: rest))) : own_Run p e below s CC SS Q T (mkF m pc Ls (.int j :: .ref a :: rest)) := by
  obtain ⟨C, kk, cl, Ar, q1, Sz, Nn, H, G⟩ := A
  have hin := inb_of Sz hj
  refine own_run (fun t kt => X.aaload hx (j := j) (v := .null) (by rw [eT]; exact Ar.1) (State.isArrayOf_alike hZ.alike Ar.2.1) rfl Ar.2.2 hin (H.at hin (by simp)) (g := mkF m pc Ls (.int j :: .ref a :: rest)) rfl rfl hd t kt) k
/-- new -/
theorem own_new {own K : String} {index sz : Nat} (X : Stand p l e R s m args below meth c T locs cells slots) (hx : p.tables.exec = Jvm.exec) (hZ : Z.Warmed39 s.vm) (hown : s.vm.findClass own = some m.cls) (w : (Cond.classLink own index K).before a0 Z = true) (wi : (Cond.instantiable K sz).before a0 Z = true) (wz : (Cond.initialized K).before a0 Z = true) (eT : T.heap = h) (hd : decode c.code pc = .ok (.new index, 3)) (hc : cells + 1 ≤ R.cells) (hl : slots + sz ≤ R.slots)
    (k : ∀ T' h' b, b = h.size → Stand p l e R s m args below meth c T' locs (cells + 1) (slots + sz) → T'.heap = h' → Ext h h' → Exa Z h' b K → (∀ {O nm d : String} {ty : FieldType}, Laid Z a0 K O nm d → parseFieldDescriptor d = some ty → Fld Z h' b O nm d (defaultValue ty)) → own_Run p e below s CC SS Q T' (mkF m (pc + 3) Ls (.ref b :: rest))) :
    own_Run p e below s CC SS Q T (mkF m pc Ls rest) := by
  obtain ⟨T', h', X', e', E', A', D', -, sp⟩ := newO X hx hZ hown w wi wz eT (g := mkF m pc Ls rest) rfl hd hc hl
  exact own_run sp (k T' h' _ rfl X' e' E' A' D')
theorem own_getF {own R0 O nm d host : String} {index : Nat} (X : Stand p l e R s m args below meth c T locs cells slots) (hx : p.tables.exec = Jvm.exec) (hZ : Z.Warmed39 s.vm) (hown : s.vm.findClass own = some m.cls) (w : (Cond.fieldLink own index R0 nm d).before a0 Z = true ∨ (Cond.fieldLinkNest own index R0 nm d host).before a0 Z = true) (via : Via Z R0 O nm d) (eT : T.heap = h) (F : Fld Z h a O nm d v) (hd : decode c.code pc = .ok (.getfield index, 3))
    (k : ∀ T', Stand p l e R s m args below meth c T' locs cells slots → T'.heap = h → own_Run p e below s CC SS Q T' (mkF m (pc + 3) Ls (v :: rest))) : own_Run p e below s CC SS Q T (mkF m pc Ls (.ref a :: rest)) := by
  obtain ⟨T', X', e', sp⟩ := getF X hx hZ hown w via eT F (g := mkF m pc Ls (.ref a :: rest)) rfl rfl hd
  exact own_run sp (k T' X' e')
theorem own_getS {own R0 O nm d : String} {index : Nat} (X : Stand p l e R s m args below meth c T locs cells slots) (hx : p.tables.exec = Jvm.exec) (hZ : Z.Warmed39 s.vm) (hown : s.vm.findClass own = some m.cls) (w : (Cond.fieldLink own index R0 nm d).before a0 Z = true) (via : Via Z R0 O nm d) (eT : T.heap = h) (F : Sta Z h O nm d v) (hd : decode c.code pc = .ok (.getstatic index, 3))
    (k : ∀ T', Stand p l e R s m args below meth c T' locs cells slots → T'.heap = h → own_Run p e below s CC SS Q T' (mkF m (pc + 3) Ls (v :: rest))) : own_Run p e below s CC SS Q T (mkF m pc Ls rest) := by
  obtain ⟨T', X', e', sp⟩ := getS (host := "") X hx hZ hown w via eT F (g := mkF m pc Ls rest) rfl hd
  exact own_run sp (k T' X' e')
theorem own_StaKeep {O nm d K : String} (F : Sta Z h O nm d v) (Kp : Keep h h' [a]) (E : Exa Z h a K) : Sta Z h' O nm d v := by
  obtain ⟨cf, i, k, f, st, cell, h1, h2, h3, h4, h5, h6, h7⟩ := F
  obtain ⟨cell', k', q1, -, -, q4, -⟩ := E
  have ne : st ≠ a := fun e => by subst e; cases h5.symm.trans q1; rw [h6] at q4; cases q4
  exact ⟨cf, i, k, f, st, cell, h1, h2, h3, h4, Kp.2.1 _ _ h5 (ninS ne nin0), h6, h7⟩
theorem own_StaKeepA {O nm d : String} (F : Sta Z h O nm d v) (Kp : Keep h h' [a]) (A : own_A Z h a ty n xs) : Sta Z h' O nm d v := by
  obtain ⟨cf, i, k, f, st, cell, h1, h2, h3, h4, h5, h6, h7⟩ := F
  obtain ⟨-, kk, cl, Ar, -⟩ := A
  have q4 := Ar.plain
  have ne : st ≠ a := fun e => by subst e; cases h5.symm.trans Ar.1; rw [h6] at q4; cases q4
  exact ⟨cf, i, k, f, st, cell, h1, h2, h3, h4, Kp.2.1 _ _ h5 (ninS ne nin0), h6, h7⟩
theorem own_putF {own R0 O nm d host K : String} {index kk : Nat} {old : Value} (X : Stand p l e R s m args below meth c T locs cells slots) (hx : p.tables.exec = Jvm.exec) (hZ : Z.Warmed39 s.vm) (hown : s.vm.findClass own = some m.cls) (w : (Cond.fieldLink own index R0 nm d).before a0 Z = true ∨ (Cond.fieldLinkNest own index R0 nm d host).before a0 Z = true) (via : Via Z R0 O nm d) (eT : T.heap = h) (F : Fld Z h a O nm d old) (E : Exa Z h a K) (L : (Cond.lays K O nm d).before a0 Z = true ∨ ((Cond.laysFinal K O nm d).before a0 Z = true ∧ own = O ∧ meth.name = "<init>")) (wi : (Cond.instantiable K kk).before a0 Z = true) (hty : parseFieldDescriptor d = some ty) (hn : narrow ty v = v) (hf : fits ty v = true) (N : Fr n0 locs) (ga : n0 ≤ a) (hd : decode c.code pc = .ok (.putfield index, 3))
    (k : ∀ T' h' locs', Stand p l e R s m args below meth c T' locs' cells slots → Fr n0 locs' → T'.heap = h' → Wr h h' a (Jvm.RoadKit.slotOf Z O nm d) v → Fld Z h' a O nm d v → own_Run p e below s CC SS Q T' (mkF m (pc + 3) Ls rest)) : own_Run p e below s CC SS Q T (mkF m pc Ls (v :: .ref a :: rest)) := by
  obtain ⟨T', h', X', e', W, sp⟩ := putF X hx hZ hown w via eT F E L wi hty hn hf (g := mkF m pc Ls (v :: .ref a :: rest)) rfl rfl hd
  exact own_run sp (k T' h' _ X' (Fr.snoc X' N ga) e' W (F.same W))
theorem own_initO {own : String} {index W : Nat} (X : Stand p l e R s m args below meth c T locs cells slots) (hx : p.tables.exec = Jvm.exec) (hZ : Z.Warmed39 s.vm) (hown : s.vm.findClass own = some m.cls) (w1 : (Cond.methodLink own index Lib.objectInit).before a0 Z = true) (w2 : (Cond.instanceMethod Lib.objectInit).before a0 Z = true) (w3 : (Cond.code Lib.objectInit ⟨#[0xb1]⟩ 1 none).before a0 Z = true) (eT : T.heap = h) (hsize : Ls.size = c.maxLocals) (hd : decode c.code pc = .ok (.invokespecial index, 3)) (hf : 1 ≤ R.frames) (hW : (rest.map fun v => v.category).sum ≤ W) (hl : W + 12 ≤ R.locals)
    (k : ∀ T', Stand p l e R s m args below meth c T' locs cells slots → T'.heap = h → own_Run p e below s CC SS Q T' (mkF m (pc + 3) Ls rest)) : own_Run p e below s CC SS Q T (mkF m pc Ls (.ref a :: rest)) := by
  obtain ⟨T', X', e', sp⟩ := initO X hx hZ hown w1 w2 w3 eT (g := mkF m pc Ls (.ref a :: rest)) rfl hsize rfl hd hf (W := W) (by show 2 * 0 + _ ≤ _; omega) hl
  exact own_run sp (k T' X' e')
variable {own : String} {index maxL W : Nat} {y z : MethodName} {bytes : ByteArray} {ret : Option FieldType} {rm : Room} {argsL : List Value} {Q' : Option Value → Heap → List Loc → Prop}
/-- a static method by its contract -/
theorem own_callS (X : Stand p l e R s m args below meth c T locs cells slots) (hx : p.tables.exec = Jvm.exec) (hZ : Z.Warmed39 s.vm) (hown : s.vm.findClass own = some m.cls) (w1 : (Cond.methodLink own index y).before a0 Z = true) (w2 : (Cond.static y).before a0 Z = true) (w3 : (Cond.initialized y.cls).before a0 Z = true) (w4 : (Cond.code y bytes maxL ret).before a0 Z = true) (hy : y.cls ≠ "java/lang/invoke/MethodHandle" ∧ y.cls ≠ "java/lang/invoke/VarHandle")
    (hM : MetFree l y (head1 [Cond.code y bytes maxL ret] rm) (fun a U => a = argsL.toArray ∧ Z.Warmed39 U.vm ∧ U.heap = h) (fun _ _ _ _ _ => True) (fun _ U o U' => ∃ v L, o = .returned v ∧ Q' v U'.heap L ∧ FrameEnd U o U' L rm.cells rm.slots)) (eT : T.heap = h) (hf : rm.frames + 1 ≤ R.frames) (hl : W + (maxL + 11) + rm.locals ≤ R.locals) (hcl : cells + rm.cells ≤ R.cells) (hsl : slots + rm.slots ≤ R.slots) (hsize : Ls.size = c.maxLocals)
    (hlen : ∀ sig, parseMethodDescriptor y.desc = some sig → argsL.length = sig.parameters.length) (hs : st = argsL.reverse ++ rest) (hW : (rest.map fun v => v.category).sum ≤ W) (hd : decode c.code pc = .ok (.invokestatic index, 3))
    (k : ∀ T' v L, Stand p l e R s m args below meth c T' (locs ++ L) (cells + rm.cells) (slots + rm.slots) → Q' v T'.heap L → own_Run p e below s CC SS Q T' (mkF m (pc + 3) Ls (v.toList ++ rest))) : own_Run p e below s CC SS Q T (mkF m pc Ls st) := by
  obtain ⟨v, _, ⟨T1, L1, k1, n1⟩, -, X1, ⟨Lc, hQ, l1, y1, z1⟩, sp⟩ := Jvm.LawKit.callS X hx hown (mvT hZ w1) (mvT hZ w2) (mvT hZ w3) (mvT hZ w4) hy (backOf (W := W) hM hZ w4 w3 hf hl) (g := mkF m pc Ls st) rfl hsize (argsL := argsL) (rest := rest) hlen hs (by show 2 * 0 + _ ≤ _; omega) hd (fun _ _ => ⟨rfl, eT, hcl, hsl⟩)
  dsimp only [Pt.U, Pt.locs, Pt.cells, Pt.slots] at X1 l1 y1 z1 sp hQ
  subst l1 y1 z1
  exact own_run sp (k T1 v Lc X1 hQ)
/-- a constructor by its contract -/
theorem own_callI (X : Stand p l e R s m args below meth c T locs cells slots) (hx : p.tables.exec = Jvm.exec) (hZ : Z.Warmed39 s.vm) (hown : s.vm.findClass own = some m.cls) (hy1 : y.name = "<init>") (w1 : (Cond.methodLink own index y).before a0 Z = true) (w2 : (Cond.instanceMethod y).before a0 Z = true) (w3 : (Cond.initialized y.cls).before a0 Z = true) (w4 : (Cond.code y bytes maxL none).before a0 Z = true) (hy : y.cls ≠ "java/lang/invoke/MethodHandle" ∧ y.cls ≠ "java/lang/invoke/VarHandle")
    (hM : MetFree l y (head1 [Cond.code y bytes maxL none] rm) (fun a U => a = (.ref b :: argsL).toArray ∧ Z.Warmed39 U.vm ∧ U.heap = h) (fun _ _ _ _ _ => True) (fun _ U o U' => ∃ v L, o = .returned v ∧ Q' v U'.heap L ∧ FrameEnd U o U' L rm.cells rm.slots)) (eT : T.heap = h) (hf : rm.frames + 1 ≤ R.frames) (hl : W + (maxL + 11) + rm.locals ≤ R.locals) (hcl : cells + rm.cells ≤ R.cells) (hsl : slots + rm.slots ≤ R.slots) (hsize : Ls.size = c.maxLocals)
    (hlen : ∀ sig, parseMethodDescriptor y.desc = some sig → argsL.length = sig.parameters.length) (hs : st = argsL.reverse ++ .ref b :: rest) (hW : (rest.map fun v => v.category).sum ≤ W) (hd : decode c.code pc = .ok (.invokespecial index, 3))
    (k : ∀ T' v L, Stand p l e R s m args below meth c T' (locs ++ L) (cells + rm.cells) (slots + rm.slots) → Q' v T'.heap L → own_Run p e below s CC SS Q T' (mkF m (pc + 3) Ls (v.toList ++ rest))) : own_Run p e below s CC SS Q T (mkF m pc Ls st) := by
  obtain ⟨v, _, ⟨T1, L1, k1, n1⟩, -, X1, ⟨Lc, hQ, l1, y1, z1⟩, sp⟩ := X.specialBack hx (y := y) hy1 hown (mvT hZ w1) (mvT hZ w2) (mvT hZ w4) hy (backOf (W := W) hM hZ w4 w3 hf hl) (g := mkF m pc Ls st) rfl hsize (Steps.refl _) (a := b) (argsL := argsL) (rest := rest) hlen hs (by show 2 * 0 + _ ≤ _; omega) hd (fun _ _ => ⟨rfl, eT, hcl, hsl⟩)
  dsimp only [Pt.U, Pt.locs, Pt.cells, Pt.slots] at X1 l1 y1 z1 sp hQ
  subst l1 y1 z1
  exact own_run (fun t kt => sp.trans kt) (k T1 v Lc X1 hQ)
/-- an instance method by its contract -/
theorem own_callV {K : String} (X : Stand p l e R s m args below meth c T locs cells slots) (hx : p.tables.exec = Jvm.exec) (hZ : Z.Warmed39 s.vm) (hown : s.vm.findClass own = some m.cls) (w1 : (Cond.methodLink own index y).before a0 Z = true) (w2 : (Cond.declares y).before a0 Z = true) (w5 : (Cond.selects K y y).before a0 Z = true) (w6 : (Cond.instanceMethod y).before a0 Z = true) (w3 : (Cond.initialized y.cls).before a0 Z = true) (w4 : (Cond.code y bytes maxL ret).before a0 Z = true) (hy : y.cls ≠ "java/lang/invoke/MethodHandle" ∧ y.cls ≠ "java/lang/invoke/VarHandle") (E : Exa Z h b K)
    (hM : MetFree l y (head1 [Cond.code y bytes maxL ret] rm) (fun a U => a = (.ref b :: argsL).toArray ∧ Z.Warmed39 U.vm ∧ U.heap = h) (fun _ _ _ _ _ => True) (fun _ U o U' => ∃ v L, o = .returned v ∧ Q' v U'.heap L ∧ FrameEnd U o U' L rm.cells rm.slots)) (eT : T.heap = h) (hf : rm.frames + 1 ≤ R.frames) (hl : W + (maxL + 11) + rm.locals ≤ R.locals) (hcl : cells + rm.cells ≤ R.cells) (hsl : slots + rm.slots ≤ R.slots) (hsize : Ls.size = c.maxLocals)
    (hlen : ∀ sig, parseMethodDescriptor y.desc = some sig → argsL.length = sig.parameters.length) (hs : st = argsL.reverse ++ .ref b :: rest) (hW : (rest.map fun v => v.category).sum ≤ W) (hd : decode c.code pc = .ok (.invokevirtual index, 3))
    (k : ∀ T' v L, Stand p l e R s m args below meth c T' (locs ++ L) (cells + rm.cells) (slots + rm.slots) → Q' v T'.heap L → own_Run p e below s CC SS Q T' (mkF m (pc + 3) Ls (v.toList ++ rest))) : own_Run p e below s CC SS Q T (mkF m pc Ls st) := by
  obtain ⟨cq, kq, qa, qb, qc⟩ := isOf hZ eT E
  obtain ⟨v, _, ⟨T1, L1, k1, n1⟩, -, X1, ⟨Lc, hQ, l1, y1, z1⟩, sp⟩ := X.virtualBack hx (y := y) (z := y) hown (mvT hZ w1) (mvT hZ w2) (notFace_of_selects (args := #[]) (mvT hZ w5)) (mvT hZ w5) (mvT hZ w6) hy (backOf (W := W) hM hZ w4 w3 hf hl) qa qc (g := mkF m pc Ls st) rfl hsize (Steps.refl _) (argsL := argsL) (rest := rest) hlen hs (by show 2 * 0 + _ ≤ _; omega) hd (fun _ _ => ⟨rfl, eT, hcl, hsl⟩)
  dsimp only [Pt.U, Pt.locs, Pt.cells, Pt.slots] at X1 l1 y1 z1 sp hQ
  subst l1 y1 z1
  exact own_run (fun t kt => sp.trans kt) (k T1 v Lc X1 hQ)
/-- a private instance method by its contract -/
theorem own_callP {kk : Nat} {K : String} (X : Stand p l e R s m args below meth c T locs cells slots) (hx : p.tables.exec = Jvm.exec) (hZ : Z.Warmed39 s.vm) (hown : s.vm.findClass own = some m.cls) (w1 : (Cond.methodLink own index y).before a0 Z = true) (w2 : (Cond.instanceMethod y).before a0 Z = true) (wi : (Cond.instantiable y.cls kk).before a0 Z = true) (wp : (Cond.privateMethod y).before a0 Z = true) (w3 : (Cond.initialized y.cls).before a0 Z = true) (w4 : (Cond.code y bytes maxL ret).before a0 Z = true) (hy : y.cls ≠ "java/lang/invoke/MethodHandle" ∧ y.cls ≠ "java/lang/invoke/VarHandle") (E : Exa Z h b K)
    (hM : MetFree l y (head1 [Cond.code y bytes maxL ret] rm) (fun a U => a = (.ref b :: argsL).toArray ∧ Z.Warmed39 U.vm ∧ U.heap = h) (fun _ _ _ _ _ => True) (fun _ U o U' => ∃ v L, o = .returned v ∧ Q' v U'.heap L ∧ FrameEnd U o U' L rm.cells rm.slots)) (eT : T.heap = h) (hf : rm.frames + 1 ≤ R.frames) (hl : W + (maxL + 11) + rm.locals ≤ R.locals) (hcl : cells + rm.cells ≤ R.cells) (hsl : slots + rm.slots ≤ R.slots) (hsize : Ls.size = c.maxLocals)
    (hlen : ∀ sig, parseMethodDescriptor y.desc = some sig → argsL.length = sig.parameters.length) (hs : st = argsL.reverse ++ .ref b :: rest) (hW : (rest.map fun v => v.category).sum ≤ W) (hd : decode c.code pc = .ok (.invokevirtual index, 3))
    (k : ∀ T' v L, Stand p l e R s m args below meth c T' (locs ++ L) (cells + rm.cells) (slots + rm.slots) → Q' v T'.heap L → own_Run p e below s CC SS Q T' (mkF m (pc + 3) Ls (v.toList ++ rest))) : own_Run p e below s CC SS Q T (mkF m pc Ls st) := by
  obtain ⟨cq, q1, q2⟩ := E.cell
  obtain ⟨cI, kI, hc, hk, -, hniab, -, -⟩ := Cond.instantiable_spec (mvT (args := args) hZ wi)
  have hni : kI.isInterface = false := (Bool.or_eq_false_iff.mp hniab).1
  have hpriv : s.PrivateAt y := Cond.privateMethod_at (mvP hZ wp (args := #[]))
  have hsel : (Cond.selects y.cls y y).before args s = true := selects_self_of_private hc hk hni hpriv (mvT hZ w2) hy
  obtain ⟨v, _, ⟨T1, L1, k1, n1⟩, -, X1, ⟨Lc, hQ, l1, y1, z1⟩, sp⟩ := X.privateBack hx (y := y) hown (mvT hZ w1) (mvT hZ w2) hsel hpriv (mvT hZ w4) hy (backOf (W := W) hM hZ w4 w3 hf hl) (g := mkF m pc Ls st) rfl hsize (Steps.refl _) (a := b) (by rw [eT]; exact q1) q2 (argsL := argsL) (rest := rest) hlen hs (by show 2 * 0 + _ ≤ _; omega) hd (fun _ _ => ⟨rfl, eT, hcl, hsl⟩)
  dsimp only [Pt.U, Pt.locs, Pt.cells, Pt.slots] at X1 l1 y1 z1 sp hQ
  subst l1 y1 z1
  exact own_run (fun t kt => sp.trans kt) (k T1 v Lc X1 hQ)
end Own
theorem own_pn1 : plainName "com/example/tessera/tessera/tls/TlsReader" = true := by first | (simp [plainName, overriddenIn]; done) | decide +kernel
theorem own_ef1 (m : MethodId) (o0 : Addr) (p1 : Int32) : entryFrame m #[(.ref o0), (.int p1)] 6 = mkF m 0 #[.val (.ref o0), .val (.int p1), .unset, .unset, .unset, .unset] [] := by first | (simp [entryFrame, mkF, argsToLocals, Value.category]; done) | rfl
def own_R1 : Room := ({ frames := 0, cells := 0, slots := 0, locals := 0 } : Room)
def own_f1 (xs : List Int32) (p : Int32) : Int32 := if xs.any (fun x => decide ((x &&& (255 : Int32)) = p)) then 1 else 0
def Q1 (z : Int32) (h0 : Heap) (n0 : Nat) (v : Option Value) (h : Heap) (L : List Loc) : Prop := v = some (.int z) ∧ Fr n0 L ∧ h = h0
theorem own_clamp {n : Nat} (h : n < 2147483648) : (Int32.ofNat n).toNatClampNeg = n := by
  have e1 : (Int32.ofNat n).toInt = n := len_toInt h
  simp only [Int32.toNatClampNeg, e1]; omega
theorem own_one (i : Nat) : Int32.ofNat i + (1 : Int32) = Int32.ofNat (i + 1) := (Int32.ofNat_add i 1).symm
theorem own_ofnat_lt {j : Nat} {n : Int32} (h : j < 2147483648) : Int32.ofNat j < n ↔ j < n.toNatClampNeg := by
  have e1 : (Int32.ofNat j).toInt = j := len_toInt h
  rw [Int32.lt_iff_toInt_lt, e1]; simp only [Int32.toNatClampNeg]; omega
theorem own_clamp_lt (n : Int32) : n.toNatClampNeg < 2147483648 := by
  have := n.toInt_lt; simp only [Int32.toNatClampNeg]; omega
theorem own_ofnat_nn {j : Nat} (h : j < 2147483648) : ¬ Int32.ofNat j < 0 := by
  have e1 : (Int32.ofNat j).toInt = j := len_toInt h
  rw [Int32.lt_iff_toInt_lt, e1]; simp
theorem own_back {p : Int32} (h : ¬ p < 0) : Int32.ofNat p.toNatClampNeg = p := by
  have e1 : (Int32.ofNat p.toNatClampNeg).toInt = p.toNatClampNeg := len_toInt (own_clamp_lt p)
  rw [← Int32.toInt_inj, e1]
  rw [Int32.lt_iff_toInt_lt] at h
  simp only [Int32.toNatClampNeg]; simp at h; omega
theorem own_i32 {x k : Int32} (h : x.toInt = k.toInt) : x = k := Int32.toInt_inj.mp h
theorem own_and3 (x : Int32) : (x &&& (3 : Int32)) = 0 ∨ (x &&& (3 : Int32)) = 1 ∨ (x &&& (3 : Int32)) = 2 ∨ (x &&& (3 : Int32)) = 3 := by
  have e := Jvm.Kit.i32_mask x 3 (k := 2) (by decide) (by decide)
  have hb : x.toInt % 2 ^ 2 = 0 ∨ x.toInt % 2 ^ 2 = 1 ∨ x.toInt % 2 ^ 2 = 2 ∨ x.toInt % 2 ^ 2 = 3 := by omega
  rcases hb with h | h | h | h
  · exact Or.inl (own_i32 (k := 0) (e.trans h))
  · exact Or.inr (Or.inl (own_i32 (k := 1) (e.trans h)))
  · exact Or.inr (Or.inr (Or.inl (own_i32 (k := 2) (e.trans h))))
  · exact Or.inr (Or.inr (Or.inr (own_i32 (k := 3) (e.trans h))))

theorem own_any0 (xs : List Int32) (p : Int32) (h : ∀ k, k < xs.length → ¬ (xs.getD k 0 &&& (255 : Int32)) = p) : own_f1 xs p = 0 := by
  unfold own_f1
  rw [if_neg]
  simp only [List.any_eq_true, decide_eq_true_eq, not_exists, not_and]
  intro x hx
  obtain ⟨k, hk, rfl⟩ := List.getElem_of_mem hx
  have := h k hk
  simpa [List.getD_eq_getElem?_getD, hk] using this
theorem own_any1 (xs : List Int32) (p : Int32) (k : Nat) (hk : k < xs.length) (h : (xs.getD k 0 &&& (255 : Int32)) = p) : own_f1 xs p = 1 := by
  unfold own_f1
  rw [if_pos]
  simp only [List.any_eq_true, decide_eq_true_eq]
  refine ⟨xs[k], List.getElem_mem hk, ?_⟩
  simpa [List.getD_eq_getElem?_getD, hk] using h
theorem d1_0 : decode prog_46_method_4_code 0 = .ok (.aload_n 0, 1) := by decide +kernel
theorem d1_1 : decode prog_46_method_4_code 1 = .ok (.astore_n 2, 1) := by decide +kernel
theorem d1_2 : decode prog_46_method_4_code 2 = .ok (.aload_n 2, 1) := by decide +kernel
theorem d1_3 : decode prog_46_method_4_code 3 = .ok (.arraylength, 1) := by decide +kernel
theorem d1_4 : decode prog_46_method_4_code 4 = .ok (.istore_n 3, 1) := by decide +kernel
theorem d1_5 : decode prog_46_method_4_code 5 = .ok (.iconst 0, 1) := by decide +kernel
theorem d1_6 : decode prog_46_method_4_code 6 = .ok (.istore 4, 2) := by decide +kernel
theorem d1_8 : decode prog_46_method_4_code 8 = .ok (.iload 4, 2) := by decide +kernel
theorem d1_10 : decode prog_46_method_4_code 10 = .ok (.iload_n 3, 1) := by decide +kernel
theorem d1_11 : decode prog_46_method_4_code 11 = .ok (.if_icmp .ge 27, 3) := by decide +kernel
theorem d1_14 : decode prog_46_method_4_code 14 = .ok (.aload_n 2, 1) := by decide +kernel
theorem d1_15 : decode prog_46_method_4_code 15 = .ok (.iload 4, 2) := by decide +kernel
theorem d1_17 : decode prog_46_method_4_code 17 = .ok (.baload, 1) := by decide +kernel
theorem d1_18 : decode prog_46_method_4_code 18 = .ok (.istore 5, 2) := by decide +kernel
theorem d1_20 : decode prog_46_method_4_code 20 = .ok (.iload 5, 2) := by decide +kernel
theorem d1_22 : decode prog_46_method_4_code 22 = .ok (.sipush 255, 3) := by decide +kernel
theorem d1_25 : decode prog_46_method_4_code 25 = .ok (.iand, 1) := by decide +kernel
theorem d1_26 : decode prog_46_method_4_code 26 = .ok (.iload_n 1, 1) := by decide +kernel
theorem d1_27 : decode prog_46_method_4_code 27 = .ok (.if_icmp .ne 5, 3) := by decide +kernel
theorem d1_30 : decode prog_46_method_4_code 30 = .ok (.iconst 1, 1) := by decide +kernel
theorem d1_31 : decode prog_46_method_4_code 31 = .ok (.ireturn, 1) := by decide +kernel
theorem d1_32 : decode prog_46_method_4_code 32 = .ok (.iinc 4 1, 3) := by decide +kernel
theorem d1_35 : decode prog_46_method_4_code 35 = .ok (.goto (-27), 3) := by decide +kernel
theorem d1_38 : decode prog_46_method_4_code 38 = .ok (.iconst 0, 1) := by decide +kernel
theorem d1_39 : decode prog_46_method_4_code 39 = .ok (.ireturn, 1) := by decide +kernel
set_option maxRecDepth 65536 in
set_option maxHeartbeats 40000000 in
theorem rm1 (l : Launch) (Z : State) (a0 : Array Value) (hw : ∀ d ∈ tables_1, d.before a0 Z = true) (ws : List Jvm.Cond) (o0 : Addr) (p1 : Int32) (n : Int32) (xs : List Int32) (h0 : Heap) (n0 : Nat) (A0 : own_A Z h0 o0 .byte n xs) :
    MetFree l (⟨"com/example/tessera/tessera/tls/TlsReader", "containsU8", "([BI)Z"⟩ : MethodName) (head1 (Jvm.Cond.code (⟨"com/example/tessera/tessera/tls/TlsReader", "containsU8", "([BI)Z"⟩ : MethodName) prog_46_method_4_code 6 (some .boolean) :: ws) own_R1) (fun a U => a = #[(.ref o0), (.int p1)] ∧ Z.Warmed39 U.vm ∧ U.heap = h0) (fun _ _ _ _ _ => True) (fun _ U o U' => ∃ v L, o = .returned v ∧ Q1 (own_f1 xs p1) h0 n0 v U'.heap L ∧ FrameEnd U o U' L own_R1.cells own_R1.slots) := by
  refine MetFree.of_bodySF (plainFor_of_name own_pn1) hisR ?_
  intro p e s m args below meth c s₁ Bd hml0 hP hK
  obtain ⟨ha, hZ, hh⟩ := hP
  have hx := Bd.exec
  have hby := Bd.bytes
  have hml : c.maxLocals = 6 := hml0
  have hown : s.vm.findClass "com/example/tessera/tessera/tls/TlsReader" = some m.cls := findClass_of_methodNamed Bd.named
  have hnm := (name_of_methodNamed Bd.named Bd.method).1
  have X0 : Stand p l e own_R1 s m args below meth c s₁ [] 0 0 := Stand.of_body Bd
  have e0 : s₁.heap = h0 := by rw [← hh, Bd.state]; rfl
  have N0 := Fr.nil n0
  refine own_enter (Q := (Q1 (own_f1 xs p1) h0 n0)) (g := mkF m 0 #[.val (.ref o0), .val (.int p1), .unset, .unset, .unset, .unset] []) (by rw [ha]; exact own_ef1 m o0 p1) ?_
  refine own_run (g' := (mkF m 3 #[.val (.ref o0), .val (.int p1), .val (.ref o0), .unset, .unset, .unset] [(.ref o0)])) (fun _ kt => XS.aloadN X0.here hx rfl (hb hby d1_0) rfl rfl (XS.astoreN X0.here hx rfl (hb hby d1_1) rfl rfl (l' := #[.val (.ref o0), .val (.int p1), .val (.ref o0), .unset, .unset, .unset]) rfl (XS.aloadN X0.here hx rfl (hb hby d1_2) rfl rfl (kt)))) ?_
  refine own_len X0 hx hZ e0 A0 (hb hby d1_3) ?_
  refine own_run (g' := (mkF m 8 #[.val (.ref o0), .val (.int p1), .val (.ref o0), .val (.int n), .val (.int (0 : Int32)), .unset] [])) (fun _ kt => XS.istoreN X0.here hx rfl (hb hby d1_4) rfl (l' := #[.val (.ref o0), .val (.int p1), .val (.ref o0), .val (.int n), .unset, .unset]) rfl (XS.iconst X0.here hx rfl (hb hby d1_5) (XS.istore X0.here hx rfl (hb hby d1_6) rfl (l' := #[.val (.ref o0), .val (.int p1), .val (.ref o0), .val (.int n), .val (.int (0 : Int32)), .unset]) rfl (kt)))) ?_
  have loop1 : ∀ (mz : Nat) (T1 : State) (L1 : List Loc) (i : Int32) (s1_5 : Slot) (j : Nat), Stand p l e own_R1 s m args below meth c T1 L1 0 0 → Fr n0 L1 → T1.heap = h0 → (s1_5 = .unset ∨ ∃ w, s1_5 = .val w ∧ w.category = 1) → (i = Int32.ofNat j) → (j ≤ n.toNatClampNeg) → (∀ k, k < j → ¬ (xs.getD k 0 &&& (255 : Int32)) = p1) → n.toNatClampNeg - j = mz → own_Run p e below s own_R1.cells own_R1.slots (Q1 (own_f1 xs p1) h0 n0) T1 (mkF m 8 #[.val (.ref o0), .val (.int p1), .val (.ref o0), .val (.int n), .val (.int i), s1_5] []) := by
    intro mz
    induction mz using Nat.strongRecOn with
    | _ mz ih1 =>
      intro T1 L1 i s1_5 j X1 N1 e1 hs1_5 hij hj hp hmz
      refine own_run (g' := (mkF m 11 #[.val (.ref o0), .val (.int p1), .val (.ref o0), .val (.int n), .val (.int i), s1_5] [(.int n), (.int i)])) (fun _ kt => XS.iload X1.here hx rfl (hb hby d1_8) rfl (XS.iloadN X1.here hx rfl (hb hby d1_10) rfl (kt))) ?_
      have hjb : j < 2147483648 := Nat.lt_of_le_of_lt hj (own_clamp_lt n)
      by_cases hc11 : i < n
      · refine own_run (g' := (mkF m 14 #[.val (.ref o0), .val (.int p1), .val (.ref o0), .val (.int n), .val (.int i), s1_5] [])) (fun _ kt => XS.icmpNo X1.here hx rfl (hb hby d1_11) rfl ((tlt hc11).2.1) (kt)) ?_
        have hjn : j < n.toNatClampNeg := by rw [hij] at hc11; exact (own_ofnat_lt hjb).mp hc11
        have hjc : i.toNatClampNeg = j := by rw [hij]; exact own_clamp hjb
        refine own_run (g' := (mkF m 17 #[.val (.ref o0), .val (.int p1), .val (.ref o0), .val (.int n), .val (.int i), s1_5] [(.int i), (.ref o0)])) (fun _ kt => XS.aloadN X1.here hx rfl (hb hby d1_14) rfl rfl (XS.iload X1.here hx rfl (hb hby d1_15) rfl (kt))) ?_
        refine own_ldB X1 hx hZ e1 A0 (j := i) ⟨by rw [hij]; exact own_ofnat_nn hjb, hc11⟩ (hb hby d1_17) (x := (xs.getD i.toNatClampNeg 0)) rfl ?_
        refine own_run (g' := (mkF m 27 #[.val (.ref o0), .val (.int p1), .val (.ref o0), .val (.int n), .val (.int i), .val (.int (xs.getD i.toNatClampNeg 0))] [(.int p1), (.int ((xs.getD i.toNatClampNeg 0) &&& (255 : Int32)))])) (fun _ kt => XS.istore X1.here hx rfl (hb hby d1_18) rfl (l' := #[.val (.ref o0), .val (.int p1), .val (.ref o0), .val (.int n), .val (.int i), .val (.int (xs.getD i.toNatClampNeg 0))]) (XS.store1 (o := s1_5) rfl hs1_5 rfl) (XS.iload X1.here hx rfl (hb hby d1_20) rfl (XS.sipush X1.here hx rfl (hb hby d1_22) (XS.iand X1.here hx rfl (hb hby d1_25) rfl (XS.iloadN X1.here hx rfl (hb hby d1_26) rfl (kt)))))) ?_
        by_cases hc27 : ((xs.getD i.toNatClampNeg 0) &&& (255 : Int32)) = p1
        · refine own_run (g' := (mkF m 31 #[.val (.ref o0), .val (.int p1), .val (.ref o0), .val (.int n), .val (.int i), .val (.int (xs.getD i.toNatClampNeg 0))] [(.int (1 : Int32))])) (fun _ kt => XS.icmpNo X1.here hx rfl (hb hby d1_27) rfl ((teq hc27).2) (XS.iconst X1.here hx rfl (hb hby d1_30) (kt))) ?_
          have hf : own_f1 xs p1 = 1 := own_any1 xs p1 j (by rw [A0.1]; exact hjn) (by rw [← hjc]; exact hc27)
          exact own_retN (t := .boolean) X1 hx Bd.notSynchronized Bd.returns (by simp) (hb hby d1_31) (by decide) (by decide) ⟨congrArg (fun z => some (Value.int z)) hf.symm, N1, e1⟩
        · refine own_run (g' := (mkF m 32 #[.val (.ref o0), .val (.int p1), .val (.ref o0), .val (.int n), .val (.int i), .val (.int (xs.getD i.toNatClampNeg 0))] [])) (fun _ kt => XS.icmpYes X1.here hx rfl (pc0 := 27) (pc' := 32) rfl (hb hby d1_27) rfl ((feq hc27).2) (by decide) (by decide) (kt)) ?_
          have hcj : ¬ (xs.getD j 0 &&& (255 : Int32)) = p1 := by rw [← hjc]; exact hc27
          refine own_run (g' := (mkF m 8 #[.val (.ref o0), .val (.int p1), .val (.ref o0), .val (.int n), .val (.int (i + (1 : Int32))), .val (.int (xs.getD i.toNatClampNeg 0))] [])) (fun _ kt => XS.iinc X1.here hx rfl (hb hby d1_32) rfl (l' := #[.val (.ref o0), .val (.int p1), .val (.ref o0), .val (.int n), .val (.int (i + (1 : Int32))), .val (.int (xs.getD i.toNatClampNeg 0))]) rfl (XS.goto X1.here hx rfl (pc0 := 35) (pc' := 8) rfl (hb hby d1_35) (by decide) (by decide) (kt))) ?_
          exact ih1 _ (by omega) T1 _ (i + (1 : Int32)) (.val (.int (xs.getD i.toNatClampNeg 0))) (j + 1) X1 N1 e1 (Or.inr ⟨_, rfl, rfl⟩) (by rw [hij]; exact own_one j) hjn (fun k hk => (Nat.lt_succ_iff_lt_or_eq.mp hk).elim (hp k) (fun q => by rw [q]; exact hcj)) rfl
      · refine own_run (g' := (mkF m 39 #[.val (.ref o0), .val (.int p1), .val (.ref o0), .val (.int n), .val (.int i), s1_5] [(.int (0 : Int32))])) (fun _ kt => XS.icmpYes X1.here hx rfl (pc0 := 11) (pc' := 38) rfl (hb hby d1_11) rfl ((flt hc11).2.1) (by decide) (by decide) (XS.iconst X1.here hx rfl (hb hby d1_38) (kt))) ?_
        have hf : own_f1 xs p1 = 0 := own_any0 xs p1 (fun k hk => hp k (Nat.lt_of_lt_of_le (by rw [A0.1] at hk; exact hk) (Nat.le_of_not_lt (fun q => hc11 (by rw [hij]; exact (own_ofnat_lt hjb).mpr q)))))
        exact own_retN (t := .boolean) X1 hx Bd.notSynchronized Bd.returns (by simp) (hb hby d1_39) (by decide) (by decide) ⟨congrArg (fun z => some (Value.int z)) hf.symm, N1, e1⟩
  exact loop1 _ s₁ _ (0 : Int32) (.unset) 0 X0 N0 e0 (Or.inl rfl) rfl (Nat.zero_le _) (fun k hk => absurd hk (Nat.not_lt_zero _)) rfl
theorem own_nar (x : Int32) : nar .byte x.toInt8.toInt32 = x.toInt8.toInt32 := by simp [nar]
theorem own_fin (n x0 x1 x2 q : Int32) (xs3 xs5 xs7 : List Int32) (z : Int32) (hn : n = 0 ∨ n = 1 ∨ n = 2 ∨ n = 3)
    (h3 : xs3 = if (0 : Int32) < n then (List.replicate n.toNatClampNeg 0).set (0 : Int32).toNatClampNeg (nar .byte x0) else List.replicate n.toNatClampNeg 0)
    (h5 : xs5 = if (1 : Int32) < n then xs3.set (1 : Int32).toNatClampNeg (nar .byte x1) else xs3)
    (h7 : xs7 = if (2 : Int32) < n then xs5.set (2 : Int32).toNatClampNeg (nar .byte x2) else xs5)
    (g0 : nar .byte x0 = x0) (g1 : nar .byte x1 = x1) (g2 : nar .byte x2 = x2)
    (hz : z = if ((0 : Int32) < n ∧ (x0 &&& (255 : Int32)) = q) ∨ ((1 : Int32) < n ∧ (x1 &&& (255 : Int32)) = q) ∨ ((2 : Int32) < n ∧ (x2 &&& (255 : Int32)) = q) then (1 : Int32) else (0 : Int32)) : own_f1 xs7 q = z := by
  rw [g0] at h3; rw [g1] at h5; rw [g2] at h7
  rcases hn with h | h | h | h <;> subst h
  · rw [if_neg (by decide)] at h3 h5 h7; subst h3 h5 h7 hz; rfl
  · rw [if_pos (by decide)] at h3; rw [if_neg (by decide)] at h5 h7; subst h3 h5 h7 hz
    have e : (List.replicate (1 : Int32).toNatClampNeg (0 : Int32)).set (0 : Int32).toNatClampNeg x0 = [x0] := rfl
    rw [e]; simp [own_f1]
  · rw [if_pos (by decide)] at h3 h5; rw [if_neg (by decide)] at h7; subst h3 h5 h7 hz
    have e : ((List.replicate (2 : Int32).toNatClampNeg (0 : Int32)).set (0 : Int32).toNatClampNeg x0).set (1 : Int32).toNatClampNeg x1 = [x0, x1] := rfl
    rw [e]; simp [own_f1]
  · rw [if_pos (by decide)] at h3 h5 h7; subst h3 h5 h7 hz
    have e : (((List.replicate (3 : Int32).toNatClampNeg (0 : Int32)).set (0 : Int32).toNatClampNeg x0).set (1 : Int32).toNatClampNeg x1).set (2 : Int32).toNatClampNeg x2 = [x0, x1, x2] := rfl
    rw [e]; simp [own_f1]
theorem own_pn0 : plainName "com/example/tessera/tessera/tls/TlsReaderContainsU8PinLaw" = true := by first | (simp [plainName, overriddenIn]; done) | decide +kernel
theorem own_ef0 (m : MethodId) (p0 : Int32) (p1 : Int32) (p2 : Int32) (p3 : Int32) (p4 : Int32) : entryFrame m #[(.int p0), (.int p1), (.int p2), (.int p3), (.int p4)] maxLocals = mkF m 0 #[.val (.int p0), .val (.int p1), .val (.int p2), .val (.int p3), .val (.int p4), .unset, .unset, .unset, .unset, .unset, .unset, .unset, .unset] [] := by first | (simp [entryFrame, mkF, argsToLocals, Value.category, maxLocals]; done) | rfl
def Q0 (h0 : Heap) (n0 : Nat) (v : Option Value) (h : Heap) (L : List Loc) : Prop := v = some (.int 1) ∧ Fr n0 L
theorem own_pd0 : parseMethodDescriptor "([BI)Z" = some ⟨[(.array .byte), .int], some .boolean⟩ := by decide +kernel
set_option maxRecDepth 65536 in
set_option maxHeartbeats 40000000 in
theorem rm0 (l : Launch) (Z : State) (a0 : Array Value) (hw : ∀ d ∈ tables_1, d.before a0 Z = true) (ws : List Jvm.Cond) (p0 : Int32) (p1 : Int32) (p2 : Int32) (p3 : Int32) (p4 : Int32) (h0 : Heap) (n0 : Nat) (Z0 : n0 ≤ h0.size) :
    MetFree l x (head1 (Jvm.Cond.code x code maxLocals ret :: ws) room_1) (fun a U => a = #[(.int p0), (.int p1), (.int p2), (.int p3), (.int p4)] ∧ Z.Warmed39 U.vm ∧ U.heap = h0) (fun _ _ _ _ _ => True) (fun _ U o U' => ∃ v L, o = .returned v ∧ Q0 h0 n0 v U'.heap L ∧ FrameEnd U o U' L room_1.cells room_1.slots) := by
  refine MetFree.of_bodySF (plainFor_of_name own_pn0) hisR ?_
  intro p e s m args below meth c s₁ Bd hml0 hP hK
  obtain ⟨ha, hZ, hh⟩ := hP
  have hx := Bd.exec
  have hby := Bd.bytes
  have hml : c.maxLocals = 13 := hml0
  have hown : s.vm.findClass "com/example/tessera/tessera/tls/TlsReaderContainsU8PinLaw" = some m.cls := findClass_of_methodNamed Bd.named
  have hnm := (name_of_methodNamed Bd.named Bd.method).1
  have X0 : Stand p l e room_1 s m args below meth c s₁ [] 0 0 := Stand.of_body Bd
  have e0 : s₁.heap = h0 := by rw [← hh, Bd.state]; rfl
  have N0 := Fr.nil n0
  refine own_enter (Q := (Q0 h0 n0)) (g := mkF m 0 #[.val (.int p0), .val (.int p1), .val (.int p2), .val (.int p3), .val (.int p4), .unset, .unset, .unset, .unset, .unset, .unset, .unset, .unset] []) (by rw [ha]; exact own_ef0 m p0 p1 p2 p3 p4) ?_
  refine own_run (g' := (mkF m 5 #[.val (.int p0), .val (.int p1), .val (.int p2), .val (.int p3), .val (.int p4), .val (.int (p0 &&& (3 : Int32))), .unset, .unset, .unset, .unset, .unset, .unset, .unset] [])) (fun _ kt => XS.iloadN X0.here hx rfl (hb hby at_0) rfl (XS.iconst X0.here hx rfl (hb hby at_1) (XS.iand X0.here hx rfl (hb hby at_2) rfl (XS.istore X0.here hx rfl (hb hby at_3) rfl (l' := #[.val (.int p0), .val (.int p1), .val (.int p2), .val (.int p3), .val (.int p4), .val (.int (p0 &&& (3 : Int32))), .unset, .unset, .unset, .unset, .unset, .unset, .unset]) rfl (kt))))) ?_
  obtain ⟨v3, hv3⟩ : ∃ z : Int32, z = (p0 &&& (3 : Int32)) := ⟨_, rfl⟩
  rw [← hv3]
  have hn3 : v3 = 0 ∨ v3 = 1 ∨ v3 = 2 ∨ v3 = 3 := by rw [hv3]; exact own_and3 _
  refine own_run (g' := (mkF m 13 #[.val (.int p0), .val (.int p1), .val (.int p2), .val (.int p3), .val (.int p4), .val (.int v3), .val (.int ((XT.ushr p0 (2 : Int32)) &&& (7 : Int32))), .unset, .unset, .unset, .unset, .unset, .unset] [])) (fun _ kt => XS.iloadN X0.here hx rfl (hb hby at_5) rfl (XS.iconst X0.here hx rfl (hb hby at_6) (XS.iushr X0.here hx rfl (hb hby at_7) rfl (XS.bipush X0.here hx rfl (hb hby at_8) (XS.iand X0.here hx rfl (hb hby at_10) rfl (XS.istore X0.here hx rfl (hb hby at_11) rfl (l' := #[.val (.int p0), .val (.int p1), .val (.int p2), .val (.int p3), .val (.int p4), .val (.int v3), .val (.int ((XT.ushr p0 (2 : Int32)) &&& (7 : Int32))), .unset, .unset, .unset, .unset, .unset, .unset]) rfl (kt))))))) ?_
  obtain ⟨v11, hv11⟩ : ∃ z : Int32, z = ((XT.ushr p0 (2 : Int32)) &&& (7 : Int32)) := ⟨_, rfl⟩
  rw [← hv11]
  refine own_run (g' := (mkF m 17 #[.val (.int p0), .val (.int p1), .val (.int p2), .val (.int p3), .val (.int p4), .val (.int v3), .val (.int v11), .val (.int p1.toInt8.toInt32), .unset, .unset, .unset, .unset, .unset] [])) (fun _ kt => XS.iloadN X0.here hx rfl (hb hby at_13) rfl (XS.i2b X0.here hx rfl (hb hby at_14) rfl (XS.istore X0.here hx rfl (hb hby at_15) rfl (l' := #[.val (.int p0), .val (.int p1), .val (.int p2), .val (.int p3), .val (.int p4), .val (.int v3), .val (.int v11), .val (.int p1.toInt8.toInt32), .unset, .unset, .unset, .unset, .unset]) rfl (kt)))) ?_
  obtain ⟨v15, hv15⟩ : ∃ z : Int32, z = p1.toInt8.toInt32 := ⟨_, rfl⟩
  rw [← hv15]
  refine own_run (g' := (mkF m 21 #[.val (.int p0), .val (.int p1), .val (.int p2), .val (.int p3), .val (.int p4), .val (.int v3), .val (.int v11), .val (.int v15), .val (.int p2.toInt8.toInt32), .unset, .unset, .unset, .unset] [])) (fun _ kt => XS.iloadN X0.here hx rfl (hb hby at_17) rfl (XS.i2b X0.here hx rfl (hb hby at_18) rfl (XS.istore X0.here hx rfl (hb hby at_19) rfl (l' := #[.val (.int p0), .val (.int p1), .val (.int p2), .val (.int p3), .val (.int p4), .val (.int v3), .val (.int v11), .val (.int v15), .val (.int p2.toInt8.toInt32), .unset, .unset, .unset, .unset]) rfl (kt)))) ?_
  obtain ⟨v19, hv19⟩ : ∃ z : Int32, z = p2.toInt8.toInt32 := ⟨_, rfl⟩
  rw [← hv19]
  refine own_run (g' := (mkF m 25 #[.val (.int p0), .val (.int p1), .val (.int p2), .val (.int p3), .val (.int p4), .val (.int v3), .val (.int v11), .val (.int v15), .val (.int v19), .val (.int p3.toInt8.toInt32), .unset, .unset, .unset] [])) (fun _ kt => XS.iloadN X0.here hx rfl (hb hby at_21) rfl (XS.i2b X0.here hx rfl (hb hby at_22) rfl (XS.istore X0.here hx rfl (hb hby at_23) rfl (l' := #[.val (.int p0), .val (.int p1), .val (.int p2), .val (.int p3), .val (.int p4), .val (.int v3), .val (.int v11), .val (.int v15), .val (.int v19), .val (.int p3.toInt8.toInt32), .unset, .unset, .unset]) rfl (kt)))) ?_
  obtain ⟨v23, hv23⟩ : ∃ z : Int32, z = p3.toInt8.toInt32 := ⟨_, rfl⟩
  rw [← hv23]
  refine own_run (g' := (mkF m 32 #[.val (.int p0), .val (.int p1), .val (.int p2), .val (.int p3), .val (.int p4), .val (.int v3), .val (.int v11), .val (.int v15), .val (.int v19), .val (.int v23), .val (.int p4), .unset, .unset] [(.int (1 : Int32)), (.int v11)])) (fun _ kt => XS.iload X0.here hx rfl (hb hby at_25) rfl (XS.istore X0.here hx rfl (hb hby at_27) rfl (l' := #[.val (.int p0), .val (.int p1), .val (.int p2), .val (.int p3), .val (.int p4), .val (.int v3), .val (.int v11), .val (.int v15), .val (.int v19), .val (.int v23), .val (.int p4), .unset, .unset]) rfl (XS.iload X0.here hx rfl (hb hby at_29) rfl (XS.iconst X0.here hx rfl (hb hby at_31) (kt))))) ?_
  have J1 : ∀ (v1_10 : Int32), v1_10 = (if v11 = (1 : Int32) then (v15 &&& (255 : Int32)) else (if v11 = (2 : Int32) then (v19 &&& (255 : Int32)) else (if v11 = (3 : Int32) then (v23 &&& (255 : Int32)) else (if v11 = (4 : Int32) then v15 else (if v11 = (5 : Int32) then v19 else (if v11 = (6 : Int32) then v23 else (if v11 = (7 : Int32) then ((v15 &&& (255 : Int32)) + (256 : Int32)) else p4))))))) →  own_Run p e below s room_1.cells room_1.slots (Q0 h0 n0) s₁ (mkF m 139 #[.val (.int p0), .val (.int p1), .val (.int p2), .val (.int p3), .val (.int p4), .val (.int v3), .val (.int v11), .val (.int v15), .val (.int v19), .val (.int v23), .val (.int v1_10), .unset, .unset] []) := by
    intro v1_10 hv1_10
    refine own_run (g' := (mkF m 141 #[.val (.int p0), .val (.int p1), .val (.int p2), .val (.int p3), .val (.int p4), .val (.int v3), .val (.int v11), .val (.int v15), .val (.int v19), .val (.int v23), .val (.int v1_10), .unset, .unset] [(.int v3)])) (fun _ kt => XS.iload X0.here hx rfl (hb hby at_139) rfl (kt)) ?_
    refine own_newA X0 hx hZ (aty := .byte) (hw _ (List.mem_of_getElem? (i := 0) rfl)) (ty := .byte) rfl rfl e0 (hb hby at_141) (by rcases hn3 with h | h | h | h <;> rw [h] <;> decide) (cap := 3) (by rcases hn3 with h | h | h | h <;> rw [h] <;> decide) (by decide) (by decide) (by decide) ?_
    intro T2 h2 b2 qq2 X2 e2 E2 A2
    have g_b2 : n0 ≤ b2 := by rw [qq2]; exact Z0
    have Z2 : n0 ≤ h2.size := Nat.le_trans Z0 E2.1
    refine own_run (g' := (mkF m 147 #[.val (.int p0), .val (.int p1), .val (.int p2), .val (.int p3), .val (.int p4), .val (.int v3), .val (.int v11), .val (.int v15), .val (.int v19), .val (.int v23), .val (.int v1_10), .val (.ref b2), .unset] [(.int v3)])) (fun _ kt => XS.astore X2.here hx rfl (hb hby at_143) rfl rfl (l' := #[.val (.int p0), .val (.int p1), .val (.int p2), .val (.int p3), .val (.int p4), .val (.int v3), .val (.int v11), .val (.int v15), .val (.int v19), .val (.int v23), .val (.int v1_10), .val (.ref b2), .unset]) rfl (XS.iload X2.here hx rfl (hb hby at_145) rfl (kt))) ?_
    have J3 : ∀ (T3 : State) (L3 : List Loc) (h3 : Heap) (xs5 : List Int32), Stand p l e room_1 s m args below meth c T3 L3 1 3 → Fr n0 L3 → T3.heap = h3 → n0 ≤ h3.size → own_A Z h3 b2 .byte v3 xs5 → xs5 = (if (0 : Int32) < v3 then ((List.replicate v3.toNatClampNeg 0).set (0 : Int32).toNatClampNeg (nar .byte v15)) else (List.replicate v3.toNatClampNeg 0)) →  own_Run p e below s room_1.cells room_1.slots (Q0 h0 n0) T3 (mkF m 156 #[.val (.int p0), .val (.int p1), .val (.int p2), .val (.int p3), .val (.int p4), .val (.int v3), .val (.int v11), .val (.int v15), .val (.int v19), .val (.int v23), .val (.int v1_10), .val (.ref b2), .unset] []) := by
      intro T3 L3 h3 xs5 X3 N3 e3 Zh3 A4 hxs5
      refine own_run (g' := (mkF m 159 #[.val (.int p0), .val (.int p1), .val (.int p2), .val (.int p3), .val (.int p4), .val (.int v3), .val (.int v11), .val (.int v15), .val (.int v19), .val (.int v23), .val (.int v1_10), .val (.ref b2), .unset] [(.int (1 : Int32)), (.int v3)])) (fun _ kt => XS.iload X3.here hx rfl (hb hby at_156) rfl (XS.iconst X3.here hx rfl (hb hby at_158) (kt))) ?_
      have J6 : ∀ (T6 : State) (L6 : List Loc) (h6 : Heap) (xs8 : List Int32), Stand p l e room_1 s m args below meth c T6 L6 1 3 → Fr n0 L6 → T6.heap = h6 → n0 ≤ h6.size → own_A Z h6 b2 .byte v3 xs8 → xs8 = (if (1 : Int32) < v3 then (xs5.set (1 : Int32).toNatClampNeg (nar .byte v19)) else xs5) →  own_Run p e below s room_1.cells room_1.slots (Q0 h0 n0) T6 (mkF m 168 #[.val (.int p0), .val (.int p1), .val (.int p2), .val (.int p3), .val (.int p4), .val (.int v3), .val (.int v11), .val (.int v15), .val (.int v19), .val (.int v23), .val (.int v1_10), .val (.ref b2), .unset] []) := by
        intro T6 L6 h6 xs8 X6 N6 e6 Zh6 A7 hxs8
        refine own_run (g' := (mkF m 171 #[.val (.int p0), .val (.int p1), .val (.int p2), .val (.int p3), .val (.int p4), .val (.int v3), .val (.int v11), .val (.int v15), .val (.int v19), .val (.int v23), .val (.int v1_10), .val (.ref b2), .unset] [(.int (2 : Int32)), (.int v3)])) (fun _ kt => XS.iload X6.here hx rfl (hb hby at_168) rfl (XS.iconst X6.here hx rfl (hb hby at_170) (kt))) ?_
        have J9 : ∀ (T9 : State) (L9 : List Loc) (h9 : Heap) (xs11 : List Int32), Stand p l e room_1 s m args below meth c T9 L9 1 3 → Fr n0 L9 → T9.heap = h9 → n0 ≤ h9.size → own_A Z h9 b2 .byte v3 xs11 → xs11 = (if (2 : Int32) < v3 then (xs8.set (2 : Int32).toNatClampNeg (nar .byte v23)) else xs8) →  own_Run p e below s room_1.cells room_1.slots (Q0 h0 n0) T9 (mkF m 180 #[.val (.int p0), .val (.int p1), .val (.int p2), .val (.int p3), .val (.int p4), .val (.int v3), .val (.int v11), .val (.int v15), .val (.int v19), .val (.int v23), .val (.int v1_10), .val (.ref b2), .unset] []) := by
          intro T9 L9 h9 xs11 X9 N9 e9 Zh9 A10 hxs11
          refine own_run (g' := (mkF m 182 #[.val (.int p0), .val (.int p1), .val (.int p2), .val (.int p3), .val (.int p4), .val (.int v3), .val (.int v11), .val (.int v15), .val (.int v19), .val (.int v23), .val (.int v1_10), .val (.ref b2), .unset] [(.int v3)])) (fun _ kt => XS.iload X9.here hx rfl (hb hby at_180) rfl (kt)) ?_
          have J12 : ∀ (v12_s0 : Int32), v12_s0 = (if (0 : Int32) < v3 then (if (v15 &&& (255 : Int32)) = v1_10 then (1 : Int32) else (if (1 : Int32) < v3 then (if (v19 &&& (255 : Int32)) = v1_10 then (1 : Int32) else (if (2 : Int32) < v3 then (if (v23 &&& (255 : Int32)) = v1_10 then (1 : Int32) else (0 : Int32)) else (0 : Int32))) else (if (2 : Int32) < v3 then (if (v23 &&& (255 : Int32)) = v1_10 then (1 : Int32) else (0 : Int32)) else (0 : Int32)))) else (if (1 : Int32) < v3 then (if (v19 &&& (255 : Int32)) = v1_10 then (1 : Int32) else (if (2 : Int32) < v3 then (if (v23 &&& (255 : Int32)) = v1_10 then (1 : Int32) else (0 : Int32)) else (0 : Int32))) else (if (2 : Int32) < v3 then (if (v23 &&& (255 : Int32)) = v1_10 then (1 : Int32) else (0 : Int32)) else (0 : Int32)))) →  own_Run p e below s room_1.cells room_1.slots (Q0 h0 n0) T9 (mkF m 235 #[.val (.int p0), .val (.int p1), .val (.int p2), .val (.int p3), .val (.int p4), .val (.int v3), .val (.int v11), .val (.int v15), .val (.int v19), .val (.int v23), .val (.int v1_10), .val (.ref b2), .unset] [(.int v12_s0)]) := by
            intro v12_s0 hv12_s0
            refine own_run (g' := (mkF m 241 #[.val (.int p0), .val (.int p1), .val (.int p2), .val (.int p3), .val (.int p4), .val (.int v3), .val (.int v11), .val (.int v15), .val (.int v19), .val (.int v23), .val (.int v1_10), .val (.ref b2), .val (.int v12_s0)] [(.int v1_10), (.ref b2)])) (fun _ kt => XS.istore X9.here hx rfl (hb hby at_235) rfl (l' := #[.val (.int p0), .val (.int p1), .val (.int p2), .val (.int p3), .val (.int p4), .val (.int v3), .val (.int v11), .val (.int v15), .val (.int v19), .val (.int v23), .val (.int v1_10), .val (.ref b2), .val (.int v12_s0)]) rfl (XS.aload X9.here hx rfl (hb hby at_237) rfl rfl (XS.iload X9.here hx rfl (hb hby at_239) rfl (kt)))) ?_
            refine own_callS X9 hx hZ hown (hw _ (List.mem_of_getElem? (i := 1) rfl)) (hw _ (List.mem_of_getElem? (i := 2) rfl)) (hw _ (List.mem_of_getElem? (i := 3) rfl)) (hw _ (List.mem_of_getElem? (i := 4) rfl)) (by decide) (rm1 l Z a0 hw [] b2 v1_10 v3 xs11 h9 n0 A10) e9 (by decide) (by decide) (by decide) (by decide) (by rw [hml]; rfl) (argsL := [(.ref b2), (.int v1_10)]) (rest := []) (lenOf own_pd0 rfl) rfl (W := 0) (Nat.le_of_eq rfl) (hb hby at_241) ?_
            intro T13 r13 L13 X13 hQ13
            obtain ⟨rfl, Nq13, e13⟩ := hQ13
            have N13 := Fr.app N9 Nq13
            have g0 : nar .byte v15 = v15 := by rw [hv15]; exact own_nar _
            have g1 : nar .byte v19 = v19 := by rw [hv19]; exact own_nar _
            have g2 : nar .byte v23 = v23 := by rw [hv23]; exact own_nar _
            have hd246 : (own_f1 xs11 v1_10) = v12_s0 := own_fin v3 v15 v19 v23 _ xs5 xs8 xs11 v12_s0 hn3 hxs5 hxs8 hxs11 g0 g1 g2 (by rw [hv12_s0]; by_cases k1 : (0 : Int32) < v3 <;> by_cases k2 : (v15 &&& (255 : Int32)) = v1_10 <;> by_cases k3 : (1 : Int32) < v3 <;> by_cases k4 : (v19 &&& (255 : Int32)) = v1_10 <;> by_cases k5 : (2 : Int32) < v3 <;> by_cases k6 : (v23 &&& (255 : Int32)) = v1_10 <;> simp [k1, k2, k3, k4, k5, k6])
            refine own_run (g' := (mkF m 254 #[.val (.int p0), .val (.int p1), .val (.int p2), .val (.int p3), .val (.int p4), .val (.int v3), .val (.int v11), .val (.int v15), .val (.int v19), .val (.int v23), .val (.int v1_10), .val (.ref b2), .val (.int v12_s0)] [(.int (1 : Int32))])) (fun _ kt => XS.iload X13.here hx rfl (hb hby at_244) rfl (XS.icmpNo X13.here hx rfl (hb hby at_246) rfl ((teq hd246).2) (XS.iconst X13.here hx rfl (hb hby at_249) (XS.goto X13.here hx rfl (pc0 := 250) (pc' := 254) rfl (hb hby at_250) (by decide) (by decide) (kt))))) ?_
            exact own_retN (t := .boolean) X13 hx Bd.notSynchronized Bd.returns (by simp) (hb hby at_254) (by decide) (by decide) ⟨rfl, N13⟩
          by_cases hc182 : (0 : Int32) < v3
          · refine own_run (g' := (mkF m 193 #[.val (.int p0), .val (.int p1), .val (.int p2), .val (.int p3), .val (.int p4), .val (.int v3), .val (.int v11), .val (.int v15), .val (.int v19), .val (.int v23), .val (.int v1_10), .val (.ref b2), .unset] [(.int v1_10), (.int (v15 &&& (255 : Int32)))])) (fun _ kt => XS.ifNo X9.here hx rfl (hb hby at_182) rfl ((if0 _ _).trans (tlt hc182).2.2.2) (XS.iload X9.here hx rfl (hb hby at_185) rfl (XS.sipush X9.here hx rfl (hb hby at_187) (XS.iand X9.here hx rfl (hb hby at_190) rfl (XS.iload X9.here hx rfl (hb hby at_191) rfl (kt)))))) ?_
            by_cases hc193 : (v15 &&& (255 : Int32)) = v1_10
            · refine own_run (g' := (mkF m 235 #[.val (.int p0), .val (.int p1), .val (.int p2), .val (.int p3), .val (.int p4), .val (.int v3), .val (.int v11), .val (.int v15), .val (.int v19), .val (.int v23), .val (.int v1_10), .val (.ref b2), .unset] [(.int (1 : Int32))])) (fun _ kt => XS.icmpYes X9.here hx rfl (pc0 := 193) (pc' := 230) rfl (hb hby at_193) rfl ((teq hc193).1) (by decide) (by decide) (XS.iconst X9.here hx rfl (hb hby at_230) (XS.goto X9.here hx rfl (pc0 := 231) (pc' := 235) rfl (hb hby at_231) (by decide) (by decide) (kt)))) ?_
              exact J12 (1 : Int32) (by rw [if_pos hc182, if_pos hc193])
            · refine own_run (g' := (mkF m 199 #[.val (.int p0), .val (.int p1), .val (.int p2), .val (.int p3), .val (.int p4), .val (.int v3), .val (.int v11), .val (.int v15), .val (.int v19), .val (.int v23), .val (.int v1_10), .val (.ref b2), .unset] [(.int (1 : Int32)), (.int v3)])) (fun _ kt => XS.icmpNo X9.here hx rfl (hb hby at_193) rfl ((feq hc193).1) (XS.iload X9.here hx rfl (hb hby at_196) rfl (XS.iconst X9.here hx rfl (hb hby at_198) (kt)))) ?_
              by_cases hc199 : (1 : Int32) < v3
              · refine own_run (g' := (mkF m 210 #[.val (.int p0), .val (.int p1), .val (.int p2), .val (.int p3), .val (.int p4), .val (.int v3), .val (.int v11), .val (.int v15), .val (.int v19), .val (.int v23), .val (.int v1_10), .val (.ref b2), .unset] [(.int v1_10), (.int (v19 &&& (255 : Int32)))])) (fun _ kt => XS.icmpNo X9.here hx rfl (hb hby at_199) rfl ((tlt hc199).2.2.2) (XS.iload X9.here hx rfl (hb hby at_202) rfl (XS.sipush X9.here hx rfl (hb hby at_204) (XS.iand X9.here hx rfl (hb hby at_207) rfl (XS.iload X9.here hx rfl (hb hby at_208) rfl (kt)))))) ?_
                by_cases hc210 : (v19 &&& (255 : Int32)) = v1_10
                · refine own_run (g' := (mkF m 235 #[.val (.int p0), .val (.int p1), .val (.int p2), .val (.int p3), .val (.int p4), .val (.int v3), .val (.int v11), .val (.int v15), .val (.int v19), .val (.int v23), .val (.int v1_10), .val (.ref b2), .unset] [(.int (1 : Int32))])) (fun _ kt => XS.icmpYes X9.here hx rfl (pc0 := 210) (pc' := 230) rfl (hb hby at_210) rfl ((teq hc210).1) (by decide) (by decide) (XS.iconst X9.here hx rfl (hb hby at_230) (XS.goto X9.here hx rfl (pc0 := 231) (pc' := 235) rfl (hb hby at_231) (by decide) (by decide) (kt)))) ?_
                  exact J12 (1 : Int32) (by rw [if_pos hc182, if_neg hc193, if_pos hc199, if_pos hc210])
                · refine own_run (g' := (mkF m 216 #[.val (.int p0), .val (.int p1), .val (.int p2), .val (.int p3), .val (.int p4), .val (.int v3), .val (.int v11), .val (.int v15), .val (.int v19), .val (.int v23), .val (.int v1_10), .val (.ref b2), .unset] [(.int (2 : Int32)), (.int v3)])) (fun _ kt => XS.icmpNo X9.here hx rfl (hb hby at_210) rfl ((feq hc210).1) (XS.iload X9.here hx rfl (hb hby at_213) rfl (XS.iconst X9.here hx rfl (hb hby at_215) (kt)))) ?_
                  by_cases hc216 : (2 : Int32) < v3
                  · refine own_run (g' := (mkF m 227 #[.val (.int p0), .val (.int p1), .val (.int p2), .val (.int p3), .val (.int p4), .val (.int v3), .val (.int v11), .val (.int v15), .val (.int v19), .val (.int v23), .val (.int v1_10), .val (.ref b2), .unset] [(.int v1_10), (.int (v23 &&& (255 : Int32)))])) (fun _ kt => XS.icmpNo X9.here hx rfl (hb hby at_216) rfl ((tlt hc216).2.2.2) (XS.iload X9.here hx rfl (hb hby at_219) rfl (XS.sipush X9.here hx rfl (hb hby at_221) (XS.iand X9.here hx rfl (hb hby at_224) rfl (XS.iload X9.here hx rfl (hb hby at_225) rfl (kt)))))) ?_
                    by_cases hc227 : (v23 &&& (255 : Int32)) = v1_10
                    · refine own_run (g' := (mkF m 235 #[.val (.int p0), .val (.int p1), .val (.int p2), .val (.int p3), .val (.int p4), .val (.int v3), .val (.int v11), .val (.int v15), .val (.int v19), .val (.int v23), .val (.int v1_10), .val (.ref b2), .unset] [(.int (1 : Int32))])) (fun _ kt => XS.icmpNo X9.here hx rfl (hb hby at_227) rfl ((teq hc227).2) (XS.iconst X9.here hx rfl (hb hby at_230) (XS.goto X9.here hx rfl (pc0 := 231) (pc' := 235) rfl (hb hby at_231) (by decide) (by decide) (kt)))) ?_
                      exact J12 (1 : Int32) (by rw [if_pos hc182, if_neg hc193, if_pos hc199, if_neg hc210, if_pos hc216, if_pos hc227])
                    · refine own_run (g' := (mkF m 235 #[.val (.int p0), .val (.int p1), .val (.int p2), .val (.int p3), .val (.int p4), .val (.int v3), .val (.int v11), .val (.int v15), .val (.int v19), .val (.int v23), .val (.int v1_10), .val (.ref b2), .unset] [(.int (0 : Int32))])) (fun _ kt => XS.icmpYes X9.here hx rfl (pc0 := 227) (pc' := 234) rfl (hb hby at_227) rfl ((feq hc227).2) (by decide) (by decide) (XS.iconst X9.here hx rfl (hb hby at_234) (kt))) ?_
                      exact J12 (0 : Int32) (by rw [if_pos hc182, if_neg hc193, if_pos hc199, if_neg hc210, if_pos hc216, if_neg hc227])
                  · refine own_run (g' := (mkF m 235 #[.val (.int p0), .val (.int p1), .val (.int p2), .val (.int p3), .val (.int p4), .val (.int v3), .val (.int v11), .val (.int v15), .val (.int v19), .val (.int v23), .val (.int v1_10), .val (.ref b2), .unset] [(.int (0 : Int32))])) (fun _ kt => XS.icmpYes X9.here hx rfl (pc0 := 216) (pc' := 234) rfl (hb hby at_216) rfl ((flt hc216).2.2.2) (by decide) (by decide) (XS.iconst X9.here hx rfl (hb hby at_234) (kt))) ?_
                    exact J12 (0 : Int32) (by rw [if_pos hc182, if_neg hc193, if_pos hc199, if_neg hc210, if_neg hc216])
              · refine own_run (g' := (mkF m 216 #[.val (.int p0), .val (.int p1), .val (.int p2), .val (.int p3), .val (.int p4), .val (.int v3), .val (.int v11), .val (.int v15), .val (.int v19), .val (.int v23), .val (.int v1_10), .val (.ref b2), .unset] [(.int (2 : Int32)), (.int v3)])) (fun _ kt => XS.icmpYes X9.here hx rfl (pc0 := 199) (pc' := 213) rfl (hb hby at_199) rfl ((flt hc199).2.2.2) (by decide) (by decide) (XS.iload X9.here hx rfl (hb hby at_213) rfl (XS.iconst X9.here hx rfl (hb hby at_215) (kt)))) ?_
                by_cases hc216 : (2 : Int32) < v3
                · refine own_run (g' := (mkF m 227 #[.val (.int p0), .val (.int p1), .val (.int p2), .val (.int p3), .val (.int p4), .val (.int v3), .val (.int v11), .val (.int v15), .val (.int v19), .val (.int v23), .val (.int v1_10), .val (.ref b2), .unset] [(.int v1_10), (.int (v23 &&& (255 : Int32)))])) (fun _ kt => XS.icmpNo X9.here hx rfl (hb hby at_216) rfl ((tlt hc216).2.2.2) (XS.iload X9.here hx rfl (hb hby at_219) rfl (XS.sipush X9.here hx rfl (hb hby at_221) (XS.iand X9.here hx rfl (hb hby at_224) rfl (XS.iload X9.here hx rfl (hb hby at_225) rfl (kt)))))) ?_
                  by_cases hc227 : (v23 &&& (255 : Int32)) = v1_10
                  · refine own_run (g' := (mkF m 235 #[.val (.int p0), .val (.int p1), .val (.int p2), .val (.int p3), .val (.int p4), .val (.int v3), .val (.int v11), .val (.int v15), .val (.int v19), .val (.int v23), .val (.int v1_10), .val (.ref b2), .unset] [(.int (1 : Int32))])) (fun _ kt => XS.icmpNo X9.here hx rfl (hb hby at_227) rfl ((teq hc227).2) (XS.iconst X9.here hx rfl (hb hby at_230) (XS.goto X9.here hx rfl (pc0 := 231) (pc' := 235) rfl (hb hby at_231) (by decide) (by decide) (kt)))) ?_
                    exact J12 (1 : Int32) (by rw [if_pos hc182, if_neg hc193, if_neg hc199, if_pos hc216, if_pos hc227])
                  · refine own_run (g' := (mkF m 235 #[.val (.int p0), .val (.int p1), .val (.int p2), .val (.int p3), .val (.int p4), .val (.int v3), .val (.int v11), .val (.int v15), .val (.int v19), .val (.int v23), .val (.int v1_10), .val (.ref b2), .unset] [(.int (0 : Int32))])) (fun _ kt => XS.icmpYes X9.here hx rfl (pc0 := 227) (pc' := 234) rfl (hb hby at_227) rfl ((feq hc227).2) (by decide) (by decide) (XS.iconst X9.here hx rfl (hb hby at_234) (kt))) ?_
                    exact J12 (0 : Int32) (by rw [if_pos hc182, if_neg hc193, if_neg hc199, if_pos hc216, if_neg hc227])
                · refine own_run (g' := (mkF m 235 #[.val (.int p0), .val (.int p1), .val (.int p2), .val (.int p3), .val (.int p4), .val (.int v3), .val (.int v11), .val (.int v15), .val (.int v19), .val (.int v23), .val (.int v1_10), .val (.ref b2), .unset] [(.int (0 : Int32))])) (fun _ kt => XS.icmpYes X9.here hx rfl (pc0 := 216) (pc' := 234) rfl (hb hby at_216) rfl ((flt hc216).2.2.2) (by decide) (by decide) (XS.iconst X9.here hx rfl (hb hby at_234) (kt))) ?_
                  exact J12 (0 : Int32) (by rw [if_pos hc182, if_neg hc193, if_neg hc199, if_neg hc216])
          · refine own_run (g' := (mkF m 199 #[.val (.int p0), .val (.int p1), .val (.int p2), .val (.int p3), .val (.int p4), .val (.int v3), .val (.int v11), .val (.int v15), .val (.int v19), .val (.int v23), .val (.int v1_10), .val (.ref b2), .unset] [(.int (1 : Int32)), (.int v3)])) (fun _ kt => XS.ifYes X9.here hx rfl (pc0 := 182) (pc' := 196) rfl (hb hby at_182) rfl ((if0 _ _).trans (flt hc182).2.2.2) (by decide) (by decide) (XS.iload X9.here hx rfl (hb hby at_196) rfl (XS.iconst X9.here hx rfl (hb hby at_198) (kt)))) ?_
            by_cases hc199 : (1 : Int32) < v3
            · refine own_run (g' := (mkF m 210 #[.val (.int p0), .val (.int p1), .val (.int p2), .val (.int p3), .val (.int p4), .val (.int v3), .val (.int v11), .val (.int v15), .val (.int v19), .val (.int v23), .val (.int v1_10), .val (.ref b2), .unset] [(.int v1_10), (.int (v19 &&& (255 : Int32)))])) (fun _ kt => XS.icmpNo X9.here hx rfl (hb hby at_199) rfl ((tlt hc199).2.2.2) (XS.iload X9.here hx rfl (hb hby at_202) rfl (XS.sipush X9.here hx rfl (hb hby at_204) (XS.iand X9.here hx rfl (hb hby at_207) rfl (XS.iload X9.here hx rfl (hb hby at_208) rfl (kt)))))) ?_
              by_cases hc210 : (v19 &&& (255 : Int32)) = v1_10
              · refine own_run (g' := (mkF m 235 #[.val (.int p0), .val (.int p1), .val (.int p2), .val (.int p3), .val (.int p4), .val (.int v3), .val (.int v11), .val (.int v15), .val (.int v19), .val (.int v23), .val (.int v1_10), .val (.ref b2), .unset] [(.int (1 : Int32))])) (fun _ kt => XS.icmpYes X9.here hx rfl (pc0 := 210) (pc' := 230) rfl (hb hby at_210) rfl ((teq hc210).1) (by decide) (by decide) (XS.iconst X9.here hx rfl (hb hby at_230) (XS.goto X9.here hx rfl (pc0 := 231) (pc' := 235) rfl (hb hby at_231) (by decide) (by decide) (kt)))) ?_
                exact J12 (1 : Int32) (by rw [if_neg hc182, if_pos hc199, if_pos hc210])
              · refine own_run (g' := (mkF m 216 #[.val (.int p0), .val (.int p1), .val (.int p2), .val (.int p3), .val (.int p4), .val (.int v3), .val (.int v11), .val (.int v15), .val (.int v19), .val (.int v23), .val (.int v1_10), .val (.ref b2), .unset] [(.int (2 : Int32)), (.int v3)])) (fun _ kt => XS.icmpNo X9.here hx rfl (hb hby at_210) rfl ((feq hc210).1) (XS.iload X9.here hx rfl (hb hby at_213) rfl (XS.iconst X9.here hx rfl (hb hby at_215) (kt)))) ?_
                by_cases hc216 : (2 : Int32) < v3
                · refine own_run (g' := (mkF m 227 #[.val (.int p0), .val (.int p1), .val (.int p2), .val (.int p3), .val (.int p4), .val (.int v3), .val (.int v11), .val (.int v15), .val (.int v19), .val (.int v23), .val (.int v1_10), .val (.ref b2), .unset] [(.int v1_10), (.int (v23 &&& (255 : Int32)))])) (fun _ kt => XS.icmpNo X9.here hx rfl (hb hby at_216) rfl ((tlt hc216).2.2.2) (XS.iload X9.here hx rfl (hb hby at_219) rfl (XS.sipush X9.here hx rfl (hb hby at_221) (XS.iand X9.here hx rfl (hb hby at_224) rfl (XS.iload X9.here hx rfl (hb hby at_225) rfl (kt)))))) ?_
                  by_cases hc227 : (v23 &&& (255 : Int32)) = v1_10
                  · refine own_run (g' := (mkF m 235 #[.val (.int p0), .val (.int p1), .val (.int p2), .val (.int p3), .val (.int p4), .val (.int v3), .val (.int v11), .val (.int v15), .val (.int v19), .val (.int v23), .val (.int v1_10), .val (.ref b2), .unset] [(.int (1 : Int32))])) (fun _ kt => XS.icmpNo X9.here hx rfl (hb hby at_227) rfl ((teq hc227).2) (XS.iconst X9.here hx rfl (hb hby at_230) (XS.goto X9.here hx rfl (pc0 := 231) (pc' := 235) rfl (hb hby at_231) (by decide) (by decide) (kt)))) ?_
                    exact J12 (1 : Int32) (by rw [if_neg hc182, if_pos hc199, if_neg hc210, if_pos hc216, if_pos hc227])
                  · refine own_run (g' := (mkF m 235 #[.val (.int p0), .val (.int p1), .val (.int p2), .val (.int p3), .val (.int p4), .val (.int v3), .val (.int v11), .val (.int v15), .val (.int v19), .val (.int v23), .val (.int v1_10), .val (.ref b2), .unset] [(.int (0 : Int32))])) (fun _ kt => XS.icmpYes X9.here hx rfl (pc0 := 227) (pc' := 234) rfl (hb hby at_227) rfl ((feq hc227).2) (by decide) (by decide) (XS.iconst X9.here hx rfl (hb hby at_234) (kt))) ?_
                    exact J12 (0 : Int32) (by rw [if_neg hc182, if_pos hc199, if_neg hc210, if_pos hc216, if_neg hc227])
                · refine own_run (g' := (mkF m 235 #[.val (.int p0), .val (.int p1), .val (.int p2), .val (.int p3), .val (.int p4), .val (.int v3), .val (.int v11), .val (.int v15), .val (.int v19), .val (.int v23), .val (.int v1_10), .val (.ref b2), .unset] [(.int (0 : Int32))])) (fun _ kt => XS.icmpYes X9.here hx rfl (pc0 := 216) (pc' := 234) rfl (hb hby at_216) rfl ((flt hc216).2.2.2) (by decide) (by decide) (XS.iconst X9.here hx rfl (hb hby at_234) (kt))) ?_
                  exact J12 (0 : Int32) (by rw [if_neg hc182, if_pos hc199, if_neg hc210, if_neg hc216])
            · refine own_run (g' := (mkF m 216 #[.val (.int p0), .val (.int p1), .val (.int p2), .val (.int p3), .val (.int p4), .val (.int v3), .val (.int v11), .val (.int v15), .val (.int v19), .val (.int v23), .val (.int v1_10), .val (.ref b2), .unset] [(.int (2 : Int32)), (.int v3)])) (fun _ kt => XS.icmpYes X9.here hx rfl (pc0 := 199) (pc' := 213) rfl (hb hby at_199) rfl ((flt hc199).2.2.2) (by decide) (by decide) (XS.iload X9.here hx rfl (hb hby at_213) rfl (XS.iconst X9.here hx rfl (hb hby at_215) (kt)))) ?_
              by_cases hc216 : (2 : Int32) < v3
              · refine own_run (g' := (mkF m 227 #[.val (.int p0), .val (.int p1), .val (.int p2), .val (.int p3), .val (.int p4), .val (.int v3), .val (.int v11), .val (.int v15), .val (.int v19), .val (.int v23), .val (.int v1_10), .val (.ref b2), .unset] [(.int v1_10), (.int (v23 &&& (255 : Int32)))])) (fun _ kt => XS.icmpNo X9.here hx rfl (hb hby at_216) rfl ((tlt hc216).2.2.2) (XS.iload X9.here hx rfl (hb hby at_219) rfl (XS.sipush X9.here hx rfl (hb hby at_221) (XS.iand X9.here hx rfl (hb hby at_224) rfl (XS.iload X9.here hx rfl (hb hby at_225) rfl (kt)))))) ?_
                by_cases hc227 : (v23 &&& (255 : Int32)) = v1_10
                · refine own_run (g' := (mkF m 235 #[.val (.int p0), .val (.int p1), .val (.int p2), .val (.int p3), .val (.int p4), .val (.int v3), .val (.int v11), .val (.int v15), .val (.int v19), .val (.int v23), .val (.int v1_10), .val (.ref b2), .unset] [(.int (1 : Int32))])) (fun _ kt => XS.icmpNo X9.here hx rfl (hb hby at_227) rfl ((teq hc227).2) (XS.iconst X9.here hx rfl (hb hby at_230) (XS.goto X9.here hx rfl (pc0 := 231) (pc' := 235) rfl (hb hby at_231) (by decide) (by decide) (kt)))) ?_
                  exact J12 (1 : Int32) (by rw [if_neg hc182, if_neg hc199, if_pos hc216, if_pos hc227])
                · refine own_run (g' := (mkF m 235 #[.val (.int p0), .val (.int p1), .val (.int p2), .val (.int p3), .val (.int p4), .val (.int v3), .val (.int v11), .val (.int v15), .val (.int v19), .val (.int v23), .val (.int v1_10), .val (.ref b2), .unset] [(.int (0 : Int32))])) (fun _ kt => XS.icmpYes X9.here hx rfl (pc0 := 227) (pc' := 234) rfl (hb hby at_227) rfl ((feq hc227).2) (by decide) (by decide) (XS.iconst X9.here hx rfl (hb hby at_234) (kt))) ?_
                  exact J12 (0 : Int32) (by rw [if_neg hc182, if_neg hc199, if_pos hc216, if_neg hc227])
              · refine own_run (g' := (mkF m 235 #[.val (.int p0), .val (.int p1), .val (.int p2), .val (.int p3), .val (.int p4), .val (.int v3), .val (.int v11), .val (.int v15), .val (.int v19), .val (.int v23), .val (.int v1_10), .val (.ref b2), .unset] [(.int (0 : Int32))])) (fun _ kt => XS.icmpYes X9.here hx rfl (pc0 := 216) (pc' := 234) rfl (hb hby at_216) rfl ((flt hc216).2.2.2) (by decide) (by decide) (XS.iconst X9.here hx rfl (hb hby at_234) (kt))) ?_
                exact J12 (0 : Int32) (by rw [if_neg hc182, if_neg hc199, if_neg hc216])
        by_cases hc171 : (2 : Int32) < v3
        · refine own_run (g' := (mkF m 179 #[.val (.int p0), .val (.int p1), .val (.int p2), .val (.int p3), .val (.int p4), .val (.int v3), .val (.int v11), .val (.int v15), .val (.int v19), .val (.int v23), .val (.int v1_10), .val (.ref b2), .unset] [(.int v23), (.int (2 : Int32)), (.ref b2)])) (fun _ kt => XS.icmpNo X6.here hx rfl (hb hby at_171) rfl ((tlt hc171).2.2.2) (XS.aload X6.here hx rfl (hb hby at_174) rfl rfl (XS.iconst X6.here hx rfl (hb hby at_176) (XS.iload X6.here hx rfl (hb hby at_177) rfl (kt))))) ?_
          refine own_stB X6 hx hZ e6 A7 (j := (2 : Int32)) ⟨by decide, hc171⟩ N6 g_b2 (hb hby at_179) (ys := (xs8.set (2 : Int32).toNatClampNeg (nar .byte v23))) rfl ?_
          intro T14 h14 L14 X14 N14 e14 W14 A14
          have ZW14 : n0 ≤ h14.size := Nat.le_trans Zh6 (Keep.of_wr W14).1
          exact J9 T14 _ h14 (xs8.set (2 : Int32).toNatClampNeg (nar .byte v23)) X14 N14 e14 ZW14 A14 (by rw [if_pos hc171])
        · refine own_run (g' := (mkF m 180 #[.val (.int p0), .val (.int p1), .val (.int p2), .val (.int p3), .val (.int p4), .val (.int v3), .val (.int v11), .val (.int v15), .val (.int v19), .val (.int v23), .val (.int v1_10), .val (.ref b2), .unset] [])) (fun _ kt => XS.icmpYes X6.here hx rfl (pc0 := 171) (pc' := 180) rfl (hb hby at_171) rfl ((flt hc171).2.2.2) (by decide) (by decide) (kt)) ?_
          exact J9 T6 _ h6 xs8 X6 N6 e6 Zh6 A7 (by rw [if_neg hc171])
      by_cases hc159 : (1 : Int32) < v3
      · refine own_run (g' := (mkF m 167 #[.val (.int p0), .val (.int p1), .val (.int p2), .val (.int p3), .val (.int p4), .val (.int v3), .val (.int v11), .val (.int v15), .val (.int v19), .val (.int v23), .val (.int v1_10), .val (.ref b2), .unset] [(.int v19), (.int (1 : Int32)), (.ref b2)])) (fun _ kt => XS.icmpNo X3.here hx rfl (hb hby at_159) rfl ((tlt hc159).2.2.2) (XS.aload X3.here hx rfl (hb hby at_162) rfl rfl (XS.iconst X3.here hx rfl (hb hby at_164) (XS.iload X3.here hx rfl (hb hby at_165) rfl (kt))))) ?_
        refine own_stB X3 hx hZ e3 A4 (j := (1 : Int32)) ⟨by decide, hc159⟩ N3 g_b2 (hb hby at_167) (ys := (xs5.set (1 : Int32).toNatClampNeg (nar .byte v19))) rfl ?_
        intro T15 h15 L15 X15 N15 e15 W15 A15
        have ZW15 : n0 ≤ h15.size := Nat.le_trans Zh3 (Keep.of_wr W15).1
        exact J6 T15 _ h15 (xs5.set (1 : Int32).toNatClampNeg (nar .byte v19)) X15 N15 e15 ZW15 A15 (by rw [if_pos hc159])
      · refine own_run (g' := (mkF m 168 #[.val (.int p0), .val (.int p1), .val (.int p2), .val (.int p3), .val (.int p4), .val (.int v3), .val (.int v11), .val (.int v15), .val (.int v19), .val (.int v23), .val (.int v1_10), .val (.ref b2), .unset] [])) (fun _ kt => XS.icmpYes X3.here hx rfl (pc0 := 159) (pc' := 168) rfl (hb hby at_159) rfl ((flt hc159).2.2.2) (by decide) (by decide) (kt)) ?_
        exact J6 T3 _ h3 xs5 X3 N3 e3 Zh3 A4 (by rw [if_neg hc159])
    by_cases hc147 : (0 : Int32) < v3
    · refine own_run (g' := (mkF m 155 #[.val (.int p0), .val (.int p1), .val (.int p2), .val (.int p3), .val (.int p4), .val (.int v3), .val (.int v11), .val (.int v15), .val (.int v19), .val (.int v23), .val (.int v1_10), .val (.ref b2), .unset] [(.int v15), (.int (0 : Int32)), (.ref b2)])) (fun _ kt => XS.ifNo X2.here hx rfl (hb hby at_147) rfl ((if0 _ _).trans (tlt hc147).2.2.2) (XS.aload X2.here hx rfl (hb hby at_150) rfl rfl (XS.iconst X2.here hx rfl (hb hby at_152) (XS.iload X2.here hx rfl (hb hby at_153) rfl (kt))))) ?_
      refine own_stB X2 hx hZ e2 A2 (j := (0 : Int32)) ⟨by decide, hc147⟩ N0 g_b2 (hb hby at_155) (ys := ((List.replicate v3.toNatClampNeg 0).set (0 : Int32).toNatClampNeg (nar .byte v15))) rfl ?_
      intro T16 h16 L16 X16 N16 e16 W16 A16
      have ZW16 : n0 ≤ h16.size := Nat.le_trans Z2 (Keep.of_wr W16).1
      exact J3 T16 _ h16 ((List.replicate v3.toNatClampNeg 0).set (0 : Int32).toNatClampNeg (nar .byte v15)) X16 N16 e16 ZW16 A16 (by rw [if_pos hc147])
    · refine own_run (g' := (mkF m 156 #[.val (.int p0), .val (.int p1), .val (.int p2), .val (.int p3), .val (.int p4), .val (.int v3), .val (.int v11), .val (.int v15), .val (.int v19), .val (.int v23), .val (.int v1_10), .val (.ref b2), .unset] [])) (fun _ kt => XS.ifYes X2.here hx rfl (pc0 := 147) (pc' := 156) rfl (hb hby at_147) rfl ((if0 _ _).trans (flt hc147).2.2.2) (by decide) (by decide) (kt)) ?_
      exact J3 T2 _ h2 (List.replicate v3.toNatClampNeg 0) X2 N0 e2 Z2 A2 (by rw [if_neg hc147])
  by_cases hc32 : v11 = (1 : Int32)
  · refine own_run (g' := (mkF m 43 #[.val (.int p0), .val (.int p1), .val (.int p2), .val (.int p3), .val (.int p4), .val (.int v3), .val (.int v11), .val (.int v15), .val (.int v19), .val (.int v23), .val (.int (v15 &&& (255 : Int32))), .unset, .unset] [])) (fun _ kt => XS.icmpNo X0.here hx rfl (hb hby at_32) rfl ((teq hc32).2) (XS.iload X0.here hx rfl (hb hby at_35) rfl (XS.sipush X0.here hx rfl (hb hby at_37) (XS.iand X0.here hx rfl (hb hby at_40) rfl (XS.istore X0.here hx rfl (hb hby at_41) rfl (l' := #[.val (.int p0), .val (.int p1), .val (.int p2), .val (.int p3), .val (.int p4), .val (.int v3), .val (.int v11), .val (.int v15), .val (.int v19), .val (.int v23), .val (.int (v15 &&& (255 : Int32))), .unset, .unset]) rfl (kt)))))) ?_
    obtain ⟨v41, hv41⟩ : ∃ z : Int32, z = (v15 &&& (255 : Int32)) := ⟨_, rfl⟩
    rw [← hv41]
    refine own_run (g' := (mkF m 139 #[.val (.int p0), .val (.int p1), .val (.int p2), .val (.int p3), .val (.int p4), .val (.int v3), .val (.int v11), .val (.int v15), .val (.int v19), .val (.int v23), .val (.int v41), .unset, .unset] [])) (fun _ kt => XS.goto X0.here hx rfl (pc0 := 43) (pc' := 139) rfl (hb hby at_43) (by decide) (by decide) (kt)) ?_
    exact J1 v41 (by subst hv41; rw [if_pos hc32])
  · refine own_run (g' := (mkF m 49 #[.val (.int p0), .val (.int p1), .val (.int p2), .val (.int p3), .val (.int p4), .val (.int v3), .val (.int v11), .val (.int v15), .val (.int v19), .val (.int v23), .val (.int p4), .unset, .unset] [(.int (2 : Int32)), (.int v11)])) (fun _ kt => XS.icmpYes X0.here hx rfl (pc0 := 32) (pc' := 46) rfl (hb hby at_32) rfl ((feq hc32).2) (by decide) (by decide) (XS.iload X0.here hx rfl (hb hby at_46) rfl (XS.iconst X0.here hx rfl (hb hby at_48) (kt)))) ?_
    by_cases hc49 : v11 = (2 : Int32)
    · refine own_run (g' := (mkF m 60 #[.val (.int p0), .val (.int p1), .val (.int p2), .val (.int p3), .val (.int p4), .val (.int v3), .val (.int v11), .val (.int v15), .val (.int v19), .val (.int v23), .val (.int (v19 &&& (255 : Int32))), .unset, .unset] [])) (fun _ kt => XS.icmpNo X0.here hx rfl (hb hby at_49) rfl ((teq hc49).2) (XS.iload X0.here hx rfl (hb hby at_52) rfl (XS.sipush X0.here hx rfl (hb hby at_54) (XS.iand X0.here hx rfl (hb hby at_57) rfl (XS.istore X0.here hx rfl (hb hby at_58) rfl (l' := #[.val (.int p0), .val (.int p1), .val (.int p2), .val (.int p3), .val (.int p4), .val (.int v3), .val (.int v11), .val (.int v15), .val (.int v19), .val (.int v23), .val (.int (v19 &&& (255 : Int32))), .unset, .unset]) rfl (kt)))))) ?_
      obtain ⟨v58, hv58⟩ : ∃ z : Int32, z = (v19 &&& (255 : Int32)) := ⟨_, rfl⟩
      rw [← hv58]
      refine own_run (g' := (mkF m 139 #[.val (.int p0), .val (.int p1), .val (.int p2), .val (.int p3), .val (.int p4), .val (.int v3), .val (.int v11), .val (.int v15), .val (.int v19), .val (.int v23), .val (.int v58), .unset, .unset] [])) (fun _ kt => XS.goto X0.here hx rfl (pc0 := 60) (pc' := 139) rfl (hb hby at_60) (by decide) (by decide) (kt)) ?_
      exact J1 v58 (by subst hv58; rw [if_neg hc32, if_pos hc49])
    · refine own_run (g' := (mkF m 66 #[.val (.int p0), .val (.int p1), .val (.int p2), .val (.int p3), .val (.int p4), .val (.int v3), .val (.int v11), .val (.int v15), .val (.int v19), .val (.int v23), .val (.int p4), .unset, .unset] [(.int (3 : Int32)), (.int v11)])) (fun _ kt => XS.icmpYes X0.here hx rfl (pc0 := 49) (pc' := 63) rfl (hb hby at_49) rfl ((feq hc49).2) (by decide) (by decide) (XS.iload X0.here hx rfl (hb hby at_63) rfl (XS.iconst X0.here hx rfl (hb hby at_65) (kt)))) ?_
      by_cases hc66 : v11 = (3 : Int32)
      · refine own_run (g' := (mkF m 77 #[.val (.int p0), .val (.int p1), .val (.int p2), .val (.int p3), .val (.int p4), .val (.int v3), .val (.int v11), .val (.int v15), .val (.int v19), .val (.int v23), .val (.int (v23 &&& (255 : Int32))), .unset, .unset] [])) (fun _ kt => XS.icmpNo X0.here hx rfl (hb hby at_66) rfl ((teq hc66).2) (XS.iload X0.here hx rfl (hb hby at_69) rfl (XS.sipush X0.here hx rfl (hb hby at_71) (XS.iand X0.here hx rfl (hb hby at_74) rfl (XS.istore X0.here hx rfl (hb hby at_75) rfl (l' := #[.val (.int p0), .val (.int p1), .val (.int p2), .val (.int p3), .val (.int p4), .val (.int v3), .val (.int v11), .val (.int v15), .val (.int v19), .val (.int v23), .val (.int (v23 &&& (255 : Int32))), .unset, .unset]) rfl (kt)))))) ?_
        obtain ⟨v75, hv75⟩ : ∃ z : Int32, z = (v23 &&& (255 : Int32)) := ⟨_, rfl⟩
        rw [← hv75]
        refine own_run (g' := (mkF m 139 #[.val (.int p0), .val (.int p1), .val (.int p2), .val (.int p3), .val (.int p4), .val (.int v3), .val (.int v11), .val (.int v15), .val (.int v19), .val (.int v23), .val (.int v75), .unset, .unset] [])) (fun _ kt => XS.goto X0.here hx rfl (pc0 := 77) (pc' := 139) rfl (hb hby at_77) (by decide) (by decide) (kt)) ?_
        exact J1 v75 (by subst hv75; rw [if_neg hc32, if_neg hc49, if_pos hc66])
      · refine own_run (g' := (mkF m 83 #[.val (.int p0), .val (.int p1), .val (.int p2), .val (.int p3), .val (.int p4), .val (.int v3), .val (.int v11), .val (.int v15), .val (.int v19), .val (.int v23), .val (.int p4), .unset, .unset] [(.int (4 : Int32)), (.int v11)])) (fun _ kt => XS.icmpYes X0.here hx rfl (pc0 := 66) (pc' := 80) rfl (hb hby at_66) rfl ((feq hc66).2) (by decide) (by decide) (XS.iload X0.here hx rfl (hb hby at_80) rfl (XS.iconst X0.here hx rfl (hb hby at_82) (kt)))) ?_
        by_cases hc83 : v11 = (4 : Int32)
        · refine own_run (g' := (mkF m 139 #[.val (.int p0), .val (.int p1), .val (.int p2), .val (.int p3), .val (.int p4), .val (.int v3), .val (.int v11), .val (.int v15), .val (.int v19), .val (.int v23), .val (.int v15), .unset, .unset] [])) (fun _ kt => XS.icmpNo X0.here hx rfl (hb hby at_83) rfl ((teq hc83).2) (XS.iload X0.here hx rfl (hb hby at_86) rfl (XS.istore X0.here hx rfl (hb hby at_88) rfl (l' := #[.val (.int p0), .val (.int p1), .val (.int p2), .val (.int p3), .val (.int p4), .val (.int v3), .val (.int v11), .val (.int v15), .val (.int v19), .val (.int v23), .val (.int v15), .unset, .unset]) rfl (XS.goto X0.here hx rfl (pc0 := 90) (pc' := 139) rfl (hb hby at_90) (by decide) (by decide) (kt))))) ?_
          exact J1 v15 (by rw [if_neg hc32, if_neg hc49, if_neg hc66, if_pos hc83])
        · refine own_run (g' := (mkF m 96 #[.val (.int p0), .val (.int p1), .val (.int p2), .val (.int p3), .val (.int p4), .val (.int v3), .val (.int v11), .val (.int v15), .val (.int v19), .val (.int v23), .val (.int p4), .unset, .unset] [(.int (5 : Int32)), (.int v11)])) (fun _ kt => XS.icmpYes X0.here hx rfl (pc0 := 83) (pc' := 93) rfl (hb hby at_83) rfl ((feq hc83).2) (by decide) (by decide) (XS.iload X0.here hx rfl (hb hby at_93) rfl (XS.iconst X0.here hx rfl (hb hby at_95) (kt)))) ?_
          by_cases hc96 : v11 = (5 : Int32)
          · refine own_run (g' := (mkF m 139 #[.val (.int p0), .val (.int p1), .val (.int p2), .val (.int p3), .val (.int p4), .val (.int v3), .val (.int v11), .val (.int v15), .val (.int v19), .val (.int v23), .val (.int v19), .unset, .unset] [])) (fun _ kt => XS.icmpNo X0.here hx rfl (hb hby at_96) rfl ((teq hc96).2) (XS.iload X0.here hx rfl (hb hby at_99) rfl (XS.istore X0.here hx rfl (hb hby at_101) rfl (l' := #[.val (.int p0), .val (.int p1), .val (.int p2), .val (.int p3), .val (.int p4), .val (.int v3), .val (.int v11), .val (.int v15), .val (.int v19), .val (.int v23), .val (.int v19), .unset, .unset]) rfl (XS.goto X0.here hx rfl (pc0 := 103) (pc' := 139) rfl (hb hby at_103) (by decide) (by decide) (kt))))) ?_
            exact J1 v19 (by rw [if_neg hc32, if_neg hc49, if_neg hc66, if_neg hc83, if_pos hc96])
          · refine own_run (g' := (mkF m 110 #[.val (.int p0), .val (.int p1), .val (.int p2), .val (.int p3), .val (.int p4), .val (.int v3), .val (.int v11), .val (.int v15), .val (.int v19), .val (.int v23), .val (.int p4), .unset, .unset] [(.int (6 : Int32)), (.int v11)])) (fun _ kt => XS.icmpYes X0.here hx rfl (pc0 := 96) (pc' := 106) rfl (hb hby at_96) rfl ((feq hc96).2) (by decide) (by decide) (XS.iload X0.here hx rfl (hb hby at_106) rfl (XS.bipush X0.here hx rfl (hb hby at_108) (kt)))) ?_
            by_cases hc110 : v11 = (6 : Int32)
            · refine own_run (g' := (mkF m 139 #[.val (.int p0), .val (.int p1), .val (.int p2), .val (.int p3), .val (.int p4), .val (.int v3), .val (.int v11), .val (.int v15), .val (.int v19), .val (.int v23), .val (.int v23), .unset, .unset] [])) (fun _ kt => XS.icmpNo X0.here hx rfl (hb hby at_110) rfl ((teq hc110).2) (XS.iload X0.here hx rfl (hb hby at_113) rfl (XS.istore X0.here hx rfl (hb hby at_115) rfl (l' := #[.val (.int p0), .val (.int p1), .val (.int p2), .val (.int p3), .val (.int p4), .val (.int v3), .val (.int v11), .val (.int v15), .val (.int v19), .val (.int v23), .val (.int v23), .unset, .unset]) rfl (XS.goto X0.here hx rfl (pc0 := 117) (pc' := 139) rfl (hb hby at_117) (by decide) (by decide) (kt))))) ?_
              exact J1 v23 (by rw [if_neg hc32, if_neg hc49, if_neg hc66, if_neg hc83, if_neg hc96, if_pos hc110])
            · refine own_run (g' := (mkF m 124 #[.val (.int p0), .val (.int p1), .val (.int p2), .val (.int p3), .val (.int p4), .val (.int v3), .val (.int v11), .val (.int v15), .val (.int v19), .val (.int v23), .val (.int p4), .unset, .unset] [(.int (7 : Int32)), (.int v11)])) (fun _ kt => XS.icmpYes X0.here hx rfl (pc0 := 110) (pc' := 120) rfl (hb hby at_110) rfl ((feq hc110).2) (by decide) (by decide) (XS.iload X0.here hx rfl (hb hby at_120) rfl (XS.bipush X0.here hx rfl (hb hby at_122) (kt)))) ?_
              by_cases hc124 : v11 = (7 : Int32)
              · refine own_run (g' := (mkF m 139 #[.val (.int p0), .val (.int p1), .val (.int p2), .val (.int p3), .val (.int p4), .val (.int v3), .val (.int v11), .val (.int v15), .val (.int v19), .val (.int v23), .val (.int ((v15 &&& (255 : Int32)) + (256 : Int32))), .unset, .unset] [])) (fun _ kt => XS.icmpNo X0.here hx rfl (hb hby at_124) rfl ((teq hc124).2) (XS.iload X0.here hx rfl (hb hby at_127) rfl (XS.sipush X0.here hx rfl (hb hby at_129) (XS.iand X0.here hx rfl (hb hby at_132) rfl (XS.sipush X0.here hx rfl (hb hby at_133) (XS.iadd X0.here hx rfl (hb hby at_136) rfl (XS.istore X0.here hx rfl (hb hby at_137) rfl (l' := #[.val (.int p0), .val (.int p1), .val (.int p2), .val (.int p3), .val (.int p4), .val (.int v3), .val (.int v11), .val (.int v15), .val (.int v19), .val (.int v23), .val (.int ((v15 &&& (255 : Int32)) + (256 : Int32))), .unset, .unset]) rfl (kt)))))))) ?_
                obtain ⟨v137, hv137⟩ : ∃ z : Int32, z = ((v15 &&& (255 : Int32)) + (256 : Int32)) := ⟨_, rfl⟩
                rw [← hv137]
                exact J1 v137 (by subst hv137; rw [if_neg hc32, if_neg hc49, if_neg hc66, if_neg hc83, if_neg hc96, if_neg hc110, if_pos hc124])
              · refine own_run (g' := (mkF m 139 #[.val (.int p0), .val (.int p1), .val (.int p2), .val (.int p3), .val (.int p4), .val (.int v3), .val (.int v11), .val (.int v15), .val (.int v19), .val (.int v23), .val (.int p4), .unset, .unset] [])) (fun _ kt => XS.icmpYes X0.here hx rfl (pc0 := 124) (pc' := 139) rfl (hb hby at_124) rfl ((feq hc124).2) (by decide) (by decide) (kt)) ?_
                exact J1 p4 (by rw [if_neg hc32, if_neg hc49, if_neg hc66, if_neg hc83, if_neg hc96, if_neg hc110, if_neg hc124])
set_option maxRecDepth 65536 in
set_option maxHeartbeats 40000000 in
theorem comes_1 {Post : Tables → Env → Array Value → State → Outcome → State → Prop} (hpost : ∀ tb e args s v u, (limb_1_1.after args s (.returned v) u = true ∧ limb_1_2.after args s (.returned v) u = true ∧ True) → FrameEnd s (.returned v) u (Jvm.fieldLocs frame_1_writes args s ++ Jvm.arrayLocs frame_1_arrays args s ++ Jvm.staticLocs frame_1_statics s) 16 128 → Post tb e args s (.returned v) u) :
    ArmFor flags0 classFile x code maxLocals ret World_1 tables_1 room_1 Calls_1 rest_1 Pre_1 Post := by
  intro l hfl _ _ p e ha hc hk s m args below hf hA hF happ hP
  obtain ⟨hcalls, hrest, hpre⟩ := hP
  obtain ⟨-, -, -, hnamed, -, -, -, hat⟩ := (Spec.applies_iff hf).mp happ
  obtain ⟨hg, hn⟩ := and_e (Cond.before_iff.mp (show (Jvm.Cond.and given_1 narrow_1).before args s = true from hpre))
  obtain ⟨hcnt, g0⟩ := and_e hg
  obtain ⟨k0, g1⟩ := and_e g0
  obtain ⟨k1, g2⟩ := and_e g1
  obtain ⟨k2, g3⟩ := and_e g2
  obtain ⟨k3, g4⟩ := and_e g3
  obtain ⟨w0, w1, w2, w3, w4, rfl⟩ : ∃ w0 w1 w2 w3 w4 : Value, args = #[w0, w1, w2, w3, w4] := by
    have hs : args.size = 5 := by simpa [Cond.value, given_1] using hcnt
    obtain ⟨L⟩ := args
    match L, hs with
    | [w0, w1, w2, w3, w4], _ => exact ⟨w0, w1, w2, w3, w4, rfl⟩
  have hw := fun d (hd : d ∈ tables_1) => atoms_spec (ws := Jvm.Cond.code x code maxLocals ret :: tables_1) hat d (List.mem_cons_of_mem _ hd)
  obtain ⟨i0, ei0⟩ := is_v k0
  obtain rfl : w0 = (.int i0) := Option.some.inj ei0
  obtain ⟨i1, ei1⟩ := is_v k1
  obtain rfl : w1 = (.int i1) := Option.some.inj ei1
  obtain ⟨i2, ei2⟩ := is_v k2
  obtain rfl : w2 = (.int i2) := Option.some.inj ei2
  obtain ⟨i3, ei3⟩ := is_v k3
  obtain rfl : w3 = (.int i3) := Option.some.inj ei3
  obtain ⟨i4, ei4⟩ := is_v g4
  obtain rfl : w4 = (.int i4) := Option.some.inj ei4
  obtain ⟨n, o, h1, h2, h3, _, L, rfl, ⟨rfl, N⟩, hq⟩ := rm0 l s _ hw tables_1 i0 i1 i2 i3 i4 s.heap s.heap.size (Nat.le_refl _) p e ha hc hk s m _ below hf ((Spec.applies_iff_loose hf).mp happ).1 ⟨rfl, State.Warmed39.refl s, rfl⟩ trivial
  refine ⟨n, _, h1, h2, h3, hpost _ _ _ _ _ _ ⟨Cond.after_iff.mpr rfl, Cond.after_iff.mpr (eq_i res_at (Term.int_eval (1)) rfl), trivial⟩ ⟨hq.1, hq.2.1, (hq.2.2.sift fun y hy => Or.inr (N y hy)).mono (by decide) (by decide)⟩⟩
theorem main_1_1 : Claimed_1_1 := comes_1 fun _ _ _ _ _ _ h hF => ⟨h.1, hF⟩
theorem main_1_2 : Claimed_1_2 := comes_1 fun _ _ _ _ _ _ h hF => ⟨h.2.1, hF⟩
end Jvm.Pilot.@@N@@
namespace Jvm.Pilot.@@N@@
open Jvm Jvm.ClassFile Sem Op Lib Jvm.Free Jvm.Stand Jvm.Pilot.@@N@@.Jvm.D
/-! MADE BY PROGRAM (witnessworld.py) out of the Statement's table words and the real class files: 9 classes; the members and pool entries that the words name. The judged class is class 1, her method 1. -/
namespace start1
open Jvm.ClassFile
def u (s : String) : CpInfo := .utf8 (stringToUtf16 s)
/-- a pool by its gaps: so many unusable entries, then the entry; so many at the end -/
def gap : Nat → List CpInfo → List CpInfo
  | 0, r => r
  | n + 1, r => .unusable :: gap n r
def poolList (es : List (Nat × CpInfo)) (last : Nat) : List CpInfo := es.foldr (fun e r => gap e.1 (e.2 :: r)) (gap last [])
def pool (es : List (Nat × CpInfo)) (last : Nat) : Array CpInfo := ⟨poolList es last⟩
def fileOf (pool : Array CpInfo) (this : Nat) (attrs : Array Attribute := #[]) (ms : Array MethodInfo := #[]) (fl : Nat := 33) (sup : Nat := 0) (ifs : Array Nat := #[]) (fds : Array FieldInfo := #[]) : ClassFile where
  minorVersion := 0
  majorVersion := 65
  constantPool := pool
  accessFlags := fl
  thisClass := this
  superClass := sup
  interfaces := ifs
  fields := fds
  methods := ms
  attributes := attrs
def plain (name : String) (sup : Option ClassId) : Class where
  name := name
  kind := .ordinary
  loader := none
  accessFlags := 33
  super := sup
  interfaces := #[]
  cf := none
  fields := #[]
  methods := #[]
  instanceTypes := #[]
  staticTypes := #[]
  resolved := #[]
  callSites := []
  init := .initialized
  statics := none
  mirror := none

def pool0 : Array CpInfo := pool [(5, u "<init>"), (0, u "()V"), (1, .class_ 10), (1, u "java/lang/Object")] 113

def k0m0 : Method := { name := "<init>", desc := "()V", sig := { parameters := [], returnType := none }, accessFlags := 1, code := none }
/-- java/lang/Object -/
def k0 : Class := { plain "java/lang/Object" none with
  accessFlags := 33
  interfaces := #[]
  cf := some (fileOf pool0 8 #[] #[{ accessFlags := 1, nameIndex := 5, descriptorIndex := 6, attributes := #[] }] 33 0 #[] #[])
  fields := #[]
  methods := #[k0m0]
  instanceTypes := #[]
  staticTypes := #[]
  resolved := Array.replicate 124 none
  statics := none }

def pool1 : Array CpInfo := pool [(2, .class_ 4), (1, u "java/lang/Object"), (0, u "<init>"), (0, u "()V"), (0, .methodref 8 9), (0, .class_ 10), (0, .nameAndType 11 12), (0, u "com/example/tessera/tessera/tls/TlsReader"), (0, u "containsU8"), (0, u "([BI)Z"), (0, .class_ 14), (0, u "com/example/tessera/tessera/tls/TlsReaderContainsU8PinLaw"), (2, u "law"), (0, u "(IIIII)Z")] 5

def k1m0 : Method := { name := "<init>", desc := "()V", sig := { parameters := [], returnType := none }, accessFlags := 2, code := none }
def k1c1 : Code := { maxStack := 3, maxLocals := 13, code := code, exceptionTable := #[], attributes := #[] }
def k1m1 : Method := { name := "law", desc := "(IIIII)Z", sig := { parameters := [.int, .int, .int, .int, .int], returnType := some .boolean }, accessFlags := 9, code := some k1c1 }
/-- com/example/tessera/tessera/tls/TlsReaderContainsU8PinLaw -/
def k1 : Class := { plain "com/example/tessera/tessera/tls/TlsReaderContainsU8PinLaw" (some 0) with
  accessFlags := 49
  interfaces := #[]
  cf := some (fileOf pool1 13 #[] #[{ accessFlags := 2, nameIndex := 5, descriptorIndex := 6, attributes := #[] }, { accessFlags := 9, nameIndex := 17, descriptorIndex := 18, attributes := #[] }] 49 2 #[] #[])
  fields := #[]
  methods := #[k1m0, k1m1]
  instanceTypes := #[]
  staticTypes := #[]
  resolved := Array.replicate 24 none
  statics := none }

def pool2 : Array CpInfo := pool [(2, .class_ 4), (1, u "com/example/tessera/tessera/tls/TlsReader"), (3, .class_ 10), (1, u "java/lang/Object"), (110, u "containsU8"), (0, u "([BI)Z")] 31

def k2c0 : Code := { maxStack := 2, maxLocals := 6, code := prog_46_method_4_code, exceptionTable := #[], attributes := #[] }
def k2m0 : Method := { name := "containsU8", desc := "([BI)Z", sig := { parameters := [(.array .byte), .int], returnType := some .boolean }, accessFlags := 8, code := some k2c0 }
/-- com/example/tessera/tessera/tls/TlsReader -/
def k2 : Class := { plain "com/example/tessera/tessera/tls/TlsReader" (some 0) with
  accessFlags := 48
  interfaces := #[]
  cf := some (fileOf pool2 2 #[] #[{ accessFlags := 8, nameIndex := 121, descriptorIndex := 122, attributes := #[] }] 48 8 #[] #[])
  fields := #[]
  methods := #[k2m0]
  instanceTypes := #[]
  staticTypes := #[]
  resolved := Array.replicate 154 none
  statics := none }

def pool3 : Array CpInfo := pool [(1, u "java/lang/Cloneable"), (0, .class_ 1), (0, u "java/lang/Object"), (0, .class_ 3)] 3

/-- java/lang/Cloneable -/
def k3 : Class := { plain "java/lang/Cloneable" (some 0) with
  accessFlags := 1537
  interfaces := #[]
  cf := some (fileOf pool3 2 #[] #[] 1537 4 #[] #[])
  fields := #[]
  methods := #[]
  instanceTypes := #[]
  staticTypes := #[]
  resolved := Array.replicate 8 none
  statics := none }

def pool4 : Array CpInfo := pool [(1, u "java/io/Serializable"), (0, .class_ 1), (0, u "java/lang/Object"), (0, .class_ 3)] 3

/-- java/io/Serializable -/
def k4 : Class := { plain "java/io/Serializable" (some 0) with
  accessFlags := 1537
  interfaces := #[]
  cf := some (fileOf pool4 2 #[] #[] 1537 4 #[] #[])
  fields := #[]
  methods := #[]
  instanceTypes := #[]
  staticTypes := #[]
  resolved := Array.replicate 8 none
  statics := none }

/-- the primitive byte -/
def k5 : Class := { plain "byte" none with kind := .primitive 'B', accessFlags := 0x411 }
/-- [B -/
def k6 : Class := { plain "[B" (some 0) with kind := .array 5 .byte, interfaces := #[3, 4], accessFlags := 1041 }

/-- the primitive int -/
def k7 : Class := { plain "int" none with kind := .primitive 'I', accessFlags := 0x411 }
/-- [I -/
def k8 : Class := { plain "[I" (some 0) with kind := .array 7 .int, interfaces := #[3, 4], accessFlags := 1041 }

def heap : Heap := #[]
def classes : Array Class := #[k0, k1, k2, k3, k4, k5, k6, k7, k8]
def interned : List (Array UInt16 × Addr) := []
def slotsUsed : Nat := 0
def theMethod : MethodId := ⟨1, 1⟩
def args0 : Array Value := #[.int 7, .int 1, .int 2, .int 3, .int 4]
def aboutOver (below : List Frame) : State where
  vm := { classes := classes, interned := interned.toArray }
  heap := heap
  slotsUsed := slotsUsed
  threads := #[{ frames := .invoking theMethod args0 :: below }]
def below0 : List Frame := [.native { method := ⟨0, 0⟩, args := #[] }]
def about1 : State := aboutOver below0
def p0 : Program := .bare "" "" ""
def e0 : Env := launch0.env 0 0 0
theorem w_frames : about1.frames = Frame.invoking theMethod args0 :: below0 := rfl
set_option maxRecDepth 65536 in
theorem w_args : argsFit about1.vm theMethod args0 = true := by decide +kernel
set_option maxRecDepth 65536 in
theorem w_heap : heapFits about1 = true := by decide +kernel
set_option maxRecDepth 65536 in
theorem w_runnable : about1.curStatus? = some .runnable := by decide +kernel
set_option maxRecDepth 65536 in
theorem w_alone : about1.alone = true := by decide +kernel
set_option maxRecDepth 65536 in
theorem w_named : about1.methodNamed? x = some theMethod := by decide +kernel
set_option maxRecDepth 65536 in
theorem w_hears : about1.hears theMethod below0 = true := by decide +kernel
set_option maxRecDepth 65536 in
theorem w_ripe : about1.ripe theMethod args0 below0 = true := by decide +kernel
theorem w_running : about1.status = .running := rfl
set_option maxRecDepth 65536 in
theorem w_room : about1.hasRoom e0.platform room_1 = true :=
  launch0.hasRoom_least _ room_1 (by decide +kernel) (by decide +kernel) (by decide +kernel) (by decide +kernel) (by decide +kernel) (by decide +kernel)
theorem allAtoms_all (ts : List Jvm.Cond) (a : Array Jvm.Value) (st : Jvm.State) : (allAtoms ts).before a st = ts.all (fun c => c.before a st) := by
  induction ts with
  | nil => rfl
  | cons c t ih =>
    show (Jvm.Cond.and c (allAtoms t)).before a st = _
    rw [Jvm.Cond.before_and, ih, List.all_cons]
def words1 : List Jvm.Cond := Jvm.Cond.code x code maxLocals ret :: tables_1
/-- a 'code' word, met by the world's own term for the bytes: nothing is compared byte by byte -/
theorem code_word {y : MethodName} {bytes : ByteArray} {mx : Nat} {rt : Option FieldType} {a : Array Value} {s : State} {m : MethodId} {meth : Method} {c : Code} (h1 : s.methodNamed? y = some m) (h2 : s.vm.method? m = some meth) (h3 : meth.code = some c) (h4 : c.code = bytes)
    (h5 : (c.maxLocals == mx && c.exceptionTable.isEmpty && decide (c.maxStack ≤ mostOperands) && decide (meth.sig.returnType = rt) && !meth.locks && decide (parseMethodDescriptor y.desc = some meth.sig)) = true) : (Jvm.Cond.code y bytes mx rt).before a s = true := by
  simp only [Bool.and_eq_true, beq_iff_eq, Bool.not_eq_true', decide_eq_true_eq] at h5
  obtain ⟨⟨⟨⟨⟨g1, g2⟩, g3⟩, g4⟩, g5⟩, g6⟩ := h5
  simp [Cond.before, Cond.holds, Cond.value, h1, h2, h3, h4, g1, g2, g3, g4, g5, g6]
def isCode : Jvm.Cond → Bool
  | .code _ _ _ _ => true
  | _ => false
theorem all_split {L : List Jvm.Cond} {P : Jvm.Cond → Bool} (h1 : L.all (fun c => isCode c || P c) = true) (h2 : ∀ c ∈ L.filter isCode, P c = true) : L.all P = true := by
  refine List.all_eq_true.mpr fun c hc => ?_
  have h := List.all_eq_true.mp h1 c hc
  rcases Bool.eq_false_or_eq_true (isCode c) with hi | hi
  · exact h2 c (List.mem_filter.mpr ⟨hc, hi⟩)
  · simpa [hi] using h
set_option maxRecDepth 65536 in
theorem w_c0 : (Jvm.Cond.code x code maxLocals ret).before args0 about1 = true := code_word (m := ⟨1, 1⟩) (meth := k1m1) (c := k1c1) (by decide +kernel) rfl rfl rfl (by decide +kernel)
set_option maxRecDepth 65536 in
theorem w_c1 : (Jvm.Cond.code ({ cls := "com/example/tessera/tessera/tls/TlsReader", name := "containsU8", desc := "([BI)Z" } : Jvm.MethodName) prog_46_method_4_code (6 : Nat) (Option.some Jvm.ClassFile.FieldType.boolean)).before args0 about1 = true := code_word (m := ⟨2, 0⟩) (meth := k2m0) (c := k2c0) (by decide +kernel) rfl rfl rfl (by decide +kernel)
def codes1 : List Jvm.Cond := [Jvm.Cond.code x code maxLocals ret, Jvm.Cond.code ({ cls := "com/example/tessera/tessera/tls/TlsReader", name := "containsU8", desc := "([BI)Z" } : Jvm.MethodName) prog_46_method_4_code (6 : Nat) (Option.some Jvm.ClassFile.FieldType.boolean)]
set_option maxRecDepth 65536 in
theorem codes_eq : words1.filter isCode = codes1 := rfl
theorem w_codes : ∀ c ∈ words1.filter isCode, c.before args0 about1 = true := by
  rw [codes_eq]
  intro c hc
  simp only [codes1, List.mem_cons, List.not_mem_nil, or_false] at hc
  rcases hc with rfl | rfl
  · exact w_c0
  · exact w_c1
set_option maxRecDepth 65536 in
theorem w_t1 : words1.all (fun c => isCode c || c.before args0 about1) = true := by decide +kernel
theorem w_tables : (allAtoms (Jvm.Cond.code x code maxLocals ret :: tables_1)).before args0 about1 = true := by
  rw [allAtoms_all]
  show words1.all (fun c => c.before args0 about1) = true
  refine all_split ?_ w_codes
  rw [w_t1]
set_option maxRecDepth 65536 in
theorem w_case : (Jvm.Cond.and given_1 narrow_1).before args0 about1 = true := by decide +kernel
theorem w_applies : (headSpec (Jvm.Cond.code x code maxLocals ret :: tables_1) room_1).applies x e0.platform about1 = true :=
  (Spec.applies_iff w_frames).mpr ⟨w_running, w_runnable, w_alone, w_named, w_hears, w_ripe, w_room, w_tables⟩
theorem atStart : AtStart classFile x code maxLocals ret World_1 tables_1 room_1 Calls_1 rest_1 Pre_1 launch0 p0 e0 about1 theMethod args0 below0 :=
  ⟨lists_1, trivial, launch0.admits_env _ _ _, launch0.least_env, fairChoices_fair.cas, fairChoices_fair.clock, w_frames, w_args, w_heap, w_applies, trivial, trivial, w_case⟩
end start1
theorem witness_1 : WitnessClaimed_1 := ⟨start1.p0, start1.e0, start1.about1, start1.theMethod, start1.args0, start1.below0, start1.atStart⟩
end Jvm.Pilot.@@N@@
