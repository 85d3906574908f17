import JvmDerived
import JvmDerived.Pilot.@@N@@Statement
import JvmDerived.Pilot.@@N@@Code
set_option linter.unusedVariables false
set_option linter.unusedSimpArgs false
namespace Jvm.Pilot.@@N@@
open Jvm Jvm.ClassFile Sem Op Lib Jvm.Free Jvm.Stand Jvm.LawKit Jvm.RoadKit Bundle Jvm.Pilot.@@N@@.Jvm.D
/-! own kit, part 1: the walk by continuations -/
abbrev Cx : Type := Program × Env × State × MethodId × Array Value × List Frame × Method × Code × (Outcome → State → Prop)
abbrev Cx.p (x : Cx) : Program := x.1
abbrev Cx.e (x : Cx) : Env := x.2.1
abbrev Cx.s (x : Cx) : State := x.2.2.1
abbrev Cx.m (x : Cx) : MethodId := x.2.2.2.1
abbrev Cx.args (x : Cx) : Array Value := x.2.2.2.2.1
abbrev Cx.below (x : Cx) : List Frame := x.2.2.2.2.2.1
abbrev Cx.meth (x : Cx) : Method := x.2.2.2.2.2.2.1
abbrev Cx.c (x : Cx) : Code := x.2.2.2.2.2.2.2.1
abbrev Cx.F (x : Cx) : Outcome → State → Prop := x.2.2.2.2.2.2.2.2
abbrev BP : Type := Addr → Prop
abbrev QT : Type := Option Value → Heap → BP → Prop
/-- the end is reached from A -/
def Go (x : Cx) (A : State) : Prop := ∃ s₂ o, Steps x.p.tables x.e x.below A s₂ ∧ s₂.status = .running ∧ Ended s₂ x.below o ∧ x.F o s₂
theorem Go.from {x : Cx} {A A' : State} (G : Go x A') (st : ∀ t, Steps x.p.tables x.e x.below A' t → Steps x.p.tables x.e x.below A t) : Go x A := by
  obtain ⟨t, o, h1, r⟩ := G
  exact ⟨t, o, st _ h1, r⟩
/-- an instruction of the bytes: where it stands, its length, the place behind it -/
def Dc (bytes : ByteArray) (pc : Nat) (i : Instr) (len pc' : Nat) : Prop := decode bytes pc = .ok (i, len) ∧ pc' = pc + len
/-- a branch: where it stands, where it goes -/
def Db (bytes : ByteArray) (pc : Nat) (i : Instr) (o : Int) (pc' pc'' : Nat) : Prop := decode bytes pc = .ok (i, 3) ∧ pc' = pc + 3 ∧ 0 ≤ (pc : Int) + o ∧ ((pc : Int) + o).toNat = pc''
def k_inv (Z : State) (EL : List (String × Nat)) (B : BP) (vm : Vm) (h : Heap) : Prop :=
  CHv Z EL vm h ∧ (∀ y, Bk Z EL vm h y → B y) ∧ (∀ y, B y → y < h.size) ∧ Ext Z.heap h ∧ ∃ a0, EW Z a0 EL
def k_end (nw : Bool) (U : State) (o : Outcome) (U' : State) (L : List Loc) (k n : Nat) : Prop :=
  ReturnedEndW U o U' L k n ∧ (nw = true → U.WarmedH U'.vm)
/-- the booked places: none is lost, and what has come lies at n or above -/
def k_more (B B' : BP) (n : Nat) : Prop := (∀ y, B' y → B y ∨ n ≤ y) ∧ ∀ y, B y → B' y
theorem k_more.refl (B : BP) (n : Nat) : k_more B B n := ⟨fun _ q => Or.inl q, fun _ q => q⟩
theorem k_more.trans {B B' B'' : BP} {n n' : Nat} (a : k_more B B' n) (b : k_more B' B'' n') (q : n ≤ n') : k_more B B'' n := ⟨fun y hy => by
  rcases b.1 y hy with r | r
  · exact a.1 y r
  · exact Or.inr (Nat.le_trans q r), fun y hy => b.2 y (a.2 y hy)⟩
theorem k_more.no {B B' : BP} {n : Nat} (a : k_more B B' n) {y : Addr} (h1 : ¬ B y) (h2 : @LT.lt Nat _ y n) : ¬ B' y := fun q => by
  rcases a.1 y q with r | r
  · exact h1 r
  · exact absurd h2 (Nat.not_lt.mpr r)
/-- what a body promises -/
def ConQ (nw : Bool) (Z : State) (EL : List (String × Nat)) (rm : Room) (h : Heap) (B : BP) (ws : List Addr) (Q : QT) (U : State) (o : Outcome) (U' : State) : Prop :=
  ∃ v L B', o = .returned v ∧ Q v U'.heap B' ∧ Keep h U'.heap ws ∧ k_more B B' h.size ∧ Fr Z.heap.size L ∧ k_inv Z EL B' U'.vm U'.heap ∧ k_end nw U o U' L rm.cells rm.slots
def Con (nw : Bool) (l : Launch) (Z : State) (EL : List (String × Nat)) (y : MethodName) (bytes : ByteArray) (maxL : Nat) (ret : Option FieldType) (wl : List Jvm.Cond) (rm : Room) (as : Array Value) (h : Heap) (B : BP) (ws : List Addr) (Q : QT) : Prop :=
  MetFree l y (head1 (Cond.code y bytes maxL ret :: wl) rm) (fun a U => a = as ∧ Z.Warmed39 U.vm ∧ U.heap = h ∧ k_inv Z EL B U.vm h) (fun _ _ _ _ _ => True) (fun _ U o U' => ConQ nw Z EL rm h B ws Q U o U')
/-- the walk stands at T, heap h -/
def Wk (nw : Bool) (l : Launch) (Z : State) (EL : List (String × Nat)) (own : String) (bytes : ByteArray) (maxL : Nat) (ret : Option FieldType) (mnm : String) (R : Room) (h0 : Heap) (B0 : BP) (ws : List Addr) (Q : QT) (x : Cx) (T : State) (h : Heap) (B : BP) (k n : Nat) : Prop :=
  (x.p.tables.exec = Jvm.exec ∧ x.c.code = bytes ∧ x.c.maxLocals = maxL ∧ x.meth.sig.returnType = ret ∧ x.meth.locks = false ∧ x.meth.name = mnm ∧ x.F = ConQ nw Z EL R h0 B0 ws Q x.s) ∧
  ∃ vm0 k0 locs, Stand x.p l x.e R (x.s.setVm vm0) x.m x.args x.below x.meth x.c T locs k n ∧ T.heap = h ∧ x.s.Since vm0 k0 ∧ k0 ≤ h.size ∧ Z.Warmed39 vm0 ∧ vm0.findClass own = some x.m.cls ∧ k_inv Z EL B vm0 h ∧ Fr Z.heap.size locs ∧ Keep h0 h ws ∧ k_more B0 B h0.size ∧ (nw = true → x.s.WarmedH vm0)
theorem k_neN {x y : Nat} (q : x ≠ y) : x ≠ y := q
theorem k_ltE {Z : State} {h : Heap} {a : Addr} {C : String} (E : Exa Z h a C) : @LT.lt Nat _ a h.size := E.lt
section Inv
variable {Z : State} {EL : List (String × Nat)} {B : BP} {vm vm0 : Vm} {h h' : Heap}
theorem k_inv.lt (I : k_inv Z EL B vm h) : ¬ B h.size := fun q => Nat.lt_irrefl _ (I.2.2.1 _ q)
theorem k_inv.keep (I : k_inv Z EL B vm h) {ws : List Addr} (K : Keep h h' ws) (hw : ∀ x ∈ ws, ¬ B x ∧ Z.heap.size ≤ x) : k_inv Z EL B vm h' := by
  obtain ⟨i1, i2, i3, i4, i5⟩ := I
  have q := CHv.keepStep K (fun x hx b => (hw x hx).1 (i2 _ b)) i1
  refine ⟨q.1, fun y b => i2 y (q.2 y b), fun y b => Nat.lt_of_lt_of_le (i3 y b) K.1, ⟨Nat.le_trans i4.1 K.1, fun a c e => K.2.1 a c (i4.2 a c e) fun z => ?_⟩, i5⟩
  exact absurd (Array.getElem?_eq_some_iff.mp e).1 (Nat.not_lt.mpr (hw a z).2)
theorem k_inv.ext (I : k_inv Z EL B vm h) (E : Ext h h') : k_inv Z EL B vm h' := I.keep ((Keep.refl h []).ext E) (fun _ q => nomatch q)
theorem k_inv.wr (I : k_inv Z EL B vm h) {a : Addr} {sl : Nat} {v : Value} (W : Wr h h' a sl v) (hb : ¬ B a) (hz : Z.heap.size ≤ a) : k_inv Z EL B vm h' :=
  I.keep (Keep.of_wr W) (fun y q => by cases List.mem_singleton.mp q; exact ⟨hb, hz⟩)
theorem k_inv.vmT {p : Program} {l : Launch} {e : Env} {R : Room} {s : State} {m : MethodId} {args : Array Value} {below : List Frame} {meth : Method} {c : Code} {T : State} {locs : List Loc} {cells slots : Nat}
    (I : k_inv Z EL B vm0 h) (X : Stand p l e R (s.setVm vm0) m args below meth c T locs cells slots) (hZ : Z.Warmed39 vm0) : k_inv Z EL B T.vm h := by
  obtain ⟨i1, i2, i3, i4, a0, i5⟩ := I
  have q := CHv.at X hZ i5 i1
  refine ⟨q.1, fun y b => ?_, i3, i4, a0, i5⟩
  rcases q.2.2 y b with r | r
  · exact i2 y r
  · exact absurd (by obtain ⟨cell, hc⟩ := Bk.there b; exact (Array.getElem?_eq_some_iff.mp hc).1) (Nat.not_lt.mpr r)
end Inv
section Kit
variable {nw : Bool} {l : Launch} {Z : State} {EL : List (String × Nat)} {own : String} {bytes : ByteArray} {maxL : Nat} {ret : Option FieldType} {mnm : String} {R : Room} {h0 : Heap} {B0 : BP} {ws : List Addr} {Q : QT} {x : Cx} {T : State} {h : Heap} {B : BP} {k n : Nat} {a0 : Array Value} {pc pc' : Nat} {Ls : Array Slot} {st : List Value}
/-- a body is walked from its entry -/
theorem k_intro {y : MethodName} {wl : List Jvm.Cond} {as : Array Value} (hy : plainFor y = true) (hef' : Jvm.Sym.laidSlots as.toList ++ List.replicate (maxL - (Jvm.Sym.laidSlots as.toList).length) .unset = Ls.toList)
    (body : ∀ (x : Cx) (T : State), Wk nw l Z EL y.cls bytes maxL ret y.name R h0 B0 ws Q x T h0 B0 0 0 → Go x (T.setTop (mkF x.m 0 Ls []))) :
    Con nw l Z EL y bytes maxL ret wl R as h0 B0 ws Q := by
  have hef : ∀ m, entryFrame m as maxL = mkF m 0 Ls [] := fun m => by
    have : argsToLocals as maxL = Ls := Array.toList_inj.mp (by rw [Jvm.Sym.argsToLocals_toList]; exact hef')
    unfold entryFrame
    rw [this]
  refine MetFree.of_bodySF hy hisR ?_
  intro p e s m args below meth c s₁ Bd hml0 hP hK
  obtain ⟨rfl, hZ, hh, hI⟩ := hP
  have hown : s.vm.findClass y.cls = some m.cls := findClass_of_methodNamed Bd.named
  have hnm := (name_of_methodNamed Bd.named Bd.method).1
  have X0 : Stand p l e R s m args below meth c s₁ [] 0 0 := Stand.of_body Bd
  have e0 : s₁.heap = h0 := by rw [← hh, Bd.state]; rfl
  have W : Wk nw l Z EL y.cls bytes maxL ret y.name R h0 B0 ws Q (p, e, s, m, args, below, meth, c, fun o t => ConQ nw Z EL R h0 B0 ws Q s o t) s₁ h0 B0 0 0 :=
    ⟨⟨Bd.exec, Bd.bytes, hml0, Bd.returns, Bd.notSynchronized, hnm, rfl⟩, s.vm, h0.size, [], X0, e0, (State.WarmedH.refl s).since _, Nat.le_refl _, hZ, hown, hI, Fr.nil _, Keep.refl _ _, k_more.refl _ _, fun _ => State.WarmedH.refl s⟩
  obtain ⟨t, o, g1, g2, g3, g4⟩ := body _ _ W
  exact ⟨t, o, castTop (hef m) g1, g2, g3, g4⟩
theorem Wk.at (X : Wk nw l Z EL own bytes maxL ret mnm R h0 B0 ws Q x T h B k n) : At T x.m x.c x.below := by obtain ⟨-, _, _, _, X, -⟩ := X; exact X.here
theorem Wk.ex (X : Wk nw l Z EL own bytes maxL ret mnm R h0 B0 ws Q x T h B k n) : x.p.tables.exec = Jvm.exec := X.1.1
theorem Wk.dec (X : Wk nw l Z EL own bytes maxL ret mnm R h0 B0 ws Q x T h B k n) {r : Except ClassFile.DecodeError (Instr × Nat)} (hd : decode bytes pc = r) : decode x.c.code pc = r := by rw [X.1.2.1]; exact hd
theorem Wk.inv (X : Wk nw l Z EL own bytes maxL ret mnm R h0 B0 ws Q x T h B k n) : ∃ vm, k_inv Z EL B vm h := by obtain ⟨-, vm, _, _, -, -, -, -, -, -, hI, -⟩ := X; exact ⟨vm, hI⟩
theorem Wk.old (X : Wk nw l Z EL own bytes maxL ret mnm R h0 B0 ws Q x T h B k n) : Ext Z.heap h := by obtain ⟨vm, I⟩ := X.inv; exact I.2.2.2.1
theorem Wk.fresh (X : Wk nw l Z EL own bytes maxL ret mnm R h0 B0 ws Q x T h B k n) : ¬ B h.size := by obtain ⟨vm, I⟩ := X.inv; exact I.lt
theorem Wk.free (X : Wk nw l Z EL own bytes maxL ret mnm R h0 B0 ws Q x T h B k n) {y : Addr} (q : h.size ≤ y) : ¬ B y := fun b => by obtain ⟨vm, I⟩ := X.inv; exact absurd (I.2.2.1 y b) (Nat.not_lt.mpr q)
theorem Wk.kept (X : Wk nw l Z EL own bytes maxL ret mnm R h0 B0 ws Q x T h B k n) : Keep h0 h ws := by obtain ⟨-, _, _, _, -, -, -, -, -, -, -, -, K, -⟩ := X; exact K
theorem Wk.more (X : Wk nw l Z EL own bytes maxL ret mnm R h0 B0 ws Q x T h B k n) {k' n' : Nat} (h1 : k ≤ k') (h2 : n ≤ n') : Wk nw l Z EL own bytes maxL ret mnm R h0 B0 ws Q x T h B k' n' := by
  obtain ⟨a, vm0, k0, locs, X, r⟩ := X
  exact ⟨a, vm0, k0, locs, X.more h1 h2, r⟩
theorem Wk.sz (X : Wk nw l Z EL own bytes maxL ret mnm R h0 B0 ws Q x T h B k n) : h0.size ≤ h.size := X.kept.1
theorem Wk.szZ (X : Wk nw l Z EL own bytes maxL ret mnm R h0 B0 ws Q x T h B k n) : Z.heap.size ≤ h.size := X.old.1
/-! the ends -/
theorem k_leave (X : Wk nw l Z EL own bytes maxL ret mnm R h0 B0 ws Q x T h B k n) (hk : k ≤ R.cells) (hn : n ≤ R.slots) {v : Option Value} (hv : ret = none → v = none) (hQ : Q v h B)
    {A : State} (st : ∀ fs, (∀ (f : JFrame) (acts : List Action), f.method = x.m → f.locked = none → f.entered = [] → (doReturn x.e (T.setTop f) acts v).1 = T.setFrames fs) → Steps x.p.tables x.e x.below A (T.setFrames fs)) : Go x A := by
  obtain ⟨⟨-, -, -, hr, hlk, -, hF⟩, vm0, k0, locs, X, rfl, hS, hk0, hZ, hown, hI, hFr, hK, hM, hN⟩ := X
  obtain ⟨fs, g1, g2, g3, g4⟩ := X.leaveW hS hk0 (v := v) (fun q => hv (hr ▸ q)) hlk
  refine ⟨T.setFrames fs, .returned v, st fs g1, g2, g3, ?_⟩
  rw [hF]
  refine ⟨v, locs, B, rfl, hQ, hK, hM, hFr, (have q := hI.vmT X hZ; q), ⟨?_, fun q => State.WarmedH.trans (hN q) X.warmed⟩⟩
  obtain ⟨q1, q2, q3, q4⟩ := g4
  exact ⟨q1, q2, q3, q4.mono hk hn⟩
theorem g_return (X : Wk nw l Z EL own bytes maxL none mnm R h0 B0 ws Q x T h B k n) (hd : Dc bytes pc .return_ 1 pc') (hk : k ≤ R.cells) (hn : n ≤ R.slots) (hQ : Q none h B) : Go x (T.setTop (mkF x.m pc Ls [])) := by
  refine k_leave X hk hn (fun _ => rfl) hQ fun fs hl => ?_
  obtain ⟨⟨hx, hb, -, hr, -, -, -⟩, vm0, k0, locs, X, -⟩ := X
  exact X.returnOut hx hr (hb ▸ hd.1) hl
theorem g_areturn {t : FieldType} {w : Value} (X : Wk nw l Z EL own bytes maxL (some t) mnm R h0 B0 ws Q x T h B k n) (hd : Dc bytes pc .areturn 1 pc') (ht : t.isReference = true) (hnw : narrow t w = w) (hw : w.isRef = true) (hk : k ≤ R.cells) (hn : n ≤ R.slots) (hQ : Q (some w) h B) : Go x (T.setTop (mkF x.m pc Ls (w :: st))) := by
  refine k_leave X hk hn (fun q => by cases q) hQ fun fs hl => ?_
  obtain ⟨⟨hx, hb, -, hr, -, -, -⟩, vm0, k0, locs, X, -⟩ := X
  exact retOut X hx hr hnw (Or.inr (Or.inr (Or.inr (Or.inr ⟨rfl, ht, hw⟩)))) (hb ▸ hd.1) hl
theorem g_ireturn {t : FieldType} {w w' : Int32} (X : Wk nw l Z EL own bytes maxL (some t) mnm R h0 B0 ws Q x T h B k n) (hd : Dc bytes pc .ireturn 1 pc') (ht : t = .boolean ∨ t = .byte ∨ t = .char ∨ t = .short) (hw : RoadKit.nar t w = w') (hk : k ≤ R.cells) (hn : n ≤ R.slots) (hQ : Q (some (.int w')) h B) : Go x (T.setTop (mkF x.m pc Ls (.int w :: st))) := by
  subst hw
  refine k_leave X hk hn (fun q => by cases q) hQ fun fs hl => ?_
  obtain ⟨⟨hx, hb, -, hr, -, -, -⟩, vm0, k0, locs, X, -⟩ := X
  exact retN X hx hr ht (hb ▸ hd.1) hl
theorem g_ireturnI {w : Int32} (X : Wk nw l Z EL own bytes maxL (some .int) mnm R h0 B0 ws Q x T h B k n) (hd : Dc bytes pc .ireturn 1 pc') (hk : k ≤ R.cells) (hn : n ≤ R.slots) (hQ : Q (some (.int w)) h B) : Go x (T.setTop (mkF x.m pc Ls (.int w :: st))) := by
  refine k_leave X hk hn (fun q => by cases q) hQ fun fs hl => ?_
  obtain ⟨⟨hx, hb, -, hr, -, -, -⟩, vm0, k0, locs, X, -⟩ := X
  exact retOut X hx hr rfl (Or.inl ⟨rfl, Or.inl rfl, _, rfl⟩) (hb ▸ hd.1) hl
theorem g_lreturn {w : Int64} (X : Wk nw l Z EL own bytes maxL (some .long) mnm R h0 B0 ws Q x T h B k n) (hd : Dc bytes pc .lreturn 1 pc') (hk : k ≤ R.cells) (hn : n ≤ R.slots) (hQ : Q (some (.long w)) h B) : Go x (T.setTop (mkF x.m pc Ls (.long w :: st))) := by
  refine k_leave X hk hn (fun q => by cases q) hQ fun fs hl => ?_
  obtain ⟨⟨hx, hb, -, hr, -, -, -⟩, vm0, k0, locs, X, -⟩ := X
  exact retOut X hx hr rfl (Or.inr (Or.inl ⟨rfl, rfl, _, rfl⟩)) (hb ▸ hd.1) hl
theorem g_iloadN (X : Wk nw l Z EL own bytes maxL ret mnm R h0 B0 ws Q x T h B k n) {j : Fin 4} {v : Int32} (hd : Dc bytes pc (.iload_n j) 1 pc') (hl : Ls[j.val]? = some (.val (.int v))) (G : Go x (T.setTop (mkF x.m pc' Ls (.int v :: st)))) : Go x (T.setTop (mkF x.m pc Ls st)) := by
  obtain ⟨hd, rfl⟩ := hd
  exact G.from fun t q => XS.iloadN X.at X.ex rfl (X.dec hd) hl q
theorem g_iload (X : Wk nw l Z EL own bytes maxL ret mnm R h0 B0 ws Q x T h B k n) {j : Nat} {v : Int32} (hd : Dc bytes pc (.iload j) 2 pc') (hl : Ls[j]? = some (.val (.int v))) (G : Go x (T.setTop (mkF x.m pc' Ls (.int v :: st)))) : Go x (T.setTop (mkF x.m pc Ls st)) := by
  obtain ⟨hd, rfl⟩ := hd
  exact G.from fun t q => XS.iload X.at X.ex rfl (X.dec hd) hl q
theorem g_lloadN (X : Wk nw l Z EL own bytes maxL ret mnm R h0 B0 ws Q x T h B k n) {j : Fin 4} {v : Int64} (hd : Dc bytes pc (.lload_n j) 1 pc') (hl : Ls[j.val]? = some (.val (.long v))) (G : Go x (T.setTop (mkF x.m pc' Ls (.long v :: st)))) : Go x (T.setTop (mkF x.m pc Ls st)) := by
  obtain ⟨hd, rfl⟩ := hd
  exact G.from fun t q => XT.lloadN X.at X.ex rfl (X.dec hd) hl q
theorem g_lload (X : Wk nw l Z EL own bytes maxL ret mnm R h0 B0 ws Q x T h B k n) {j : Nat} {v : Int64} (hd : Dc bytes pc (.lload j) 2 pc') (hl : Ls[j]? = some (.val (.long v))) (G : Go x (T.setTop (mkF x.m pc' Ls (.long v :: st)))) : Go x (T.setTop (mkF x.m pc Ls st)) := by
  obtain ⟨hd, rfl⟩ := hd
  exact G.from fun t q => XT.lload X.at X.ex rfl (X.dec hd) hl q
theorem g_aloadN (X : Wk nw l Z EL own bytes maxL ret mnm R h0 B0 ws Q x T h B k n) {j : Fin 4} {v : Value} (hd : Dc bytes pc (.aload_n j) 1 pc') (hl : Ls[j.val]? = some (.val v)) (hv : v.isRef = true) (G : Go x (T.setTop (mkF x.m pc' Ls (v :: st)))) : Go x (T.setTop (mkF x.m pc Ls st)) := by
  obtain ⟨hd, rfl⟩ := hd
  exact G.from fun t q => XS.aloadN X.at X.ex rfl (X.dec hd) hl hv q
theorem g_aload (X : Wk nw l Z EL own bytes maxL ret mnm R h0 B0 ws Q x T h B k n) {j : Nat} {v : Value} (hd : Dc bytes pc (.aload j) 2 pc') (hl : Ls[j]? = some (.val v)) (hv : v.isRef = true) (G : Go x (T.setTop (mkF x.m pc' Ls (v :: st)))) : Go x (T.setTop (mkF x.m pc Ls st)) := by
  obtain ⟨hd, rfl⟩ := hd
  exact G.from fun t q => XS.aload X.at X.ex rfl (X.dec hd) hl hv q
theorem g_istoreN (X : Wk nw l Z EL own bytes maxL ret mnm R h0 B0 ws Q x T h B k n) {j : Fin 4} {v : Int32} (Ls' : Array Slot) (hd : Dc bytes pc (.istore_n j) 1 pc') (hl : storeLocals Ls j.val (.int v) = some Ls') (G : Go x (T.setTop (mkF x.m pc' Ls' st))) : Go x (T.setTop (mkF x.m pc Ls (.int v :: st))) := by
  obtain ⟨hd, rfl⟩ := hd
  exact G.from fun t q => XS.istoreN X.at X.ex rfl (X.dec hd) rfl hl q
theorem g_istore (X : Wk nw l Z EL own bytes maxL ret mnm R h0 B0 ws Q x T h B k n) {j : Nat} {v : Int32} (Ls' : Array Slot) (hd : Dc bytes pc (.istore j) 2 pc') (hl : storeLocals Ls j (.int v) = some Ls') (G : Go x (T.setTop (mkF x.m pc' Ls' st))) : Go x (T.setTop (mkF x.m pc Ls (.int v :: st))) := by
  obtain ⟨hd, rfl⟩ := hd
  exact G.from fun t q => XS.istore X.at X.ex rfl (X.dec hd) rfl hl q
theorem g_lstoreN (X : Wk nw l Z EL own bytes maxL ret mnm R h0 B0 ws Q x T h B k n) {j : Fin 4} {v : Int64} (Ls' : Array Slot) (hd : Dc bytes pc (.lstore_n j) 1 pc') (hl : storeLocals Ls j.val (.long v) = some Ls') (G : Go x (T.setTop (mkF x.m pc' Ls' st))) : Go x (T.setTop (mkF x.m pc Ls (.long v :: st))) := by
  obtain ⟨hd, rfl⟩ := hd
  exact G.from fun t q => XT.lstoreN X.at X.ex rfl (X.dec hd) rfl hl q
theorem g_lstore (X : Wk nw l Z EL own bytes maxL ret mnm R h0 B0 ws Q x T h B k n) {j : Nat} {v : Int64} (Ls' : Array Slot) (hd : Dc bytes pc (.lstore j) 2 pc') (hl : storeLocals Ls j (.long v) = some Ls') (G : Go x (T.setTop (mkF x.m pc' Ls' st))) : Go x (T.setTop (mkF x.m pc Ls (.long v :: st))) := by
  obtain ⟨hd, rfl⟩ := hd
  exact G.from fun t q => XT.lstore X.at X.ex rfl (X.dec hd) rfl hl q
theorem g_astoreN (X : Wk nw l Z EL own bytes maxL ret mnm R h0 B0 ws Q x T h B k n) {j : Fin 4} {v : Value} (Ls' : Array Slot) (hd : Dc bytes pc (.astore_n j) 1 pc') (hv : v.isRef = true) (hl : storeLocals Ls j.val v = some Ls') (G : Go x (T.setTop (mkF x.m pc' Ls' st))) : Go x (T.setTop (mkF x.m pc Ls (v :: st))) := by
  obtain ⟨hd, rfl⟩ := hd
  exact G.from fun t q => XS.astoreN X.at X.ex rfl (X.dec hd) rfl hv hl q
theorem g_astore (X : Wk nw l Z EL own bytes maxL ret mnm R h0 B0 ws Q x T h B k n) {j : Nat} {v : Value} (Ls' : Array Slot) (hd : Dc bytes pc (.astore j) 2 pc') (hv : v.isRef = true) (hl : storeLocals Ls j v = some Ls') (G : Go x (T.setTop (mkF x.m pc' Ls' st))) : Go x (T.setTop (mkF x.m pc Ls (v :: st))) := by
  obtain ⟨hd, rfl⟩ := hd
  exact G.from fun t q => XS.astore X.at X.ex rfl (X.dec hd) rfl hv hl q
theorem g_iconst (X : Wk nw l Z EL own bytes maxL ret mnm R h0 B0 ws Q x T h B k n) {i : Int} (v : Int32) (hd : Dc bytes pc (.iconst i) 1 pc') (hv : Int32.ofInt i = v) (G : Go x (T.setTop (mkF x.m pc' Ls (.int v :: st)))) : Go x (T.setTop (mkF x.m pc Ls st)) := by
  obtain ⟨hd, rfl⟩ := hd
  exact G.from fun t q => XT.iconstV X.at X.ex rfl v (X.dec hd) hv q
theorem g_bipush (X : Wk nw l Z EL own bytes maxL ret mnm R h0 B0 ws Q x T h B k n) {i : Int} (v : Int32) (hd : Dc bytes pc (.bipush i) 2 pc') (hv : (Int8.ofInt i).toInt32 = v) (G : Go x (T.setTop (mkF x.m pc' Ls (.int v :: st)))) : Go x (T.setTop (mkF x.m pc Ls st)) := by
  obtain ⟨hd, rfl⟩ := hd
  exact G.from fun t q => XT.bipushV X.at X.ex rfl v (X.dec hd) hv q
theorem g_sipush (X : Wk nw l Z EL own bytes maxL ret mnm R h0 B0 ws Q x T h B k n) {i : Int} (v : Int32) (hd : Dc bytes pc (.sipush i) 3 pc') (hv : (Int16.ofInt i).toInt32 = v) (G : Go x (T.setTop (mkF x.m pc' Ls (.int v :: st)))) : Go x (T.setTop (mkF x.m pc Ls st)) := by
  obtain ⟨hd, rfl⟩ := hd
  exact G.from fun t q => XT.sipushV X.at X.ex rfl v (X.dec hd) hv q
theorem g_lconst (X : Wk nw l Z EL own bytes maxL ret mnm R h0 B0 ws Q x T h B k n) {i : Fin 2} (v : Int64) (hd : Dc bytes pc (.lconst i) 1 pc') (hv : Int64.ofNat i = v) (G : Go x (T.setTop (mkF x.m pc' Ls (.long v :: st)))) : Go x (T.setTop (mkF x.m pc Ls st)) := by
  obtain ⟨hd, rfl⟩ := hd
  exact G.from fun t q => XT.lconstV X.at X.ex rfl v (X.dec hd) hv q
theorem g_aconst_null (X : Wk nw l Z EL own bytes maxL ret mnm R h0 B0 ws Q x T h B k n)  (hd : Dc bytes pc (.aconst_null) 1 pc')  (G : Go x (T.setTop (mkF x.m pc' Ls (.null :: st)))) : Go x (T.setTop (mkF x.m pc Ls st)) := by
  obtain ⟨hd, rfl⟩ := hd
  exact G.from fun t q => XS.aconstNull X.at X.ex rfl (X.dec hd) q
theorem g_iinc (X : Wk nw l Z EL own bytes maxL ret mnm R h0 B0 ws Q x T h B k n) {j : Nat} {cst : Int} {v r : Int32} (Ls' : Array Slot) (hd : Dc bytes pc (.iinc j cst) 3 pc') (hl : Ls[j]? = some (.val (.int v))) (hr : v + Int32.ofInt cst = r) (hl' : storeLocals Ls j (.int r) = some Ls') (G : Go x (T.setTop (mkF x.m pc' Ls' st))) : Go x (T.setTop (mkF x.m pc Ls st)) := by
  obtain ⟨hd, rfl⟩ := hd
  exact G.from fun t q => XS.iinc X.at X.ex rfl (X.dec hd) hl (hr ▸ hl') q
theorem g_iadd (X : Wk nw l Z EL own bytes maxL ret mnm R h0 B0 ws Q x T h B k n) {u v : Int32} (r : Int32) (hd : Dc bytes pc (.iadd) 1 pc') (hr : u + v = r) (G : Go x (T.setTop (mkF x.m pc' Ls (.int r :: st)))) : Go x (T.setTop (mkF x.m pc Ls (.int v :: .int u :: st))) := by
  obtain ⟨hd, rfl⟩ := hd
  exact G.from fun t q => XS.iadd X.at X.ex rfl (X.dec hd) rfl (hr ▸ q)
theorem g_isub (X : Wk nw l Z EL own bytes maxL ret mnm R h0 B0 ws Q x T h B k n) {u v : Int32} (r : Int32) (hd : Dc bytes pc (.isub) 1 pc') (hr : u - v = r) (G : Go x (T.setTop (mkF x.m pc' Ls (.int r :: st)))) : Go x (T.setTop (mkF x.m pc Ls (.int v :: .int u :: st))) := by
  obtain ⟨hd, rfl⟩ := hd
  exact G.from fun t q => XS.isub X.at X.ex rfl (X.dec hd) rfl (hr ▸ q)
theorem g_imul (X : Wk nw l Z EL own bytes maxL ret mnm R h0 B0 ws Q x T h B k n) {u v : Int32} (r : Int32) (hd : Dc bytes pc (.imul) 1 pc') (hr : u * v = r) (G : Go x (T.setTop (mkF x.m pc' Ls (.int r :: st)))) : Go x (T.setTop (mkF x.m pc Ls (.int v :: .int u :: st))) := by
  obtain ⟨hd, rfl⟩ := hd
  exact G.from fun t q => XS.imul X.at X.ex rfl (X.dec hd) rfl (hr ▸ q)
theorem g_iand (X : Wk nw l Z EL own bytes maxL ret mnm R h0 B0 ws Q x T h B k n) {u v : Int32} (r : Int32) (hd : Dc bytes pc (.iand) 1 pc') (hr : u &&& v = r) (G : Go x (T.setTop (mkF x.m pc' Ls (.int r :: st)))) : Go x (T.setTop (mkF x.m pc Ls (.int v :: .int u :: st))) := by
  obtain ⟨hd, rfl⟩ := hd
  exact G.from fun t q => XS.iand X.at X.ex rfl (X.dec hd) rfl (hr ▸ q)
theorem g_ior (X : Wk nw l Z EL own bytes maxL ret mnm R h0 B0 ws Q x T h B k n) {u v : Int32} (r : Int32) (hd : Dc bytes pc (.ior) 1 pc') (hr : u ||| v = r) (G : Go x (T.setTop (mkF x.m pc' Ls (.int r :: st)))) : Go x (T.setTop (mkF x.m pc Ls (.int v :: .int u :: st))) := by
  obtain ⟨hd, rfl⟩ := hd
  exact G.from fun t q => XT.ior X.at X.ex rfl (X.dec hd) rfl (hr ▸ q)
theorem g_ixor (X : Wk nw l Z EL own bytes maxL ret mnm R h0 B0 ws Q x T h B k n) {u v : Int32} (r : Int32) (hd : Dc bytes pc (.ixor) 1 pc') (hr : u ^^^ v = r) (G : Go x (T.setTop (mkF x.m pc' Ls (.int r :: st)))) : Go x (T.setTop (mkF x.m pc Ls (.int v :: .int u :: st))) := by
  obtain ⟨hd, rfl⟩ := hd
  exact G.from fun t q => XT.ixor X.at X.ex rfl (X.dec hd) rfl (hr ▸ q)
theorem g_ishl (X : Wk nw l Z EL own bytes maxL ret mnm R h0 B0 ws Q x T h B k n) {u v : Int32} (r : Int32) (hd : Dc bytes pc (.ishl) 1 pc') (hr : u <<< (v &&& 31) = r) (G : Go x (T.setTop (mkF x.m pc' Ls (.int r :: st)))) : Go x (T.setTop (mkF x.m pc Ls (.int v :: .int u :: st))) := by
  obtain ⟨hd, rfl⟩ := hd
  exact G.from fun t q => XT.ishl X.at X.ex rfl (X.dec hd) rfl (hr ▸ q)
theorem g_ishr (X : Wk nw l Z EL own bytes maxL ret mnm R h0 B0 ws Q x T h B k n) {u v : Int32} (r : Int32) (hd : Dc bytes pc (.ishr) 1 pc') (hr : u >>> (v &&& 31) = r) (G : Go x (T.setTop (mkF x.m pc' Ls (.int r :: st)))) : Go x (T.setTop (mkF x.m pc Ls (.int v :: .int u :: st))) := by
  obtain ⟨hd, rfl⟩ := hd
  exact G.from fun t q => XT.ishr X.at X.ex rfl (X.dec hd) rfl (hr ▸ q)
theorem g_iushr (X : Wk nw l Z EL own bytes maxL ret mnm R h0 B0 ws Q x T h B k n) {u v : Int32} (r : Int32) (hd : Dc bytes pc (.iushr) 1 pc') (hr : XT.ushr u v = r) (G : Go x (T.setTop (mkF x.m pc' Ls (.int r :: st)))) : Go x (T.setTop (mkF x.m pc Ls (.int v :: .int u :: st))) := by
  obtain ⟨hd, rfl⟩ := hd
  exact G.from fun t q => XT.iushr X.at X.ex rfl (X.dec hd) rfl (hr ▸ q)
theorem g_idiv (X : Wk nw l Z EL own bytes maxL ret mnm R h0 B0 ws Q x T h B k n) {u v : Int32} (r : Int32) (hd : Dc bytes pc (.idiv) 1 pc') (h0 : v ≠ 0) (hr : u / v = r) (G : Go x (T.setTop (mkF x.m pc' Ls (.int r :: st)))) : Go x (T.setTop (mkF x.m pc Ls (.int v :: .int u :: st))) := by
  obtain ⟨hd, rfl⟩ := hd
  exact G.from fun t q => XS.idiv X.at X.ex rfl (X.dec hd) rfl h0 (hr ▸ q)
theorem g_irem (X : Wk nw l Z EL own bytes maxL ret mnm R h0 B0 ws Q x T h B k n) {u v : Int32} (r : Int32) (hd : Dc bytes pc (.irem) 1 pc') (h0 : v ≠ 0) (hr : u % v = r) (G : Go x (T.setTop (mkF x.m pc' Ls (.int r :: st)))) : Go x (T.setTop (mkF x.m pc Ls (.int v :: .int u :: st))) := by
  obtain ⟨hd, rfl⟩ := hd
  exact G.from fun t q => XS.irem X.at X.ex rfl (X.dec hd) rfl h0 (by rw [irem_eq_mod u v, hr]; exact q)
theorem g_ladd (X : Wk nw l Z EL own bytes maxL ret mnm R h0 B0 ws Q x T h B k n) {u v : Int64} (r : Int64) (hd : Dc bytes pc (.ladd) 1 pc') (hr : u + v = r) (G : Go x (T.setTop (mkF x.m pc' Ls (.long r :: st)))) : Go x (T.setTop (mkF x.m pc Ls (.long v :: .long u :: st))) := by
  obtain ⟨hd, rfl⟩ := hd
  exact G.from fun t q => XT.ladd X.at X.ex rfl (X.dec hd) rfl (hr ▸ q)
theorem g_lsub (X : Wk nw l Z EL own bytes maxL ret mnm R h0 B0 ws Q x T h B k n) {u v : Int64} (r : Int64) (hd : Dc bytes pc (.lsub) 1 pc') (hr : u - v = r) (G : Go x (T.setTop (mkF x.m pc' Ls (.long r :: st)))) : Go x (T.setTop (mkF x.m pc Ls (.long v :: .long u :: st))) := by
  obtain ⟨hd, rfl⟩ := hd
  exact G.from fun t q => XT.lsub X.at X.ex rfl (X.dec hd) rfl (hr ▸ q)
theorem g_lmul (X : Wk nw l Z EL own bytes maxL ret mnm R h0 B0 ws Q x T h B k n) {u v : Int64} (r : Int64) (hd : Dc bytes pc (.lmul) 1 pc') (hr : u * v = r) (G : Go x (T.setTop (mkF x.m pc' Ls (.long r :: st)))) : Go x (T.setTop (mkF x.m pc Ls (.long v :: .long u :: st))) := by
  obtain ⟨hd, rfl⟩ := hd
  exact G.from fun t q => XT.lmul X.at X.ex rfl (X.dec hd) rfl (hr ▸ q)
theorem g_land (X : Wk nw l Z EL own bytes maxL ret mnm R h0 B0 ws Q x T h B k n) {u v : Int64} (r : Int64) (hd : Dc bytes pc (.land) 1 pc') (hr : u &&& v = r) (G : Go x (T.setTop (mkF x.m pc' Ls (.long r :: st)))) : Go x (T.setTop (mkF x.m pc Ls (.long v :: .long u :: st))) := by
  obtain ⟨hd, rfl⟩ := hd
  exact G.from fun t q => XT.land X.at X.ex rfl (X.dec hd) rfl (hr ▸ q)
theorem g_lor (X : Wk nw l Z EL own bytes maxL ret mnm R h0 B0 ws Q x T h B k n) {u v : Int64} (r : Int64) (hd : Dc bytes pc (.lor) 1 pc') (hr : u ||| v = r) (G : Go x (T.setTop (mkF x.m pc' Ls (.long r :: st)))) : Go x (T.setTop (mkF x.m pc Ls (.long v :: .long u :: st))) := by
  obtain ⟨hd, rfl⟩ := hd
  exact G.from fun t q => XT.lor X.at X.ex rfl (X.dec hd) rfl (hr ▸ q)
theorem g_lxor (X : Wk nw l Z EL own bytes maxL ret mnm R h0 B0 ws Q x T h B k n) {u v : Int64} (r : Int64) (hd : Dc bytes pc (.lxor) 1 pc') (hr : u ^^^ v = r) (G : Go x (T.setTop (mkF x.m pc' Ls (.long r :: st)))) : Go x (T.setTop (mkF x.m pc Ls (.long v :: .long u :: st))) := by
  obtain ⟨hd, rfl⟩ := hd
  exact G.from fun t q => XT.lxor X.at X.ex rfl (X.dec hd) rfl (hr ▸ q)
theorem g_lshl (X : Wk nw l Z EL own bytes maxL ret mnm R h0 B0 ws Q x T h B k n) {u : Int64} {v : Int32} (r : Int64) (hd : Dc bytes pc (.lshl) 1 pc') (hr : u <<< (v.toInt64 &&& 63) = r) (G : Go x (T.setTop (mkF x.m pc' Ls (.long r :: st)))) : Go x (T.setTop (mkF x.m pc Ls (.int v :: .long u :: st))) := by
  obtain ⟨hd, rfl⟩ := hd
  exact G.from fun t q => XT.lshl X.at X.ex rfl (X.dec hd) rfl (hr ▸ q)
theorem g_lshr (X : Wk nw l Z EL own bytes maxL ret mnm R h0 B0 ws Q x T h B k n) {u : Int64} {v : Int32} (r : Int64) (hd : Dc bytes pc (.lshr) 1 pc') (hr : u >>> (v.toInt64 &&& 63) = r) (G : Go x (T.setTop (mkF x.m pc' Ls (.long r :: st)))) : Go x (T.setTop (mkF x.m pc Ls (.int v :: .long u :: st))) := by
  obtain ⟨hd, rfl⟩ := hd
  exact G.from fun t q => XT.lshr X.at X.ex rfl (X.dec hd) rfl (hr ▸ q)
theorem g_lushr (X : Wk nw l Z EL own bytes maxL ret mnm R h0 B0 ws Q x T h B k n) {u : Int64} {v : Int32} (r : Int64) (hd : Dc bytes pc (.lushr) 1 pc') (hr : XT.ushrL u v = r) (G : Go x (T.setTop (mkF x.m pc' Ls (.long r :: st)))) : Go x (T.setTop (mkF x.m pc Ls (.int v :: .long u :: st))) := by
  obtain ⟨hd, rfl⟩ := hd
  exact G.from fun t q => XT.lushr X.at X.ex rfl (X.dec hd) rfl (hr ▸ q)
theorem g_ineg (X : Wk nw l Z EL own bytes maxL ret mnm R h0 B0 ws Q x T h B k n) {u : Int32} (r : Int32) (hd : Dc bytes pc (.ineg) 1 pc') (hr : -u = r) (G : Go x (T.setTop (mkF x.m pc' Ls (.int r :: st)))) : Go x (T.setTop (mkF x.m pc Ls (.int u :: st))) := by
  obtain ⟨hd, rfl⟩ := hd
  exact G.from fun t q => XS.ineg X.at X.ex rfl (X.dec hd) rfl (hr ▸ q)
theorem g_i2l (X : Wk nw l Z EL own bytes maxL ret mnm R h0 B0 ws Q x T h B k n) {u : Int32} (r : Int64) (hd : Dc bytes pc (.i2l) 1 pc') (hr : u.toInt64 = r) (G : Go x (T.setTop (mkF x.m pc' Ls (.long r :: st)))) : Go x (T.setTop (mkF x.m pc Ls (.int u :: st))) := by
  obtain ⟨hd, rfl⟩ := hd
  exact G.from fun t q => XT.i2l X.at X.ex rfl (X.dec hd) rfl (hr ▸ q)
theorem g_l2i (X : Wk nw l Z EL own bytes maxL ret mnm R h0 B0 ws Q x T h B k n) {u : Int64} (r : Int32) (hd : Dc bytes pc (.l2i) 1 pc') (hr : u.toInt32 = r) (G : Go x (T.setTop (mkF x.m pc' Ls (.int r :: st)))) : Go x (T.setTop (mkF x.m pc Ls (.long u :: st))) := by
  obtain ⟨hd, rfl⟩ := hd
  exact G.from fun t q => XT.l2i X.at X.ex rfl (X.dec hd) rfl (hr ▸ q)
theorem g_i2b (X : Wk nw l Z EL own bytes maxL ret mnm R h0 B0 ws Q x T h B k n) {u : Int32} (r : Int32) (hd : Dc bytes pc (.i2b) 1 pc') (hr : u.toInt8.toInt32 = r) (G : Go x (T.setTop (mkF x.m pc' Ls (.int r :: st)))) : Go x (T.setTop (mkF x.m pc Ls (.int u :: st))) := by
  obtain ⟨hd, rfl⟩ := hd
  exact G.from fun t q => XT.i2b X.at X.ex rfl (X.dec hd) rfl (hr ▸ q)
theorem g_i2c (X : Wk nw l Z EL own bytes maxL ret mnm R h0 B0 ws Q x T h B k n) {u : Int32} (r : Int32) (hd : Dc bytes pc (.i2c) 1 pc') (hr : u.toUInt32.toUInt16.toUInt32.toInt32 = r) (G : Go x (T.setTop (mkF x.m pc' Ls (.int r :: st)))) : Go x (T.setTop (mkF x.m pc Ls (.int u :: st))) := by
  obtain ⟨hd, rfl⟩ := hd
  exact G.from fun t q => XT.i2c X.at X.ex rfl (X.dec hd) rfl (hr ▸ q)
theorem g_i2s (X : Wk nw l Z EL own bytes maxL ret mnm R h0 B0 ws Q x T h B k n) {u : Int32} (r : Int32) (hd : Dc bytes pc (.i2s) 1 pc') (hr : u.toInt16.toInt32 = r) (G : Go x (T.setTop (mkF x.m pc' Ls (.int r :: st)))) : Go x (T.setTop (mkF x.m pc Ls (.int u :: st))) := by
  obtain ⟨hd, rfl⟩ := hd
  exact G.from fun t q => XT.i2s X.at X.ex rfl (X.dec hd) rfl (hr ▸ q)
theorem g_lcmp (X : Wk nw l Z EL own bytes maxL ret mnm R h0 B0 ws Q x T h B k n) {u v : Int64} (r : Int32) (hd : Dc bytes pc (.lcmp) 1 pc') (hr : XT.cmpL u v = r) (G : Go x (T.setTop (mkF x.m pc' Ls (.int r :: st)))) : Go x (T.setTop (mkF x.m pc Ls (.long v :: .long u :: st))) := by
  obtain ⟨hd, rfl⟩ := hd
  exact G.from fun t q => XT.lcmp X.at X.ex rfl (X.dec hd) rfl (hr ▸ q)
theorem g_dup (X : Wk nw l Z EL own bytes maxL ret mnm R h0 B0 ws Q x T h B k n) {v : Value} (hd : Dc bytes pc (.dup) 1 pc') (hc : v.category = 1) (G : Go x (T.setTop (mkF x.m pc' Ls (v :: v :: st)))) : Go x (T.setTop (mkF x.m pc Ls (v :: st))) := by
  obtain ⟨hd, rfl⟩ := hd
  exact G.from fun t q => XS.dup X.at X.ex rfl (X.dec hd) rfl hc q
theorem g_pop (X : Wk nw l Z EL own bytes maxL ret mnm R h0 B0 ws Q x T h B k n) {v : Value} (hd : Dc bytes pc (.pop) 1 pc') (hc : v.category = 1) (G : Go x (T.setTop (mkF x.m pc' Ls st))) : Go x (T.setTop (mkF x.m pc Ls (v :: st))) := by
  obtain ⟨hd, rfl⟩ := hd
  exact G.from fun t q => XT.pop X.at X.ex rfl (X.dec hd) rfl hc q
theorem g_dup_x1 (X : Wk nw l Z EL own bytes maxL ret mnm R h0 B0 ws Q x T h B k n) {u v : Value} (hd : Dc bytes pc (.dup_x1) 1 pc') (hc : u.category = 1) (hc' : v.category = 1) (G : Go x (T.setTop (mkF x.m pc' Ls (u :: v :: u :: st)))) : Go x (T.setTop (mkF x.m pc Ls (u :: v :: st))) := by
  obtain ⟨hd, rfl⟩ := hd
  exact G.from fun t q => XT.dupX1 X.at X.ex rfl (X.dec hd) rfl hc hc' q
theorem g_dup2 (X : Wk nw l Z EL own bytes maxL ret mnm R h0 B0 ws Q x T h B k n) {u v : Value} (hd : Dc bytes pc (.dup2) 1 pc') (hc : u.category = 1) (hc' : v.category = 1) (G : Go x (T.setTop (mkF x.m pc' Ls (u :: v :: u :: v :: st)))) : Go x (T.setTop (mkF x.m pc Ls (u :: v :: st))) := by
  obtain ⟨hd, rfl⟩ := hd
  exact G.from fun t q => XT.dup2 X.at X.ex rfl (X.dec hd) rfl hc hc' q
theorem g_dup2L (X : Wk nw l Z EL own bytes maxL ret mnm R h0 B0 ws Q x T h B k n) {u : Int64} (hd : Dc bytes pc (.dup2) 1 pc')  (G : Go x (T.setTop (mkF x.m pc' Ls (.long u :: .long u :: st)))) : Go x (T.setTop (mkF x.m pc Ls (.long u :: st))) := by
  obtain ⟨hd, rfl⟩ := hd
  exact G.from fun t q => XT.dup2L X.at X.ex rfl (X.dec hd) rfl q
theorem g_goto (X : Wk nw l Z EL own bytes maxL ret mnm R h0 B0 ws Q x T h B k n) {o : Int} {pc'' : Nat}  (hd : Db bytes pc (.goto o) o pc' pc'')  (G : Go x (T.setTop (mkF x.m pc'' Ls st))) : Go x (T.setTop (mkF x.m pc Ls st)) := by
  obtain ⟨hd, rfl, ho, rfl⟩ := hd
  exact G.from fun t q => XS.goto X.at X.ex rfl rfl (X.dec hd) ho rfl q
theorem g_ifT (X : Wk nw l Z EL own bytes maxL ret mnm R h0 B0 ws Q x T h B k n) {o : Int} {pc'' : Nat} {cd : ClassFile.Cond} {v : Int32} (hd : Db bytes pc (.ifCond cd o) o pc' pc'') (hc : ifCond.holds cd v = true) (G : Go x (T.setTop (mkF x.m pc'' Ls st))) : Go x (T.setTop (mkF x.m pc Ls (.int v :: st))) := by
  obtain ⟨hd, rfl, ho, rfl⟩ := hd
  exact G.from fun t q => XS.ifYes X.at X.ex rfl rfl (X.dec hd) rfl hc ho rfl q
theorem g_ifF (X : Wk nw l Z EL own bytes maxL ret mnm R h0 B0 ws Q x T h B k n) {o : Int} {pc'' : Nat} {cd : ClassFile.Cond} {v : Int32} (hd : Db bytes pc (.ifCond cd o) o pc' pc'') (hc : ifCond.holds cd v = false) (G : Go x (T.setTop (mkF x.m pc' Ls st))) : Go x (T.setTop (mkF x.m pc Ls (.int v :: st))) := by
  obtain ⟨hd, rfl, ho, rfl⟩ := hd
  exact G.from fun t q => XS.ifNo X.at X.ex rfl (X.dec hd) rfl hc q
theorem g_icmpT (X : Wk nw l Z EL own bytes maxL ret mnm R h0 B0 ws Q x T h B k n) {o : Int} {pc'' : Nat} {cd : ClassFile.Cond} {u v : Int32} (hd : Db bytes pc (.if_icmp cd o) o pc' pc'') (hc : if_icmp.holds cd u v = true) (G : Go x (T.setTop (mkF x.m pc'' Ls st))) : Go x (T.setTop (mkF x.m pc Ls (.int v :: .int u :: st))) := by
  obtain ⟨hd, rfl, ho, rfl⟩ := hd
  exact G.from fun t q => XS.icmpYes X.at X.ex rfl rfl (X.dec hd) rfl hc ho rfl q
theorem g_icmpF (X : Wk nw l Z EL own bytes maxL ret mnm R h0 B0 ws Q x T h B k n) {o : Int} {pc'' : Nat} {cd : ClassFile.Cond} {u v : Int32} (hd : Db bytes pc (.if_icmp cd o) o pc' pc'') (hc : if_icmp.holds cd u v = false) (G : Go x (T.setTop (mkF x.m pc' Ls st))) : Go x (T.setTop (mkF x.m pc Ls (.int v :: .int u :: st))) := by
  obtain ⟨hd, rfl, ho, rfl⟩ := hd
  exact G.from fun t q => XS.icmpNo X.at X.ex rfl (X.dec hd) rfl hc q
theorem g_acmpT (X : Wk nw l Z EL own bytes maxL ret mnm R h0 B0 ws Q x T h B k n) {o : Int} {pc'' : Nat} {cd : ClassFile.ACond} {u v : Value} (hd : Db bytes pc (.if_acmp cd o) o pc' pc'') (h1 : u.isRef = true) (h2 : v.isRef = true) (hc : XT.acmp cd u v = true) (G : Go x (T.setTop (mkF x.m pc'' Ls st))) : Go x (T.setTop (mkF x.m pc Ls (v :: u :: st))) := by
  obtain ⟨hd, rfl, ho, rfl⟩ := hd
  exact G.from fun t q => XT.acmpYes X.at X.ex rfl rfl (X.dec hd) rfl h1 h2 hc ho rfl q
theorem g_acmpF (X : Wk nw l Z EL own bytes maxL ret mnm R h0 B0 ws Q x T h B k n) {o : Int} {pc'' : Nat} {cd : ClassFile.ACond} {u v : Value} (hd : Db bytes pc (.if_acmp cd o) o pc' pc'') (h1 : u.isRef = true) (h2 : v.isRef = true) (hc : XT.acmp cd u v = false) (G : Go x (T.setTop (mkF x.m pc' Ls st))) : Go x (T.setTop (mkF x.m pc Ls (v :: u :: st))) := by
  obtain ⟨hd, rfl, ho, rfl⟩ := hd
  exact G.from fun t q => XT.acmpNo X.at X.ex rfl (X.dec hd) rfl h1 h2 hc q
theorem g_ifnullT (X : Wk nw l Z EL own bytes maxL ret mnm R h0 B0 ws Q x T h B k n) {o : Int} {pc'' : Nat}  (hd : Db bytes pc (.ifnull o) o pc' pc'')  (G : Go x (T.setTop (mkF x.m pc'' Ls st))) : Go x (T.setTop (mkF x.m pc Ls (.null :: st))) := by
  obtain ⟨hd, rfl, ho, rfl⟩ := hd
  exact G.from fun t q => XS.ifnullYes X.at X.ex rfl rfl (X.dec hd) rfl ho rfl q
theorem g_ifnullF (X : Wk nw l Z EL own bytes maxL ret mnm R h0 B0 ws Q x T h B k n) {o : Int} {pc'' : Nat} {a : Addr} (hd : Db bytes pc (.ifnull o) o pc' pc'')  (G : Go x (T.setTop (mkF x.m pc' Ls st))) : Go x (T.setTop (mkF x.m pc Ls (.ref a :: st))) := by
  obtain ⟨hd, rfl, ho, rfl⟩ := hd
  exact G.from fun t q => XS.ifnullNo X.at X.ex rfl (X.dec hd) rfl q
theorem g_ifnonnullT (X : Wk nw l Z EL own bytes maxL ret mnm R h0 B0 ws Q x T h B k n) {o : Int} {pc'' : Nat} {a : Addr} (hd : Db bytes pc (.ifnonnull o) o pc' pc'')  (G : Go x (T.setTop (mkF x.m pc'' Ls st))) : Go x (T.setTop (mkF x.m pc Ls (.ref a :: st))) := by
  obtain ⟨hd, rfl, ho, rfl⟩ := hd
  exact G.from fun t q => XT.ifnonnullYes X.at X.ex rfl rfl (X.dec hd) rfl ho rfl q
theorem g_ifnonnullF (X : Wk nw l Z EL own bytes maxL ret mnm R h0 B0 ws Q x T h B k n) {o : Int} {pc'' : Nat}  (hd : Db bytes pc (.ifnonnull o) o pc' pc'')  (G : Go x (T.setTop (mkF x.m pc' Ls st))) : Go x (T.setTop (mkF x.m pc Ls (.null :: st))) := by
  obtain ⟨hd, rfl, ho, rfl⟩ := hd
  exact G.from fun t q => XT.ifnonnullNo X.at X.ex rfl (X.dec hd) rfl q
end Kit
/-! own kit, part 3: fields, statics, objects, arrays -/
/-- the array at a holds just these values -/
def Ay (Z : State) (h : Heap) (a : Addr) (ty : FieldType) (vs : List Value) : Prop :=
  ∃ c : Cell, Arr Z h a c ty ∧ c.slots.toList = vs ∧ vs.length < 2 ^ 31 ∧ ∀ v ∈ vs, fits ty v = true
section Ay
variable {Z : State} {h h' : Heap} {a b : Addr} {ty : FieldType} {vs : List Value} {ws : List Addr}
theorem Ay.lt (A : Ay Z h a ty vs) : @LT.lt Nat _ a h.size := by obtain ⟨c, A, -⟩ := A; exact A.lt
theorem Ay.len (A : Ay Z h a ty vs) : vs.length < 2 ^ 31 := by obtain ⟨c, A, -, l, -⟩ := A; exact l
theorem Ay.fit (A : Ay Z h a ty vs) : ∀ v ∈ vs, fits ty v = true := by obtain ⟨c, A, -, -, f⟩ := A; exact f
theorem Ay.keep (A : Ay Z h a ty vs) (K : Keep h h' ws) (q : a ∉ ws) : Ay Z h' a ty vs := by obtain ⟨c, A, r⟩ := A; exact ⟨c, ⟨K.2.1 a c A.1 q, A.2⟩, r⟩
theorem Ay.ext (A : Ay Z h a ty vs) (E : Ext h h') : Ay Z h' a ty vs := by obtain ⟨c, A, r⟩ := A; exact ⟨c, A.ext E, r⟩
theorem Ay.arv (A : Ay Z h a ty vs) (d : Value) : ∃ k, Arv Z h a k ty vs.length.toInt32 vs d := by
  obtain ⟨c, A, e, l, f⟩ := A
  have hsz : c.slots.size = vs.length := by rw [← e]; simp
  have hn : (vs.length.toInt32).toNatClampNeg = vs.length := by
    have := len_toInt l
    rw [Int32.toNatClampNeg, this]; rfl
  refine ⟨c.cls, c, A, rfl, by rw [hn, hsz], ?_, fun i hi => ?_, fun i hi => ?_⟩
  · have := len_toInt l
    rw [Int32.lt_iff_toInt_lt, this, Int32.toInt_zero]; omega
  · have hi' : i < vs.length := by omega
    subst e
    simp only [Array.length_toList] at hi'
    simp [List.getD, hi]
  · have hi' : i < vs.length := by omega
    rw [List.getD_eq_getElem?_getD, List.getElem?_eq_getElem hi', Option.getD_some]
    exact f _ (List.getElem_mem _)
theorem Ay.of_arv {k : ClassId} {z : Int32} {d : Value} (A : Arv Z h a k ty z vs d) (hl : z.toNatClampNeg = vs.length) : Ay Z h a ty vs := by
  obtain ⟨c, A, -, s, nn, H, G⟩ := A
  have hsz : c.slots.size = vs.length := by rw [s, hl]
  refine ⟨c, A, ?_, ?_, ?_⟩
  · refine List.ext_getElem (by simpa using hsz) fun i h1 h2 => ?_
    have hi : i < c.slots.size := by omega
    have q := H i hi
    rw [Array.getElem?_eq_getElem hi, List.getD_eq_getElem?_getD, List.getElem?_eq_getElem h2, Option.getD_some] at q
    simpa using q
  · rw [← hl]
    have := z.toInt_lt
    rw [Int32.toNatClampNeg]
    omega
  · intro v hv
    obtain ⟨i, hi, rfl⟩ := List.mem_iff_getElem.mp hv
    have q := G i (by omega)
    rw [List.getD_eq_getElem?_getD, List.getElem?_eq_getElem hi, Option.getD_some] at q
    exact q
theorem i32_nat {i : Nat} (h : i < 2 ^ 31) : (Int32.ofNat i).toNatClampNeg = i ∧ ¬ Int32.ofNat i < 0 := by
  have e : (Int32.ofNat i).toInt = i := Int32.toInt_ofNat_small h
  refine ⟨by rw [Int32.toNatClampNeg, e]; rfl, ?_⟩
  rw [Int32.lt_iff_toInt_lt, e, Int32.toInt_zero]; omega
theorem Ay.at (A : Ay Z h a ty vs) {i : Nat} {v : Value} (hi : vs[i]? = some v) : ∃ c : Cell, Arr Z h a c ty ∧ ¬ (Int32.ofNat i < 0 ∨ c.slots.size ≤ (Int32.ofNat i).toNatClampNeg) ∧ c.slots[(Int32.ofNat i).toNatClampNeg]? = some v := by
  obtain ⟨c, A, e, l, -⟩ := A
  have hlt : i < vs.length := (List.getElem?_eq_some_iff.mp hi).1
  obtain ⟨q1, q2⟩ := i32_nat (Nat.lt_trans hlt l)
  refine ⟨c, A, ?_, ?_⟩
  · rw [q1]; rintro (r | r)
    · exact q2 r
    · rw [← e] at hlt; simp at hlt; omega
  · rw [q1, ← Array.getElem?_toList, e]; exact hi
theorem Ay.set (A : Ay Z h a ty vs) {i : Nat} (hi : i < vs.length) {v : Value} (hv : fits ty v = true) : ∃ c : Cell, Arr Z h a c ty ∧ ¬ (Int32.ofNat i < 0 ∨ c.slots.size ≤ (Int32.ofNat i).toNatClampNeg) ∧ ∀ h', Wr h h' a (Int32.ofNat i).toNatClampNeg v → Ay Z h' a ty (vs.set i v) := by
  obtain ⟨c, A, e, l, f⟩ := A
  obtain ⟨q1, q2⟩ := i32_nat (Nat.lt_trans hi l)
  refine ⟨c, A, ?_, fun h' W => ⟨_, A.same W, ?_, by simpa using l, ?_⟩⟩
  · rw [q1]; rintro (r | r)
    · exact q2 r
    · rw [← e] at hi; simp at hi; omega
  · rw [q1]; simp [Cell.setSlot, e]
  · intro w hw
    rcases List.mem_or_eq_of_mem_set hw with r | r
    · exact f w r
    · rw [r]; exact hv
end Ay
section Heap
variable {nw : Bool} {l : Launch} {Z : State} {EL : List (String × Nat)} {own : String} {bytes : ByteArray} {maxL : Nat} {ret : Option FieldType} {mnm : String} {R : Room} {h0 : Heap} {B0 : BP} {ws : List Addr} {Q : QT} {x : Cx} {T : State} {h : Heap} {B : BP} {k n : Nat} {a0 : Array Value} {pc pc' : Nat} {Ls : Array Slot} {st : List Value}
theorem g_getfield (X : Wk nw l Z EL own bytes maxL ret mnm R h0 B0 ws Q x T h B k n) {R0 O nm d : String} {idx : Nat} (hd : Dc bytes pc (.getfield idx) 3 pc') (w : (Cond.fieldLink own idx R0 nm d).before a0 Z = true) (via : Via Z R0 O nm d) {a : Addr} {v : Value} (F : Fld Z h a O nm d v)
    (K : ∀ T', Wk nw l Z EL own bytes maxL ret mnm R h0 B0 ws Q x T' h B k n → Go x (T'.setTop (mkF x.m pc' Ls (v :: st)))) : Go x (T.setTop (mkF x.m pc Ls (.ref a :: st))) := by
  obtain ⟨S, vm0, k0, locs, X, eT, hS, hk, hZ, hown, r⟩ := X
  obtain ⟨hd, rfl⟩ := hd
  obtain ⟨T', X', e', stp⟩ := getF X S.1 hZ hown (host := "") (Or.inl w) via eT F (g := mkF x.m pc Ls (.ref a :: st)) rfl rfl (S.2.1 ▸ hd)
  exact (K T' ⟨S, vm0, k0, locs, X', e', hS, hk, hZ, hown, r⟩).from stp
theorem g_getstatic (X : Wk nw l Z EL own bytes maxL ret mnm R h0 B0 ws Q x T h B k n) {R0 O nm d : String} {idx : Nat} (hd : Dc bytes pc (.getstatic idx) 3 pc') (w : (Cond.fieldLink own idx R0 nm d).before a0 Z = true) (via : Via Z R0 O nm d) {v : Value} (F : Sta Z Z.heap O nm d v)
    (K : ∀ T', Wk nw l Z EL own bytes maxL ret mnm R h0 B0 ws Q x T' h B k n → Go x (T'.setTop (mkF x.m pc' Ls (v :: st)))) : Go x (T.setTop (mkF x.m pc Ls st)) := by
  have F' := F.ext X.old
  obtain ⟨S, vm0, k0, locs, X, eT, hS, hk, hZ, hown, r⟩ := X
  obtain ⟨hd, rfl⟩ := hd
  obtain ⟨T', X', e', stp⟩ := getS (host := "") X S.1 hZ hown w via eT F' (g := mkF x.m pc Ls st) rfl (S.2.1 ▸ hd)
  exact (K T' ⟨S, vm0, k0, locs, X', e', hS, hk, hZ, hown, r⟩).from stp
/-- a step that writes one place -/
theorem Wk.wrote {T' : State} {h' : Heap} {vm0 : Vm} {k0 : Nat} {locs : List Loc} {a : Addr} {sl : Nat} {v : Value} (W : Wr h h' a sl v) (hB : ¬ B a) (hz : Z.heap.size ≤ a) (hw : a ∈ ws ∨ h0.size ≤ a)
    (S : x.p.tables.exec = Jvm.exec ∧ x.c.code = bytes ∧ x.c.maxLocals = maxL ∧ x.meth.sig.returnType = ret ∧ x.meth.locks = false ∧ x.meth.name = mnm ∧ x.F = ConQ nw Z EL R h0 B0 ws Q x.s)
    (X' : Stand x.p l x.e R (x.s.setVm vm0) x.m x.args x.below x.meth x.c T' (locs ++ [⟨a, sl⟩]) k n) (e' : T'.heap = h') (hS : x.s.Since vm0 k0) (hk : k0 ≤ h.size) (hZ : Z.Warmed39 vm0) (hown : vm0.findClass own = some x.m.cls)
    (hI : k_inv Z EL B vm0 h) (hFr : Fr Z.heap.size locs) (hK : Keep h0 h ws) (hM : k_more B0 B h0.size) (hN : nw = true → x.s.WarmedH vm0) : Wk nw l Z EL own bytes maxL ret mnm R h0 B0 ws Q x T' h' B k n :=
  ⟨S, vm0, k0, _, X', e', hS, by rw [W.size]; exact hk, hZ, hown, hI.wr W hB hz, Fr.snoc X' hFr hz, hK.wr W hw, hM, hN⟩
theorem g_putfield (X : Wk nw l Z EL own bytes maxL ret mnm R h0 B0 ws Q x T h B k n) {R0 O nm d C : String} {idx kk : Nat} {ty : FieldType} (hd : Dc bytes pc (.putfield idx) 3 pc') (w : (Cond.fieldLink own idx R0 nm d).before a0 Z = true) (via : Via Z R0 O nm d) {a : Addr} {v v' old : Value} (F : Fld Z h a O nm d old) (E : Exa Z h a C)
    (L : (Cond.lays C O nm d).before a0 Z = true ∨ ((Cond.laysFinal C O nm d).before a0 Z = true ∧ own = O ∧ mnm = "<init>")) (wi : (Cond.instantiable C kk).before a0 Z = true) (hty : parseFieldDescriptor d = some ty) (hn : narrow ty v = v') (hf : fits ty v' = true)
    (hB : ¬ B a) (hz : Z.heap.size ≤ a) (hw : a ∈ ws ∨ h0.size ≤ a)
    (K : ∀ T' h', Wk nw l Z EL own bytes maxL ret mnm R h0 B0 ws Q x T' h' B k n → Wr h h' a (RoadKit.slotOf Z O nm d) v' → Go x (T'.setTop (mkF x.m pc' Ls st))) : Go x (T.setTop (mkF x.m pc Ls (v :: .ref a :: st))) := by
  obtain ⟨S, vm0, k0, locs, X, eT, hS, hk, hZ, hown, hI, hFr, hK, hM, hN⟩ := X
  obtain ⟨hd, rfl⟩ := hd
  obtain ⟨T', h', X', e', W, stp⟩ := putFN X S.1 hZ hown w via eT F E (L.imp id fun q => ⟨q.1, q.2.1, S.2.2.2.2.2.1.trans q.2.2⟩) wi hty hn hf (g := mkF x.m pc Ls (v :: .ref a :: st)) rfl rfl (S.2.1 ▸ hd)
  exact (K T' h' (Wk.wrote W hB hz hw S X' e' hS hk hZ hown hI hFr hK hM hN) W).from stp
theorem g_new (X : Wk nw l Z EL own bytes maxL ret mnm R h0 B0 ws Q x T h B k n) {C : String} {idx nf : Nat} (hd : Dc bytes pc (.new idx) 3 pc') (w : (Cond.classLink own idx C).before a0 Z = true) (wi : (Cond.instantiable C nf).before a0 Z = true) (wz : (Cond.initialized C).before a0 Z = true) (k' n' : Nat) (ek : k + 1 = k') (en : n + nf = n') (hc : k' ≤ R.cells) (hs : n' ≤ R.slots)
    (K : ∀ T' h' a, Wk nw l Z EL own bytes maxL ret mnm R h0 B0 ws Q x T' h' B k' n' → Ext h h' → a = h.size → ¬ B a → Exa Z h' a C → (∀ {O nm d : String} {ty : FieldType}, Laid Z a0 C O nm d → parseFieldDescriptor d = some ty → Fld Z h' a O nm d (defaultValue ty)) → Go x (T'.setTop (mkF x.m pc' Ls (.ref a :: st)))) : Go x (T.setTop (mkF x.m pc Ls st)) := by
  have hB := X.fresh
  subst ek en
  obtain ⟨S, vm0, k0, locs, X, eT, hS, hk, hZ, hown, hI, hFr, hK, hM, hN⟩ := X
  obtain ⟨hd, rfl⟩ := hd
  obtain ⟨T', h', X', e', E, A, D, -, stp⟩ := newO X S.1 hZ hown w wi wz eT (g := mkF x.m pc Ls st) rfl (S.2.1 ▸ hd) hc hs
  exact (K T' h' _ ⟨S, vm0, k0, locs, X', e', hS, Nat.le_trans hk E.1, hZ, hown, hI.ext E, hFr, hK.ext E, hM, hN⟩ E rfl hB A D).from stp
theorem g_newarray (X : Wk nw l Z EL own bytes maxL ret mnm R h0 B0 ws Q x T h B k n) {aty : ArrayType} {ty : FieldType} (hd : Dc bytes pc (.newarray aty) 2 pc') (hty : newarray.typeOf aty = ty) (w : (Cond.arrayClass ty).before a0 Z = true) {j : Int32} (len cap : Nat) (hj : j = Int32.ofNat len) (hcap : len ≤ cap) (hbig : cap * 8 ≤ 536870912) (k' n' : Nat) (ek : k + 1 = k') (en : n + cap = n') (hc : k' ≤ R.cells) (hs : n' ≤ R.slots)
    (K : ∀ T' h' a, Wk nw l Z EL own bytes maxL ret mnm R h0 B0 ws Q x T' h' B k' n' → Ext h h' → a = h.size → ¬ B a → Ay Z h' a ty (List.replicate len (defaultValue ty)) → Go x (T'.setTop (mkF x.m pc' Ls (.ref a :: st)))) : Go x (T.setTop (mkF x.m pc Ls (.int j :: st))) := by
  have hB := X.fresh
  subst hty hj ek en
  obtain ⟨S, vm0, k0, locs, X, eT, hS, hk, hZ, hown, hI, hFr, hK, hM, hN⟩ := X
  obtain ⟨hd, rfl⟩ := hd
  have hlt : len < 2 ^ 31 := by omega
  obtain ⟨q1, q2⟩ := i32_nat hlt
  obtain ⟨T', h', cA, X', e', E, A, stp⟩ := newP X S.1 hZ w eT (g := mkF x.m pc Ls (.int (Int32.ofNat len) :: st)) rfl (S.2.1 ▸ hd) rfl q2 (cap := cap) (by rw [q1]; exact hcap) hbig hc hs
  refine (K T' h' _ ⟨S, vm0, k0, locs, X', e', hS, Nat.le_trans hk E.1, hZ, hown, hI.ext E, hFr, hK.ext E, hM, hN⟩ E rfl hB ⟨_, A, ?_, by simpa using hlt, ?_⟩).from stp
  · simp [newA, q1]
  · intro v hv
    rw [(List.mem_replicate.mp hv).2]
    cases aty <;> rfl
theorem g_arraylength (X : Wk nw l Z EL own bytes maxL ret mnm R h0 B0 ws Q x T h B k n) (hd : Dc bytes pc .arraylength 1 pc') {a : Addr} {ty : FieldType} {vs : List Value} (A : Ay Z h a ty vs) (r : Int32) (hr : Int32.ofNat vs.length = r)
    (G : Go x (T.setTop (mkF x.m pc' Ls (.int r :: st)))) : Go x (T.setTop (mkF x.m pc Ls (.ref a :: st))) := by
  subst hr
  obtain ⟨S, vm0, k0, locs, X, eT, hS, hk, hZ, hown, hI, hFr, hK, hM, hN⟩ := X
  obtain ⟨hd, rfl⟩ := hd
  obtain ⟨c, A, e, -, -⟩ := A
  refine G.from fun t q => X.arraylength S.1 (cell := c) (by rw [eT]; exact A.1) (State.isArrayOf_alike hZ.alike A.2.1) (g := mkF x.m pc Ls (.ref a :: st)) rfl rfl (S.2.1 ▸ hd) t ?_
  have hsz : c.slots.size = vs.length := by rw [← e]; simp
  rw [hsz]; exact q
theorem g_caload (X : Wk nw l Z EL own bytes maxL ret mnm R h0 B0 ws Q x T h B k n) (hd : Dc bytes pc .caload 1 pc') {a : Addr} {vs : List Value} (A : Ay Z h a .char vs) {j : Int32} (i : Nat) (hj : j = Int32.ofNat i) {v : Value} (hi : vs[i]? = some v)
    (G : Go x (T.setTop (mkF x.m pc' Ls (v :: st)))) : Go x (T.setTop (mkF x.m pc Ls (.int j :: .ref a :: st))) := by
  subst hj
  obtain ⟨S, vm0, k0, locs, X, eT, hS, hk, hZ, hown, hI, hFr, hK, hM, hN⟩ := X
  obtain ⟨hd, rfl⟩ := hd
  obtain ⟨c, A, h1, h2⟩ := A.at hi
  exact G.from fun t q => X.caload S.1 (by rw [eT]; exact A.1) (State.isArrayOf_alike hZ.alike A.2.1) A.2.2 h1 h2 (g := mkF x.m pc Ls (.int (Int32.ofNat i) :: .ref a :: st)) rfl rfl (S.2.1 ▸ hd) t q
theorem g_iaload (X : Wk nw l Z EL own bytes maxL ret mnm R h0 B0 ws Q x T h B k n) (hd : Dc bytes pc .iaload 1 pc') {a : Addr} {vs : List Value} (A : Ay Z h a .int vs) {j : Int32} (i : Nat) (hj : j = Int32.ofNat i) {v : Value} (hi : vs[i]? = some v)
    (G : Go x (T.setTop (mkF x.m pc' Ls (v :: st)))) : Go x (T.setTop (mkF x.m pc Ls (.int j :: .ref a :: st))) := by
  subst hj
  obtain ⟨S, vm0, k0, locs, X, eT, hS, hk, hZ, hown, hI, hFr, hK, hM, hN⟩ := X
  obtain ⟨hd, rfl⟩ := hd
  obtain ⟨c, A, h1, h2⟩ := A.at hi
  exact G.from fun t q => X.iaload S.1 (by rw [eT]; exact A.1) (State.isArrayOf_alike hZ.alike A.2.1) A.2.2 h1 h2 (g := mkF x.m pc Ls (.int (Int32.ofNat i) :: .ref a :: st)) rfl rfl (S.2.1 ▸ hd) t q
theorem g_laload (X : Wk nw l Z EL own bytes maxL ret mnm R h0 B0 ws Q x T h B k n) (hd : Dc bytes pc .laload 1 pc') {a : Addr} {vs : List Value} (A : Ay Z h a .long vs) {j : Int32} (i : Nat) (hj : j = Int32.ofNat i) {v : Value} (hi : vs[i]? = some v)
    (G : Go x (T.setTop (mkF x.m pc' Ls (v :: st)))) : Go x (T.setTop (mkF x.m pc Ls (.int j :: .ref a :: st))) := by
  subst hj
  obtain ⟨S, vm0, k0, locs, X, eT, hS, hk, hZ, hown, hI, hFr, hK, hM, hN⟩ := X
  obtain ⟨hd, rfl⟩ := hd
  obtain ⟨c, A, h1, h2⟩ := A.at hi
  exact G.from fun t q => X.laload S.1 (by rw [eT]; exact A.1) (State.isArrayOf_alike hZ.alike A.2.1) A.2.2 h1 h2 (g := mkF x.m pc Ls (.int (Int32.ofNat i) :: .ref a :: st)) rfl rfl (S.2.1 ▸ hd) t q
theorem g_baload (X : Wk nw l Z EL own bytes maxL ret mnm R h0 B0 ws Q x T h B k n) (hd : Dc bytes pc .baload 1 pc') {a : Addr} {vs : List Value} (A : Ay Z h a .byte vs) {j : Int32} (i : Nat) (hj : j = Int32.ofNat i) {v : Value} (hi : vs[i]? = some v)
    (G : Go x (T.setTop (mkF x.m pc' Ls (v :: st)))) : Go x (T.setTop (mkF x.m pc Ls (.int j :: .ref a :: st))) := by
  subst hj
  obtain ⟨S, vm0, k0, locs, X, eT, hS, hk, hZ, hown, hI, hFr, hK, hM, hN⟩ := X
  obtain ⟨hd, rfl⟩ := hd
  obtain ⟨c, A, h1, h2⟩ := A.at hi
  exact G.from fun t q => X.baloadBytes S.1 (by rw [eT]; exact A.1) (State.isArrayOf_alike hZ.alike A.2.1) A.2.2 h1 h2 (g := mkF x.m pc Ls (.int (Int32.ofNat i) :: .ref a :: st)) rfl rfl (S.2.1 ▸ hd) t q
theorem g_aaload (X : Wk nw l Z EL own bytes maxL ret mnm R h0 B0 ws Q x T h B k n) (hd : Dc bytes pc .aaload 1 pc') {a : Addr} {ty : FieldType} (hty : ty.isReference = true) {vs : List Value} (A : Ay Z h a ty vs) {j : Int32} (i : Nat) (hj : j = Int32.ofNat i) {v : Value} (hi : vs[i]? = some v)
    (G : Go x (T.setTop (mkF x.m pc' Ls (v :: st)))) : Go x (T.setTop (mkF x.m pc Ls (.int j :: .ref a :: st))) := by
  subst hj
  obtain ⟨S, vm0, k0, locs, X, eT, hS, hk, hZ, hown, hI, hFr, hK, hM, hN⟩ := X
  obtain ⟨hd, rfl⟩ := hd
  obtain ⟨c, A, h1, h2⟩ := A.at hi
  exact G.from fun t q => X.aaload S.1 (by rw [eT]; exact A.1) (State.isArrayOf_alike hZ.alike A.2.1) hty A.2.2 h1 h2 (g := mkF x.m pc Ls (.int (Int32.ofNat i) :: .ref a :: st)) rfl rfl (S.2.1 ▸ hd) t q
theorem g_iastore (X : Wk nw l Z EL own bytes maxL ret mnm R h0 B0 ws Q x T h B k n) (hd : Dc bytes pc .iastore 1 pc') {a : Addr} {vs : List Value} (A : Ay Z h a .int vs) {j : Int32} (i : Nat) (hj : j = Int32.ofNat i) {v : Int32} (v' : Int32) (hv : v = v') (hi : i < vs.length) (hB : ¬ B a) (hz : Z.heap.size ≤ a) (hw : a ∈ ws ∨ h0.size ≤ a)
    (K : ∀ T' h', Wk nw l Z EL own bytes maxL ret mnm R h0 B0 ws Q x T' h' B k n → Keep h h' [a] → Ay Z h' a .int (vs.set i (.int v')) → Go x (T'.setTop (mkF x.m pc' Ls st))) : Go x (T.setTop (mkF x.m pc Ls (.int v :: .int j :: .ref a :: st))) := by
  subst hj hv
  obtain ⟨S, vm0, k0, locs, X, eT, hS, hk, hZ, hown, hI, hFr, hK, hM, hN⟩ := X
  obtain ⟨hd, rfl⟩ := hd
  obtain ⟨c, A, h1, h2⟩ := A.set hi (v := .int v) rfl
  obtain ⟨T', h', X', e', Wr', stp⟩ := stI X S.1 hZ eT A h1 (g := mkF x.m pc Ls (.int v :: .int (Int32.ofNat i) :: .ref a :: st)) rfl rfl (S.2.1 ▸ hd)
  exact (K T' h' (Wk.wrote Wr' hB hz hw S X' e' hS hk hZ hown hI hFr hK hM hN) (Keep.of_wr Wr') (h2 h' Wr')).from stp
theorem g_castore (X : Wk nw l Z EL own bytes maxL ret mnm R h0 B0 ws Q x T h B k n) (hd : Dc bytes pc .castore 1 pc') {a : Addr} {vs : List Value} (A : Ay Z h a .char vs) {j : Int32} (i : Nat) (hj : j = Int32.ofNat i) {v : Int32} (v' : Int32) (hv : (RoadKit.nar .char v) = v') (hi : i < vs.length) (hB : ¬ B a) (hz : Z.heap.size ≤ a) (hw : a ∈ ws ∨ h0.size ≤ a)
    (K : ∀ T' h', Wk nw l Z EL own bytes maxL ret mnm R h0 B0 ws Q x T' h' B k n → Keep h h' [a] → Ay Z h' a .char (vs.set i (.int v')) → Go x (T'.setTop (mkF x.m pc' Ls st))) : Go x (T.setTop (mkF x.m pc Ls (.int v :: .int j :: .ref a :: st))) := by
  subst hj hv
  obtain ⟨S, vm0, k0, locs, X, eT, hS, hk, hZ, hown, hI, hFr, hK, hM, hN⟩ := X
  obtain ⟨hd, rfl⟩ := hd
  obtain ⟨c, A, h1, h2⟩ := A.set hi (v := .int (RoadKit.nar .char v)) (fits_nar_char v)
  obtain ⟨T', h', X', e', Wr', stp⟩ := stC X S.1 hZ eT A h1 (g := mkF x.m pc Ls (.int v :: .int (Int32.ofNat i) :: .ref a :: st)) rfl rfl (S.2.1 ▸ hd)
  exact (K T' h' (Wk.wrote Wr' hB hz hw S X' e' hS hk hZ hown hI hFr hK hM hN) (Keep.of_wr Wr') (h2 h' Wr')).from stp
theorem g_bastore (X : Wk nw l Z EL own bytes maxL ret mnm R h0 B0 ws Q x T h B k n) (hd : Dc bytes pc .bastore 1 pc') {a : Addr} {vs : List Value} (A : Ay Z h a .byte vs) {j : Int32} (i : Nat) (hj : j = Int32.ofNat i) {v : Int32} (v' : Int32) (hv : (RoadKit.nar .byte v) = v') (hi : i < vs.length) (hB : ¬ B a) (hz : Z.heap.size ≤ a) (hw : a ∈ ws ∨ h0.size ≤ a)
    (K : ∀ T' h', Wk nw l Z EL own bytes maxL ret mnm R h0 B0 ws Q x T' h' B k n → Keep h h' [a] → Ay Z h' a .byte (vs.set i (.int v')) → Go x (T'.setTop (mkF x.m pc' Ls st))) : Go x (T.setTop (mkF x.m pc Ls (.int v :: .int j :: .ref a :: st))) := by
  subst hj hv
  obtain ⟨S, vm0, k0, locs, X, eT, hS, hk, hZ, hown, hI, hFr, hK, hM, hN⟩ := X
  obtain ⟨hd, rfl⟩ := hd
  obtain ⟨c, A, h1, h2⟩ := A.set hi (v := .int (RoadKit.nar .byte v)) (fits_nar_byte v)
  obtain ⟨T', h', X', e', Wr', stp⟩ := stB X S.1 hZ eT A h1 (g := mkF x.m pc Ls (.int v :: .int (Int32.ofNat i) :: .ref a :: st)) rfl rfl (S.2.1 ▸ hd)
  exact (K T' h' (Wk.wrote Wr' hB hz hw S X' e' hS hk hZ hown hI hFr hK hM hN) (Keep.of_wr Wr') (h2 h' Wr')).from stp
theorem g_lastore (X : Wk nw l Z EL own bytes maxL ret mnm R h0 B0 ws Q x T h B k n) (hd : Dc bytes pc .lastore 1 pc') {a : Addr} {vs : List Value} (A : Ay Z h a .long vs) {j : Int32} (i : Nat) (hj : j = Int32.ofNat i) {v : Int64} (v' : Int64) (hv : v = v') (hi : i < vs.length) (hB : ¬ B a) (hz : Z.heap.size ≤ a) (hw : a ∈ ws ∨ h0.size ≤ a)
    (K : ∀ T' h', Wk nw l Z EL own bytes maxL ret mnm R h0 B0 ws Q x T' h' B k n → Keep h h' [a] → Ay Z h' a .long (vs.set i (.long v')) → Go x (T'.setTop (mkF x.m pc' Ls st))) : Go x (T.setTop (mkF x.m pc Ls (.long v :: .int j :: .ref a :: st))) := by
  subst hj hv
  obtain ⟨S, vm0, k0, locs, X, eT, hS, hk, hZ, hown, hI, hFr, hK, hM, hN⟩ := X
  obtain ⟨hd, rfl⟩ := hd
  obtain ⟨c, A, h1, h2⟩ := A.set hi (v := .long v) rfl
  obtain ⟨T', h', X', e', Wr', stp⟩ := stJ X S.1 hZ eT A h1 (g := mkF x.m pc Ls (.long v :: .int (Int32.ofNat i) :: .ref a :: st)) rfl rfl (S.2.1 ▸ hd)
  exact (K T' h' (Wk.wrote Wr' hB hz hw S X' e' hS hk hZ hown hI hFr hK hM hN) (Keep.of_wr Wr') (h2 h' Wr')).from stp
end Heap
/-! own kit, part 4: calls, constants, casts -/
/-- pure: the value r, the heap as it was -/
def PQ (r : Option Value) (h0 : Heap) (B0 : BP) : QT := fun v h B => v = r ∧ h = h0 ∧ B = B0
theorem k_ws1 {B : BP} {Z : State} {ws : List Addr} {h0 : Heap} {a : Addr} (q : ¬ B a ∧ Z.heap.size ≤ a ∧ (a ∈ ws ∨ h0.size ≤ a)) : ∀ z ∈ [a], ¬ B z ∧ Z.heap.size ≤ z ∧ (z ∈ ws ∨ h0.size ≤ z) := fun z hz => by cases List.mem_singleton.mp hz; exact q
theorem k_wsC {B : BP} {Z : State} {ws : List Addr} {h0 : Heap} {a : Addr} {L : List Addr} (q : ¬ B a ∧ Z.heap.size ≤ a ∧ (a ∈ ws ∨ h0.size ≤ a)) (r : ∀ z ∈ L, ¬ B z ∧ Z.heap.size ≤ z ∧ (z ∈ ws ∨ h0.size ≤ z)) : ∀ z ∈ a :: L, ¬ B z ∧ Z.heap.size ≤ z ∧ (z ∈ ws ∨ h0.size ≤ z) := fun z hz => by
  rcases List.mem_cons.mp hz with e | e
  · subst e; exact q
  · exact r z e
theorem k_narref (t : FieldType) {v : Value} (h : v.isRef = true) : narrow t v = v := by
  rcases ref_cases h with rfl | ⟨a, rfl⟩ <;> cases t <;> rfl
theorem k_fitref {t : FieldType} {v : Value} (ht : refKind t = true) (h : v.isRef = true) : fits t v = true := by
  rcases ref_cases h with rfl | ⟨a, rfl⟩ <;> cases t <;> first | rfl | cases ht
theorem k_top {x : Cx} {T : State} {pc : Nat} {Ls : Array Slot} {st : List Value} {v v' : Value} (e : v = v') (G : Go x (T.setTop (mkF x.m pc Ls (v' :: st)))) : Go x (T.setTop (mkF x.m pc Ls (v :: st))) := by subst e; exact G
section Calls
variable {nw : Bool} {l : Launch} {Z : State} {EL : List (String × Nat)} {own : String} {bytes : ByteArray} {maxL : Nat} {ret : Option FieldType} {mnm : String} {R : Room} {h0 : Heap} {B0 : BP} {ws : List Addr} {Q : QT} {x : Cx} {T : State} {h : Heap} {B : BP} {k n : Nat} {a0 : Array Value} {pc pc' : Nat} {Ls : Array Slot} {st : List Value}
/-- a callee's promise, as the library's calls take it -/
theorem conBack {p : Program} {e : Env} {below : List Frame} {s : State} {args : Array Value} {vm0 : Vm} {len W : Nat} {y : MethodName} {bytes' : ByteArray} {maxL' : Nat} {ret' : Option FieldType} {rm : Room} {as : Array Value} {ws' : List Addr} {Q' : QT}
    (C : Con nw l Z EL y bytes' maxL' ret' [] rm as h B ws' Q') (hZ : Z.Warmed39 vm0) (wc : (Cond.code y bytes' maxL' ret').before a0 Z = true) (wz : (Cond.initialized y.cls).before a0 Z = true) (hf : rm.frames + 1 ≤ R.frames) (hl : W + (maxL' + 11) + rm.locals ≤ R.locals) (hI : k_inv Z EL B vm0 h) :
    BackS l R p e below (s.setVm vm0) args y len W (fun A a => a = as ∧ A.U.heap = h ∧ A.cells + rm.cells ≤ R.cells ∧ A.slots + rm.slots ≤ R.slots)
      (fun A _ v D => ∃ L B', Q' v D.U.heap B' ∧ Keep h D.U.heap ws' ∧ k_more B B' h.size ∧ Fr Z.heap.size L ∧ D.locs = A.locs ++ L ∧ D.cells = A.cells + rm.cells ∧ D.slots = A.slots + rm.slots ∧ k_inv Z EL B' D.U.vm D.U.heap ∧ (nw = true → (s.setVm vm0).WarmedH D.U.vm)) :=
  BackS.of_freeW (bytes := bytes') (maxL := maxL') (ret := ret')
    (E := fun _ first o t L k n => k = rm.cells ∧ n = rm.slots ∧ ∃ v B', o = .returned v ∧ Q' v t.heap B' ∧ Keep h t.heap ws' ∧ k_more B B' h.size ∧ Fr Z.heap.size L ∧ k_inv Z EL B' t.vm t.heap ∧ (nw = true → first.WarmedH t.vm)) C hf hl
    (fun m meth c A a Y hp => have hU : Z.Warmed39 A.U.vm := wtrans (s := s.setVm vm0) hZ Y.warmed
      ⟨by show (Cond.and _ .tt).before a A.U = true; rw [Cond.before_and, mv hU wc]; rfl, mv hU wc, mv hU wz, hp.2.2.1, hp.2.2.2⟩)
    (fun m meth c A a g mk Y hp => ⟨hp.1, wtrans (s := s.setVm vm0) hZ Y.warmed, hp.2.1, (have q := hI.vmT Y hZ; q)⟩) (fun _ _ _ _ _ _ _ _ _ => trivial)
    (fun _ _ _ _ ⟨v, L, B', q1, q2, q3, q4, q5, q6, q7⟩ => ⟨L, _, _, q7.1, rfl, rfl, v, B', q1, q2, q3, q4, q5, q6, q7.2⟩)
    (fun m meth c A a g mk v t L k n Y hp _ _ ⟨e1, e2, v', B', q1, q2, q3, q4, q5, q6, q7⟩ => by
      cases q1; subst e1 e2
      exact ⟨L, B', q2, q3, q4, q5, rfl, rfl, rfl, q6, fun r => State.WarmedH.trans Y.warmed (q7 r)⟩)
theorem Wk.called {T' : State} {h' : Heap} {B' : BP} {vm0 vm1 : Vm} {k0 k' n' : Nat} {locs L : List Loc} {ws' : List Addr} (hK' : Keep h h' ws') (hws : ∀ z ∈ ws', ¬ B z ∧ Z.heap.size ≤ z ∧ (z ∈ ws ∨ h0.size ≤ z)) (hM' : k_more B B' h.size) (hFr' : Fr Z.heap.size L) (hI' : k_inv Z EL B' vm1 h')
    (S : x.p.tables.exec = Jvm.exec ∧ x.c.code = bytes ∧ x.c.maxLocals = maxL ∧ x.meth.sig.returnType = ret ∧ x.meth.locks = false ∧ x.meth.name = mnm ∧ x.F = ConQ nw Z EL R h0 B0 ws Q x.s)
    (X' : Stand x.p l x.e R ((x.s.setVm vm0).setVm vm1) x.m x.args x.below x.meth x.c T' (locs ++ L) k' n') (e' : T'.heap = h') (hS : x.s.Since vm0 k0) (hk : k0 ≤ h.size) (hS' : (x.s.setVm vm0).Since vm1 h'.size) (hZ : Z.Warmed39 vm0) (hown : vm0.findClass own = some x.m.cls)
    (hFr : Fr Z.heap.size locs) (hK : Keep h0 h ws) (hM : k_more B0 B h0.size) (hN : nw = true → x.s.WarmedH vm0) (hN' : nw = true → (x.s.setVm vm0).WarmedH vm1) : Wk nw l Z EL own bytes maxL ret mnm R h0 B0 ws Q x T' h' B' k' n' := by
  obtain ⟨q1, q2, q3, q4⟩ := rebS (Z := Z) (own := own) hS hk X' hS' hK'.1 hZ hown
  exact ⟨S, vm1, h'.size, _, q1, e', q2, Nat.le_refl _, q3, q4, hI', hFr.app hFr', hK.trans hK' fun z hz => (hws z hz).2.2, hM.trans hM' hK.1, fun r => State.WarmedH.trans (t := x.s.setVm vm0) (hN r) (hN' r)⟩
abbrev noHandle (y : MethodName) : Prop := y.cls ≠ "java/lang/invoke/MethodHandle" ∧ y.cls ≠ "java/lang/invoke/VarHandle"
theorem g_callS (X : Wk nw l Z EL own bytes maxL ret mnm R h0 B0 ws Q x T h B k n) {y : MethodName} {idx : Nat} {bytes' : ByteArray} {maxL' : Nat} {ret' : Option FieldType} {rm : Room} {ws' : List Addr} {Q' : QT} {ps : List FieldType} {rt : Option FieldType} (hd : Dc bytes pc (.invokestatic idx) 3 pc')
    (w1 : (Cond.methodLink own idx y).before a0 Z = true) (w2 : (Cond.static y).before a0 Z = true) (w3 : (Cond.initialized y.cls).before a0 Z = true) (w4 : (Cond.code y bytes' maxL' ret').before a0 Z = true) (hy : noHandle y) (hpd : parseMethodDescriptor y.desc = some ⟨ps, rt⟩)
    (argsL rest : List Value) (W : Nat) (C : Con nw l Z EL y bytes' maxL' ret' [] rm argsL.toArray h B ws' Q') (hlen : argsL.length = ps.length) (hst : st = argsL.reverse ++ rest) (hsz : Ls.size = maxL) (hW : (rest.map fun v => v.category).sum ≤ W) (hf : rm.frames + 1 ≤ R.frames) (hl : W + (maxL' + 11) + rm.locals ≤ R.locals) (k' n' : Nat) (ek : k + rm.cells = k') (en : n + rm.slots = n') (hc : k' ≤ R.cells) (hs : n' ≤ R.slots)
    (hws : ∀ z ∈ ws', ¬ B z ∧ Z.heap.size ≤ z ∧ (z ∈ ws ∨ h0.size ≤ z))
    (K : ∀ v T' h' B', Wk nw l Z EL own bytes maxL ret mnm R h0 B0 ws Q x T' h' B' k' n' → Keep h h' ws' → k_more B B' h.size → Q' v h' B' → Go x (T'.setTop (mkF x.m pc' Ls (v.toList ++ rest)))) : Go x (T.setTop (mkF x.m pc Ls st)) := by
  subst ek en
  obtain ⟨S, vm0, k0, locs, X, eT, hS, hk, hZ, hown, hI, hFr, hK, hM, hN⟩ := X
  obtain ⟨hd, rfl⟩ := hd
  obtain ⟨v, vm₁, ⟨T', L', k'', n''⟩, -, X', hS', hgr, ⟨L, B', q1, q2, q3, q4, e1, e2, e3, q5, q6⟩, stp⟩ := callSS X S.1 hown (mvT (s := x.s.setVm vm0) hZ w1) (mvT (s := x.s.setVm vm0) hZ w2) (mvT (s := x.s.setVm vm0) hZ w3) (mvT (s := x.s.setVm vm0) hZ w4) hy (conBack (W := W) C hZ w4 w3 hf hl hI) (g := mkF x.m pc Ls st) rfl (by rw [S.2.2.1]; exact hsz) (lenOf hpd hlen) hst (by show 2 * 0 + _ ≤ _; omega) (S.2.1 ▸ hd) (fun _ _ => ⟨rfl, eT, hc, hs⟩)
  dsimp only [Pt.U, Pt.locs, Pt.cells, Pt.slots] at X' hS' hgr q1 q2 q5 q6 e1 e2 e3 stp
  subst e1 e2 e3
  exact (K v T' _ B' (Wk.called q2 hws q3 q4 q5 S X' rfl hS hk hS' hZ hown hFr hK hM hN q6) q2 q3 q1).from fun t q => stp.trans q
theorem g_callI (X : Wk nw l Z EL own bytes maxL ret mnm R h0 B0 ws Q x T h B k n) {y : MethodName} {idx : Nat} {bytes' : ByteArray} {maxL' : Nat} {rm : Room} {ws' : List Addr} {Q' : QT} {ps : List FieldType} {rt : Option FieldType} (hd : Dc bytes pc (.invokespecial idx) 3 pc')
    (w1 : (Cond.methodLink own idx y).before a0 Z = true) (w2 : (Cond.instanceMethod y).before a0 Z = true) (w3 : (Cond.initialized y.cls).before a0 Z = true) (w4 : (Cond.code y bytes' maxL' none).before a0 Z = true) (hn : y.name = "<init>") (hy : noHandle y) (hpd : parseMethodDescriptor y.desc = some ⟨ps, rt⟩)
    (a : Addr) (argsL rest : List Value) (W : Nat) (C : Con nw l Z EL y bytes' maxL' none [] rm (.ref a :: argsL).toArray h B ws' Q') (hlen : argsL.length = ps.length) (hst : st = argsL.reverse ++ .ref a :: rest) (hsz : Ls.size = maxL) (hW : (rest.map fun v => v.category).sum ≤ W) (hf : rm.frames + 1 ≤ R.frames) (hl : W + (maxL' + 11) + rm.locals ≤ R.locals) (k' n' : Nat) (ek : k + rm.cells = k') (en : n + rm.slots = n') (hc : k' ≤ R.cells) (hs : n' ≤ R.slots)
    (hws : ∀ z ∈ ws', ¬ B z ∧ Z.heap.size ≤ z ∧ (z ∈ ws ∨ h0.size ≤ z))
    (K : ∀ v T' h' B', Wk nw l Z EL own bytes maxL ret mnm R h0 B0 ws Q x T' h' B' k' n' → Keep h h' ws' → k_more B B' h.size → Q' v h' B' → Go x (T'.setTop (mkF x.m pc' Ls (v.toList ++ rest)))) : Go x (T.setTop (mkF x.m pc Ls st)) := by
  subst ek en
  obtain ⟨S, vm0, k0, locs, X, eT, hS, hk, hZ, hown, hI, hFr, hK, hM, hN⟩ := X
  obtain ⟨hd, rfl⟩ := hd
  obtain ⟨v, vm₁, ⟨T', L', k'', n''⟩, -, X', hS', hgr, ⟨L, B', q1, q2, q3, q4, e1, e2, e3, q5, q6⟩, stp⟩ := X.specialBackS S.1 hn hown (mvT (s := x.s.setVm vm0) hZ w1) (mvT (s := x.s.setVm vm0) hZ w2) (mvT (s := x.s.setVm vm0) hZ w4) hy (conBack (W := W) C hZ w4 w3 hf hl hI) (g := mkF x.m pc Ls st) rfl (by rw [S.2.2.1]; exact hsz) (Steps.refl _) (lenOf hpd hlen) hst (by show 2 * 0 + _ ≤ _; omega) (S.2.1 ▸ hd) (fun _ _ => ⟨rfl, eT, hc, hs⟩)
  dsimp only [Pt.U, Pt.locs, Pt.cells, Pt.slots] at X' hS' hgr q1 q2 q5 q6 e1 e2 e3 stp
  subst e1 e2 e3
  exact (K v T' _ B' (Wk.called q2 hws q3 q4 q5 S X' rfl hS hk hS' hZ hown hFr hK hM hN q6) q2 q3 q1).from fun t q => stp.trans q
theorem g_callN (X : Wk nw l Z EL own bytes maxL ret mnm R h0 B0 ws Q x T h B k n) {host : String} {y : MethodName} {idx : Nat} {bytes' : ByteArray} {maxL' : Nat} {rm : Room} {ws' : List Addr} {Q' : QT} {ps : List FieldType} {rt : Option FieldType} (hd : Dc bytes pc (.invokespecial idx) 3 pc')
    (w1 : (Cond.methodLinkNest own idx y host).before a0 Z = true) (w2 : (Cond.instanceMethod y).before a0 Z = true) (w3 : (Cond.initialized y.cls).before a0 Z = true) (w4 : (Cond.code y bytes' maxL' none).before a0 Z = true) (hn : y.name = "<init>") (hy : noHandle y) (hpd : parseMethodDescriptor y.desc = some ⟨ps, rt⟩)
    (a : Addr) (argsL rest : List Value) (W : Nat) (C : Con nw l Z EL y bytes' maxL' none [] rm (.ref a :: argsL).toArray h B ws' Q') (hlen : argsL.length = ps.length) (hst : st = argsL.reverse ++ .ref a :: rest) (hsz : Ls.size = maxL) (hW : (rest.map fun v => v.category).sum ≤ W) (hf : rm.frames + 1 ≤ R.frames) (hl : W + (maxL' + 11) + rm.locals ≤ R.locals) (k' n' : Nat) (ek : k + rm.cells = k') (en : n + rm.slots = n') (hc : k' ≤ R.cells) (hs : n' ≤ R.slots)
    (hws : ∀ z ∈ ws', ¬ B z ∧ Z.heap.size ≤ z ∧ (z ∈ ws ∨ h0.size ≤ z))
    (K : ∀ v T' h' B', Wk nw l Z EL own bytes maxL ret mnm R h0 B0 ws Q x T' h' B' k' n' → Keep h h' ws' → k_more B B' h.size → Q' v h' B' → Go x (T'.setTop (mkF x.m pc' Ls (v.toList ++ rest)))) : Go x (T.setTop (mkF x.m pc Ls st)) := by
  subst ek en
  obtain ⟨S, vm0, k0, locs, X, eT, hS, hk, hZ, hown, hI, hFr, hK, hM, hN⟩ := X
  obtain ⟨hd, rfl⟩ := hd
  obtain ⟨v, vm₁, ⟨T', L', k'', n''⟩, -, X', hS', hgr, ⟨L, B', q1, q2, q3, q4, e1, e2, e3, q5, q6⟩, stp⟩ := X.specialBackNestS S.1 hn hown (Cond.methodLinkNest_wide hZ w1 :) (mvT (s := x.s.setVm vm0) hZ w2) (mvT (s := x.s.setVm vm0) hZ w4) hy (conBack (W := W) C hZ w4 w3 hf hl hI) (g := mkF x.m pc Ls st) rfl (by rw [S.2.2.1]; exact hsz) (Steps.refl _) (lenOf hpd hlen) hst (by show 2 * 0 + _ ≤ _; omega) (S.2.1 ▸ hd) (fun _ _ => ⟨rfl, eT, hc, hs⟩)
  dsimp only [Pt.U, Pt.locs, Pt.cells, Pt.slots] at X' hS' hgr q1 q2 q5 q6 e1 e2 e3 stp
  subst e1 e2 e3
  exact (K v T' _ B' (Wk.called q2 hws q3 q4 q5 S X' rfl hS hk hS' hZ hown hFr hK hM hN q6) q2 q3 q1).from fun t q => stp.trans q
theorem g_callV (X : Wk nw l Z EL own bytes maxL ret mnm R h0 B0 ws Q x T h B k n) {D : String} {y : MethodName} {idx : Nat} {bytes' : ByteArray} {maxL' : Nat} {ret' : Option FieldType} {rm : Room} {ws' : List Addr} {Q' : QT} {ps : List FieldType} {rt : Option FieldType} (hd : Dc bytes pc (.invokevirtual idx) 3 pc')
    (w1 : (Cond.methodLink own idx y).before a0 Z = true) (w2 : (Cond.declares y).before a0 Z = true) (w3 : (Cond.selects D y y).before a0 Z = true) (w4 : (Cond.instanceMethod y).before a0 Z = true) (w5 : (Cond.initialized y.cls).before a0 Z = true) (w6 : (Cond.code y bytes' maxL' ret').before a0 Z = true) (hy : noHandle y) (hpd : parseMethodDescriptor y.desc = some ⟨ps, rt⟩)
    (a : Addr) (argsL rest : List Value) (W : Nat) (E : Exa Z h a D) (C : Con nw l Z EL y bytes' maxL' ret' [] rm (.ref a :: argsL).toArray h B ws' Q') (hlen : argsL.length = ps.length) (hst : st = argsL.reverse ++ .ref a :: rest) (hsz : Ls.size = maxL) (hW : (rest.map fun v => v.category).sum ≤ W) (hf : rm.frames + 1 ≤ R.frames) (hl : W + (maxL' + 11) + rm.locals ≤ R.locals) (k' n' : Nat) (ek : k + rm.cells = k') (en : n + rm.slots = n') (hc : k' ≤ R.cells) (hs : n' ≤ R.slots)
    (hws : ∀ z ∈ ws', ¬ B z ∧ Z.heap.size ≤ z ∧ (z ∈ ws ∨ h0.size ≤ z))
    (K : ∀ v T' h' B', Wk nw l Z EL own bytes maxL ret mnm R h0 B0 ws Q x T' h' B' k' n' → Keep h h' ws' → k_more B B' h.size → Q' v h' B' → Go x (T'.setTop (mkF x.m pc' Ls (v.toList ++ rest)))) : Go x (T.setTop (mkF x.m pc Ls st)) := by
  subst ek en
  obtain ⟨S, vm0, k0, locs, X, eT, hS, hk, hZ, hown, hI, hFr, hK, hM, hN⟩ := X
  obtain ⟨hd, rfl⟩ := hd
  obtain ⟨cq, kq, qa, qb, qc⟩ := isOf (s := x.s.setVm vm0) hZ eT E
  obtain ⟨v, vm₁, ⟨T', L', k'', n''⟩, -, X', hS', hgr, ⟨L, B', q1, q2, q3, q4, e1, e2, e3, q5, q6⟩, stp⟩ := X.virtualBackS S.1 (y := y) (z := y) hown (mvT (s := x.s.setVm vm0) hZ w1) (mvT (s := x.s.setVm vm0) hZ w2) (notFace_of_selects (args := #[]) (mvT (s := x.s.setVm vm0) hZ w3)) (mvT (s := x.s.setVm vm0) hZ w3) (mvT (s := x.s.setVm vm0) hZ w4) hy (conBack (W := W) C hZ w6 w5 hf hl hI) qa qc (g := mkF x.m pc Ls st) rfl (by rw [S.2.2.1]; exact hsz) (Steps.refl _) (lenOf hpd hlen) hst (by show 2 * 0 + _ ≤ _; omega) (S.2.1 ▸ hd) (fun _ _ => ⟨rfl, eT, hc, hs⟩)
  dsimp only [Pt.U, Pt.locs, Pt.cells, Pt.slots] at X' hS' hgr q1 q2 q5 q6 e1 e2 e3 stp
  subst e1 e2 e3
  exact (K v T' _ B' (Wk.called q2 hws q3 q4 q5 S X' rfl hS hk hS' hZ hown hFr hK hM hN q6) q2 q3 q1).from fun t q => stp.trans q
theorem g_callSp (X : Wk nw l Z EL own bytes maxL ret mnm R h0 B0 ws Q x T h B k n) {y : MethodName} {idx : Nat} {bytes' : ByteArray} {maxL' : Nat} {ret' : Option FieldType} {rm : Room} {v : Value} {ps : List FieldType} {rt : Option FieldType} (hd : Dc bytes pc (.invokestatic idx) 3 pc')
    (w1 : (Cond.methodLink own idx y).before a0 Z = true) (w2 : (Cond.static y).before a0 Z = true) (w3 : (Cond.initialized y.cls).before a0 Z = true) (w4 : (Cond.code y bytes' maxL' ret').before a0 Z = true) (hy : noHandle y) (hpd : parseMethodDescriptor y.desc = some ⟨ps, rt⟩)
    (argsL rest : List Value) (W : Nat) (C : Con nw l Z EL y bytes' maxL' ret' [] rm argsL.toArray h B [] (PQ (some v) h B)) (hlen : argsL.length = ps.length) (hst : st = argsL.reverse ++ rest) (hsz : Ls.size = maxL) (hW : (rest.map fun v => v.category).sum ≤ W) (hf : rm.frames + 1 ≤ R.frames) (hl : W + (maxL' + 11) + rm.locals ≤ R.locals) (k' n' : Nat) (ek : k + rm.cells = k') (en : n + rm.slots = n') (hc : k' ≤ R.cells) (hs : n' ≤ R.slots)
    (K : ∀ T', Wk nw l Z EL own bytes maxL ret mnm R h0 B0 ws Q x T' h B k' n' → Go x (T'.setTop (mkF x.m pc' Ls (v :: rest)))) : Go x (T.setTop (mkF x.m pc Ls st)) :=
  g_callS X hd w1 w2 w3 w4 hy hpd argsL rest W C hlen hst hsz hW hf hl k' n' ek en hc hs (fun _ q => nomatch q) fun _ T' _ _ X' _ _ ⟨e1, e2, e3⟩ => by subst e1 e2 e3; exact K T' X'
theorem g_callSp0 (X : Wk nw l Z EL own bytes maxL ret mnm R h0 B0 ws Q x T h B k n) {y : MethodName} {idx : Nat} {bytes' : ByteArray} {maxL' : Nat} {ret' : Option FieldType} {rm : Room} {ps : List FieldType} {rt : Option FieldType} (hd : Dc bytes pc (.invokestatic idx) 3 pc')
    (w1 : (Cond.methodLink own idx y).before a0 Z = true) (w2 : (Cond.static y).before a0 Z = true) (w3 : (Cond.initialized y.cls).before a0 Z = true) (w4 : (Cond.code y bytes' maxL' ret').before a0 Z = true) (hy : noHandle y) (hpd : parseMethodDescriptor y.desc = some ⟨ps, rt⟩)
    (argsL rest : List Value) (W : Nat) (C : Con nw l Z EL y bytes' maxL' ret' [] rm argsL.toArray h B [] (PQ none h B)) (hlen : argsL.length = ps.length) (hst : st = argsL.reverse ++ rest) (hsz : Ls.size = maxL) (hW : (rest.map fun v => v.category).sum ≤ W) (hf : rm.frames + 1 ≤ R.frames) (hl : W + (maxL' + 11) + rm.locals ≤ R.locals) (k' n' : Nat) (ek : k + rm.cells = k') (en : n + rm.slots = n') (hc : k' ≤ R.cells) (hs : n' ≤ R.slots)
    (K : ∀ T', Wk nw l Z EL own bytes maxL ret mnm R h0 B0 ws Q x T' h B k' n' → Go x (T'.setTop (mkF x.m pc' Ls rest))) : Go x (T.setTop (mkF x.m pc Ls st)) :=
  g_callS X hd w1 w2 w3 w4 hy hpd argsL rest W C hlen hst hsz hW hf hl k' n' ek en hc hs (fun _ q => nomatch q) fun _ T' _ _ X' _ _ ⟨e1, e2, e3⟩ => by subst e1 e2 e3; exact K T' X'
theorem g_callVp (X : Wk nw l Z EL own bytes maxL ret mnm R h0 B0 ws Q x T h B k n) {D : String} {y : MethodName} {idx : Nat} {bytes' : ByteArray} {maxL' : Nat} {ret' : Option FieldType} {rm : Room} {v : Value} {ps : List FieldType} {rt : Option FieldType} (hd : Dc bytes pc (.invokevirtual idx) 3 pc')
    (w1 : (Cond.methodLink own idx y).before a0 Z = true) (w2 : (Cond.declares y).before a0 Z = true) (w3 : (Cond.selects D y y).before a0 Z = true) (w4 : (Cond.instanceMethod y).before a0 Z = true) (w5 : (Cond.initialized y.cls).before a0 Z = true) (w6 : (Cond.code y bytes' maxL' ret').before a0 Z = true) (hy : noHandle y) (hpd : parseMethodDescriptor y.desc = some ⟨ps, rt⟩)
    (a : Addr) (argsL rest : List Value) (W : Nat) (E : Exa Z h a D) (C : Con nw l Z EL y bytes' maxL' ret' [] rm (.ref a :: argsL).toArray h B [] (PQ (some v) h B)) (hlen : argsL.length = ps.length) (hst : st = argsL.reverse ++ .ref a :: rest) (hsz : Ls.size = maxL) (hW : (rest.map fun v => v.category).sum ≤ W) (hf : rm.frames + 1 ≤ R.frames) (hl : W + (maxL' + 11) + rm.locals ≤ R.locals) (k' n' : Nat) (ek : k + rm.cells = k') (en : n + rm.slots = n') (hc : k' ≤ R.cells) (hs : n' ≤ R.slots)
    (K : ∀ T', Wk nw l Z EL own bytes maxL ret mnm R h0 B0 ws Q x T' h B k' n' → Go x (T'.setTop (mkF x.m pc' Ls (v :: rest)))) : Go x (T.setTop (mkF x.m pc Ls st)) :=
  g_callV X hd w1 w2 w3 w4 w5 w6 hy hpd a argsL rest W E C hlen hst hsz hW hf hl k' n' ek en hc hs (fun _ q => nomatch q) fun _ T' _ _ X' _ _ ⟨e1, e2, e3⟩ => by subst e1 e2 e3; exact K T' X'
theorem g_callVp0 (X : Wk nw l Z EL own bytes maxL ret mnm R h0 B0 ws Q x T h B k n) {D : String} {y : MethodName} {idx : Nat} {bytes' : ByteArray} {maxL' : Nat} {ret' : Option FieldType} {rm : Room} {ps : List FieldType} {rt : Option FieldType} (hd : Dc bytes pc (.invokevirtual idx) 3 pc')
    (w1 : (Cond.methodLink own idx y).before a0 Z = true) (w2 : (Cond.declares y).before a0 Z = true) (w3 : (Cond.selects D y y).before a0 Z = true) (w4 : (Cond.instanceMethod y).before a0 Z = true) (w5 : (Cond.initialized y.cls).before a0 Z = true) (w6 : (Cond.code y bytes' maxL' ret').before a0 Z = true) (hy : noHandle y) (hpd : parseMethodDescriptor y.desc = some ⟨ps, rt⟩)
    (a : Addr) (argsL rest : List Value) (W : Nat) (E : Exa Z h a D) (C : Con nw l Z EL y bytes' maxL' ret' [] rm (.ref a :: argsL).toArray h B [] (PQ none h B)) (hlen : argsL.length = ps.length) (hst : st = argsL.reverse ++ .ref a :: rest) (hsz : Ls.size = maxL) (hW : (rest.map fun v => v.category).sum ≤ W) (hf : rm.frames + 1 ≤ R.frames) (hl : W + (maxL' + 11) + rm.locals ≤ R.locals) (k' n' : Nat) (ek : k + rm.cells = k') (en : n + rm.slots = n') (hc : k' ≤ R.cells) (hs : n' ≤ R.slots)
    (K : ∀ T', Wk nw l Z EL own bytes maxL ret mnm R h0 B0 ws Q x T' h B k' n' → Go x (T'.setTop (mkF x.m pc' Ls rest))) : Go x (T.setTop (mkF x.m pc Ls st)) :=
  g_callV X hd w1 w2 w3 w4 w5 w6 hy hpd a argsL rest W E C hlen hst hsz hW hf hl k' n' ek en hc hs (fun _ q => nomatch q) fun _ T' _ _ X' _ _ ⟨e1, e2, e3⟩ => by subst e1 e2 e3; exact K T' X'
theorem g_callIp0 (X : Wk nw l Z EL own bytes maxL ret mnm R h0 B0 ws Q x T h B k n) {y : MethodName} {idx : Nat} {bytes' : ByteArray} {maxL' : Nat} {rm : Room} {ps : List FieldType} {rt : Option FieldType} (hd : Dc bytes pc (.invokespecial idx) 3 pc')
    (w1 : (Cond.methodLink own idx y).before a0 Z = true) (w2 : (Cond.instanceMethod y).before a0 Z = true) (w3 : (Cond.initialized y.cls).before a0 Z = true) (w4 : (Cond.code y bytes' maxL' none).before a0 Z = true) (hn : y.name = "<init>") (hy : noHandle y) (hpd : parseMethodDescriptor y.desc = some ⟨ps, rt⟩)
    (a : Addr) (argsL rest : List Value) (W : Nat) (C : Con nw l Z EL y bytes' maxL' none [] rm (.ref a :: argsL).toArray h B [] (PQ none h B)) (hlen : argsL.length = ps.length) (hst : st = argsL.reverse ++ .ref a :: rest) (hsz : Ls.size = maxL) (hW : (rest.map fun v => v.category).sum ≤ W) (hf : rm.frames + 1 ≤ R.frames) (hl : W + (maxL' + 11) + rm.locals ≤ R.locals) (k' n' : Nat) (ek : k + rm.cells = k') (en : n + rm.slots = n') (hc : k' ≤ R.cells) (hs : n' ≤ R.slots)
    (K : ∀ T', Wk nw l Z EL own bytes maxL ret mnm R h0 B0 ws Q x T' h B k' n' → Go x (T'.setTop (mkF x.m pc' Ls rest))) : Go x (T.setTop (mkF x.m pc Ls st)) :=
  g_callI X hd w1 w2 w3 w4 hn hy hpd a argsL rest W C hlen hst hsz hW hf hl k' n' ek en hc hs (fun _ q => nomatch q) fun _ T' _ _ X' _ _ ⟨e1, e2, e3⟩ => by subst e1 e2 e3; exact K T' X'
theorem g_callF (X : Wk nw l Z EL own bytes maxL ret mnm R h0 B0 ws Q x T h B k n) {D : String} {y z : MethodName} {idx cnt : Nat} {bytes' : ByteArray} {maxL' : Nat} {ret' : Option FieldType} {rm : Room} {ws' : List Addr} {Q' : QT} {ps : List FieldType} {rt : Option FieldType} (hd : Dc bytes pc (.invokeinterface idx cnt) 5 pc')
    (w1 : (Cond.methodLink own idx y).before a0 Z = true) (w2 : (Cond.declares y).before a0 Z = true) (wa : (Cond.interfaceMethod y.cls y.cls y.name y.desc).before a0 Z = true) (wb : (Cond.publicMethod z).before a0 Z = true) (wc : (Cond.unhidden D y.name y.desc).before a0 Z = true) (wd : (Cond.castable D y.cls).before a0 Z = true) (w3 : (Cond.selects D y z).before a0 Z = true) (w4 : (Cond.instanceMethod z).before a0 Z = true) (w5 : (Cond.initialized z.cls).before a0 Z = true) (w6 : (Cond.code z bytes' maxL' ret').before a0 Z = true) (hy : noHandle y) (hpd : parseMethodDescriptor y.desc = some ⟨ps, rt⟩)
    (a : Addr) (argsL rest : List Value) (W : Nat) (E : Exa Z h a D) (C : Con nw l Z EL z bytes' maxL' ret' [] rm (.ref a :: argsL).toArray h B ws' Q') (hlen : argsL.length = ps.length) (hst : st = argsL.reverse ++ .ref a :: rest) (hsz : Ls.size = maxL) (hW : (rest.map fun v => v.category).sum ≤ W) (hf : rm.frames + 1 ≤ R.frames) (hl : W + (maxL' + 11) + rm.locals ≤ R.locals) (k' n' : Nat) (ek : k + rm.cells = k') (en : n + rm.slots = n') (hc : k' ≤ R.cells) (hs : n' ≤ R.slots)
    (hws : ∀ z ∈ ws', ¬ B z ∧ Z.heap.size ≤ z ∧ (z ∈ ws ∨ h0.size ≤ z))
    (K : ∀ v T' h' B', Wk nw l Z EL own bytes maxL ret mnm R h0 B0 ws Q x T' h' B' k' n' → Keep h h' ws' → k_more B B' h.size → Q' v h' B' → Go x (T'.setTop (mkF x.m pc' Ls (v.toList ++ rest)))) : Go x (T.setTop (mkF x.m pc Ls st)) := by
  subst ek en
  obtain ⟨S, vm0, k0, locs, X, eT, hS, hk, hZ, hown, hI, hFr, hK, hM, hN⟩ := X
  obtain ⟨hd, rfl⟩ := hd
  obtain ⟨cq, kq, qa, qb, qc⟩ := isOf (s := x.s.setVm vm0) hZ eT E
  obtain ⟨v, vm₁, ⟨T', L', k'', n''⟩, -, X', hS', hgr, ⟨L, B', q1, q2, q3, q4, e1, e2, e3, q5, q6⟩, stp⟩ := X.interfaceBackS S.1 (xi := y) (y := z) hown (mvT (s := x.s.setVm vm0) hZ w1) (mvT (s := x.s.setVm vm0) hZ w2) (mvT (s := x.s.setVm vm0) hZ wa (by simp [Cond.onTables, Cond.keepsFace, Cond.keeps, Cond.faceAtom, hy.1, hy.2])) (mvT (s := x.s.setVm vm0) hZ w3) (mvT (s := x.s.setVm vm0) hZ w4) (mvT (s := x.s.setVm vm0) hZ wb) (mvT (s := x.s.setVm vm0) hZ wc) (mvT (s := x.s.setVm vm0) hZ wd) hy (conBack (W := W) C hZ w6 w5 hf hl hI) qa qb qc (g := mkF x.m pc Ls st) rfl (by rw [S.2.2.1]; exact hsz) (Steps.refl _) (lenOf hpd hlen) hst (by show 2 * 0 + _ ≤ _; omega) (S.2.1 ▸ hd) (fun _ _ => ⟨rfl, eT, hc, hs⟩)
  dsimp only [Pt.U, Pt.locs, Pt.cells, Pt.slots] at X' hS' hgr q1 q2 q5 q6 e1 e2 e3 stp
  subst e1 e2 e3
  exact (K v T' _ B' (Wk.called q2 hws q3 q4 q5 S X' rfl hS hk hS' hZ hown hFr hK hM hN q6) q2 q3 q1).from fun t q => stp.trans q
theorem g_callFp (X : Wk nw l Z EL own bytes maxL ret mnm R h0 B0 ws Q x T h B k n) {D : String} {y z : MethodName} {idx cnt : Nat} {bytes' : ByteArray} {maxL' : Nat} {ret' : Option FieldType} {rm : Room} {v : Value} {ps : List FieldType} {rt : Option FieldType} (hd : Dc bytes pc (.invokeinterface idx cnt) 5 pc')
    (w1 : (Cond.methodLink own idx y).before a0 Z = true) (w2 : (Cond.declares y).before a0 Z = true) (wa : (Cond.interfaceMethod y.cls y.cls y.name y.desc).before a0 Z = true) (wb : (Cond.publicMethod z).before a0 Z = true) (wc : (Cond.unhidden D y.name y.desc).before a0 Z = true) (wd : (Cond.castable D y.cls).before a0 Z = true) (w3 : (Cond.selects D y z).before a0 Z = true) (w4 : (Cond.instanceMethod z).before a0 Z = true) (w5 : (Cond.initialized z.cls).before a0 Z = true) (w6 : (Cond.code z bytes' maxL' ret').before a0 Z = true) (hy : noHandle y) (hpd : parseMethodDescriptor y.desc = some ⟨ps, rt⟩)
    (a : Addr) (argsL rest : List Value) (W : Nat) (E : Exa Z h a D) (C : Con nw l Z EL z bytes' maxL' ret' [] rm (.ref a :: argsL).toArray h B [] (PQ (some v) h B)) (hlen : argsL.length = ps.length) (hst : st = argsL.reverse ++ .ref a :: rest) (hsz : Ls.size = maxL) (hW : (rest.map fun v => v.category).sum ≤ W) (hf : rm.frames + 1 ≤ R.frames) (hl : W + (maxL' + 11) + rm.locals ≤ R.locals) (k' n' : Nat) (ek : k + rm.cells = k') (en : n + rm.slots = n') (hc : k' ≤ R.cells) (hs : n' ≤ R.slots)
    (K : ∀ T', Wk nw l Z EL own bytes maxL ret mnm R h0 B0 ws Q x T' h B k' n' → Go x (T'.setTop (mkF x.m pc' Ls (v :: rest)))) : Go x (T.setTop (mkF x.m pc Ls st)) :=
  g_callF X hd w1 w2 wa wb wc wd w3 w4 w5 w6 hy hpd a argsL rest W E C hlen hst hsz hW hf hl k' n' ek en hc hs (fun _ q => nomatch q) fun _ T' _ _ X' _ _ ⟨e1, e2, e3⟩ => by subst e1 e2 e3; exact K T' X'
/-- Object.<init> -/
theorem g_init (X : Wk nw l Z EL own bytes maxL ret mnm R h0 B0 ws Q x T h B k n) {idx : Nat} {y : MethodName} {ob : ByteArray} (hd : Dc bytes pc (.invokespecial idx) 3 pc') (hy : y = Lib.objectInit) (hob : ob = ⟨#[0xb1]⟩) (w1 : (Cond.methodLink own idx y).before a0 Z = true) (w2 : (Cond.instanceMethod y).before a0 Z = true) (w3 : (Cond.code y ob 1 none).before a0 Z = true)
    (W : Nat) (hsz : Ls.size = maxL) (hf : 1 ≤ R.frames) {a : Addr} (hW : (st.map fun v => v.category).sum ≤ W) (hl : W + 12 ≤ R.locals)
    (K : ∀ T', Wk nw l Z EL own bytes maxL ret mnm R h0 B0 ws Q x T' h B k n → Go x (T'.setTop (mkF x.m pc' Ls st))) : Go x (T.setTop (mkF x.m pc Ls (.ref a :: st))) := by
  subst hy hob
  obtain ⟨S, vm0, k0, locs, X, eT, hS, hk, hZ, hown, r⟩ := X
  obtain ⟨hd, rfl⟩ := hd
  obtain ⟨T', X', e', stp⟩ := initO X S.1 hZ hown w1 w2 w3 eT (g := mkF x.m pc Ls (.ref a :: st)) rfl (by rw [S.2.2.1]; exact hsz) rfl (S.2.1 ▸ hd) hf (W := W) (by show 2 * 0 + _ ≤ _; omega) hl
  exact (K T' ⟨S, vm0, k0, locs, X', e', hS, hk, hZ, hown, r⟩).from stp
/-- a String constant, unread -/
theorem g_ldcO (X : Wk nw l Z EL own bytes maxL ret mnm R h0 B0 ws Q x T h B k n) {idx : Nat} {text : String} (hnw : nw = false) (hd : Dc bytes pc (.ldc idx) 2 pc') (w : (Cond.stringLink own idx text).before a0 Z = true) (wS : ∀ a ∈ Bundle.stringAtoms, a.before a0 Z = true) (cap : Nat) (hn : 4 * text.toList.length ≤ cap) (hbig : cap ≤ 536870912) (k' n' : Nat) (ek : k + 2 = k') (en : n + (cap + 4) = n') (hc : k' ≤ R.cells) (hs : n' ≤ R.slots)
    (K : ∀ T' h' B' a, Wk nw l Z EL own bytes maxL ret mnm R h0 B0 ws Q x T' h' B' k' n' → Ext h h' → k_more B B' h.size → Go x (T'.setTop (mkF x.m pc' Ls (.ref a :: st)))) : Go x (T.setTop (mkF x.m pc Ls st)) := by
  subst hnw ek en
  obtain ⟨S, vm0, k0, locs, X, eT, hS, hk, hZ, hown, ⟨i1, i2, i3, i4, b0, i5⟩, hFr, hK, hM, hN⟩ := X
  obtain ⟨hd, rfl⟩ := hd
  have w' : (Cond.stringLink own idx text).before b0 Z = true := w
  have wS' : ∀ a ∈ Bundle.stringAtoms, a.before b0 Z = true := fun d hd => by
    have q := wS d hd
    simp only [Bundle.stringAtoms, List.mem_cons, List.not_mem_nil, or_false] at hd
    rcases hd with rfl | rfl | rfl | rfl | rfl | rfl | rfl <;> exact q
  obtain ⟨a, T', h', k1, X', e', E, hS', hk', hZ', hown', hC, -, stp⟩ := ldcOH X S.1 hZ hown w' wS' eT hS hk i5 i1 (g := mkF x.m pc Ls st) rfl (S.2.1 ▸ hd) hn hbig hc hs
  have hM' : k_more B (fun y => B y ∨ Bk Z EL T'.vm h' y) h.size := by
    refine ⟨?_, fun y q => Or.inl q⟩
    rintro y (q | q)
    · exact Or.inl q
    · rcases hC.2.2 y q with r | r
      · exact Or.inl (i2 y r)
      · exact Or.inr r
  refine (K T' h' (fun y => B y ∨ Bk Z EL T'.vm h' y) a ⟨S, T'.vm, k1, locs, X', e', hS', hk', hZ', hown', ⟨hC.1, fun y q => Or.inr q, ?_, ⟨Nat.le_trans i4.1 E.1, fun b c q => E.2 _ _ (i4.2 b c q)⟩, b0, i5⟩, hFr, hK.ext E, hM.trans hM' hK.1, fun q => nomatch q⟩ E hM').from stp
  rintro y (q | q)
  · exact Nat.lt_of_lt_of_le (i3 y q) E.1
  · obtain ⟨cell, hc⟩ := Bk.there q; exact (Array.getElem?_eq_some_iff.mp hc).1
/-- a String constant of EL, read -/
theorem g_ldcC (X : Wk nw l Z EL own bytes maxL ret mnm R h0 B0 ws Q x T h B k n) {idx : Nat} {text : String} (hnw : nw = false) (hd : Dc bytes pc (.ldc idx) 2 pc') (w : (Cond.stringLink own idx text).before a0 Z = true) (wS : ∀ a ∈ Bundle.stringAtoms, a.before a0 Z = true) (hmem : (own, idx) ∈ EL) (bs : List Int32) (hlt : bs.length < 2 ^ 31) (ht : (∀ c ∈ text.toList, c.toNat < 256) ∧ text.toList.map (fun c => Value.int (Jvm.Lit.byteI c.toNat.toUInt16)) = bs.map Value.int) (cap : Nat) (hn : 4 * text.toList.length ≤ cap) (hbig : cap ≤ 536870912) (k' n' : Nat) (ek : k + 2 = k') (en : n + (cap + 4) = n') (hc : k' ≤ R.cells) (hs : n' ≤ R.slots)
    (K : ∀ T' h' B' a t, Wk nw l Z EL own bytes maxL ret mnm R h0 B0 ws Q x T' h' B' k' n' → Ext h h' → k_more B B' h.size → Exa Z h' a "java/lang/String" → Fld Z h' a "java/lang/String" "coder" "B" (.int 0) → Fld Z h' a "java/lang/String" "value" "[B" (.ref t) → Ay Z h' t .byte (bs.map Value.int) → a < h'.size → t < h'.size → (∀ z, ¬ B' z → z ≠ a ∧ z ≠ t) → Go x (T'.setTop (mkF x.m pc' Ls (.ref a :: st)))) : Go x (T.setTop (mkF x.m pc Ls st)) := by
  subst hnw ek en
  obtain ⟨S, vm0, k0, locs, X, eT, hS, hk, hZ, hown, ⟨i1, i2, i3, i4, b0, i5⟩, hFr, hK, hM, hN⟩ := X
  obtain ⟨hd, rfl⟩ := hd
  have w' : (Cond.stringLink own idx text).before b0 Z = true := w
  have wS' : ∀ a ∈ Bundle.stringAtoms, a.before b0 Z = true := fun d hd => by
    have q := wS d hd
    simp only [Bundle.stringAtoms, List.mem_cons, List.not_mem_nil, or_false] at hd
    rcases hd with rfl | rfl | rfl | rfl | rfl | rfl | rfl <;> exact q
  obtain ⟨z1, z2⟩ := i32_nat hlt
  obtain ⟨a, T', h', k1, t, kk, X', e', E, hS', hk', hZ', hown', p1, p2, p3, p4, p5, p6, hC, -, p7, stp⟩ := ldcCH X S.1 hZ hown w' wS' eT hS hk i5 hmem i1 (vs := bs.map Value.int) (z := Int32.ofNat bs.length) ht z2 (by rw [z1]; simp) (g := mkF x.m pc Ls st) rfl (S.2.1 ▸ hd) hn hbig hc hs
  have hM' : k_more B (fun y => B y ∨ Bk Z EL T'.vm h' y) h.size := by
    refine ⟨?_, fun y q => Or.inl q⟩
    rintro y (q | q)
    · exact Or.inl q
    · rcases hC.2.2 y q with r | r
      · exact Or.inl (i2 y r)
      · exact Or.inr r
  refine (K T' h' (fun y => B y ∨ Bk Z EL T'.vm h' y) a t ⟨S, T'.vm, k1, locs, X', e', hS', hk', hZ', hown', ⟨hC.1, fun y q => Or.inr q, ?_, ⟨Nat.le_trans i4.1 E.1, fun b c q => E.2 _ _ (i4.2 b c q)⟩, b0, i5⟩, hFr, hK.ext E, hM.trans hM' hK.1, fun q => nomatch q⟩ E hM' p1 p2 p3 (Ay.of_arv p4 (by rw [z1]; simp)) p5 p6 (fun z hz => p7 z fun q => hz (Or.inr q))).from stp
  rintro y (q | q)
  · exact Nat.lt_of_lt_of_le (i3 y q) E.1
  · obtain ⟨cell, hc⟩ := Bk.there q; exact (Array.getElem?_eq_some_iff.mp hc).1
theorem g_ldc2 (X : Wk nw l Z EL own bytes maxL ret mnm R h0 B0 ws Q x T h B k n) {idx : Nat} {v : Int64} (hd : Dc bytes pc (.ldc2_w idx) 3 pc') (w : (Cond.constantLong own idx v).before a0 Z = true) (G : Go x (T.setTop (mkF x.m pc' Ls (.long v :: st)))) : Go x (T.setTop (mkF x.m pc Ls st)) := by
  obtain ⟨S, vm0, k0, locs, X, eT, hS, hk, hZ, hown, r⟩ := X
  obtain ⟨hd, rfl⟩ := hd
  exact G.from fun t q => X.ldc2J S.1 hown (mvT (s := x.s.setVm vm0) hZ w) (g := mkF x.m pc Ls st) rfl (S.2.1 ▸ hd) q
theorem g_ldcI (X : Wk nw l Z EL own bytes maxL ret mnm R h0 B0 ws Q x T h B k n) {idx : Nat} {v : Int32} (hd : Dc bytes pc (.ldc idx) 2 pc') (w : (Cond.constant own idx v).before a0 Z = true) (G : Go x (T.setTop (mkF x.m pc' Ls (.int v :: st)))) : Go x (T.setTop (mkF x.m pc Ls st)) := by
  obtain ⟨S, vm0, k0, locs, X, eT, hS, hk, hZ, hown, r⟩ := X
  obtain ⟨hd, rfl⟩ := hd
  exact G.from fun t q => X.ldcI S.1 hown (mvT (s := x.s.setVm vm0) hZ w) (g := mkF x.m pc Ls st) rfl (S.2.1 ▸ hd) q
theorem g_ldcWI (X : Wk nw l Z EL own bytes maxL ret mnm R h0 B0 ws Q x T h B k n) {idx : Nat} {v : Int32} (hd : Dc bytes pc (.ldc_w idx) 3 pc') (w : (Cond.constant own idx v).before a0 Z = true) (G : Go x (T.setTop (mkF x.m pc' Ls (.int v :: st)))) : Go x (T.setTop (mkF x.m pc Ls st)) := by
  obtain ⟨S, vm0, k0, locs, X, eT, hS, hk, hZ, hown, r⟩ := X
  obtain ⟨hd, rfl⟩ := hd
  exact G.from fun t q => X.ldcWI S.1 hown (mvT (s := x.s.setVm vm0) hZ w) (g := mkF x.m pc Ls st) rfl (S.2.1 ▸ hd) q
theorem g_castY (X : Wk nw l Z EL own bytes maxL ret mnm R h0 B0 ws Q x T h B k n) {K : String} {idx : Nat} (hd : Dc bytes pc (.checkcast idx) 3 pc') (w : (Cond.classLink own idx K).before a0 Z = true) {a : Addr} (F : Ins Z h a K true)
    (K' : ∀ T', Wk nw l Z EL own bytes maxL ret mnm R h0 B0 ws Q x T' h B k n → Go x (T'.setTop (mkF x.m pc' Ls (.ref a :: st)))) : Go x (T.setTop (mkF x.m pc Ls (.ref a :: st))) := by
  obtain ⟨S, vm0, k0, locs, X, eT, hS, hk, hZ, hown, r⟩ := X
  obtain ⟨hd, rfl⟩ := hd
  obtain ⟨T', X', e', stp⟩ := castY X S.1 hZ hown w eT F (g := mkF x.m pc Ls (.ref a :: st)) rfl rfl (S.2.1 ▸ hd)
  exact (K' T' ⟨S, vm0, k0, locs, X', e', hS, hk, hZ, hown, r⟩).from stp
theorem g_instY (X : Wk nw l Z EL own bytes maxL ret mnm R h0 B0 ws Q x T h B k n) {K : String} {idx : Nat} (hd : Dc bytes pc (.instanceof idx) 3 pc') (w : (Cond.classLink own idx K).before a0 Z = true) {a : Addr} (F : Ins Z h a K true)
    (K' : ∀ T', Wk nw l Z EL own bytes maxL ret mnm R h0 B0 ws Q x T' h B k n → Go x (T'.setTop (mkF x.m pc' Ls (.int 1 :: st)))) : Go x (T.setTop (mkF x.m pc Ls (.ref a :: st))) := by
  obtain ⟨S, vm0, k0, locs, X, eT, hS, hk, hZ, hown, r⟩ := X
  obtain ⟨hd, rfl⟩ := hd
  obtain ⟨T', X', e', stp⟩ := instY X S.1 hZ hown w eT F (g := mkF x.m pc Ls (.ref a :: st)) rfl rfl (S.2.1 ▸ hd)
  exact (K' T' ⟨S, vm0, k0, locs, X', e', hS, hk, hZ, hown, r⟩).from stp
theorem g_instNo (X : Wk nw l Z EL own bytes maxL ret mnm R h0 B0 ws Q x T h B k n) {K C : String} {idx : Nat} (hd : Dc bytes pc (.instanceof idx) 3 pc') (w : (Cond.classLink own idx K).before a0 Z = true) {a : Addr} (E : Exa Z h a C) (F : ∃ c t, Z.vm.findClass C = some c ∧ Z.vm.findClass K = some t ∧ Z.vm.assignable c t = false)
    (K' : ∀ T', Wk nw l Z EL own bytes maxL ret mnm R h0 B0 ws Q x T' h B k n → Go x (T'.setTop (mkF x.m pc' Ls (.int 0 :: st)))) : Go x (T.setTop (mkF x.m pc Ls (.ref a :: st))) := by
  obtain ⟨S, vm0, k0, locs, X, eT, hS, hk, hZ, hown, r⟩ := X
  obtain ⟨hd, rfl⟩ := hd
  obtain ⟨T', X', e', stp⟩ := instNo X S.1 hZ hown w eT E F (g := mkF x.m pc Ls (.ref a :: st)) rfl rfl (S.2.1 ▸ hd)
  exact (K' T' ⟨S, vm0, k0, locs, X', e', hS, hk, hZ, hown, r⟩).from stp
theorem g_instNull (X : Wk nw l Z EL own bytes maxL ret mnm R h0 B0 ws Q x T h B k n) {idx : Nat} (hd : Dc bytes pc (.instanceof idx) 3 pc') (G : Go x (T.setTop (mkF x.m pc' Ls (.int 0 :: st)))) : Go x (T.setTop (mkF x.m pc Ls (.null :: st))) := by
  obtain ⟨S, vm0, k0, locs, X, eT, hS, hk, hZ, hown, r⟩ := X
  obtain ⟨hd, rfl⟩ := hd
  exact G.from fun t q => X.instanceofNull S.1 (g := mkF x.m pc Ls (.null :: st)) rfl rfl (S.2.1 ▸ hd) t q
theorem k_slice (vs : List Value) (d : Value) (sp nn : Nat) (h : sp + nn ≤ vs.length) : ((List.range nn).map fun i => vs.getD (sp + i) d) = (vs.drop sp).take nn := by
  refine List.ext_getElem (by simp; omega) fun i h1 h2 => ?_
  simp at h1
  simp [List.getD, List.getElem?_eq_getElem (show sp + i < vs.length by omega)]
theorem g_arraycopy (X : Wk nw l Z EL own bytes maxL ret mnm R h0 B0 ws Q x T h B k n) {idx : Nat} {y : MethodName} {ty : FieldType} {a b : Addr} {vs vd : List Value} (hd : Dc bytes pc (.invokestatic idx) 3 pc') (hy : y = Jvm.Stand.acN) (w1 : (Cond.methodLink own idx y).before a0 Z = true) (w2 : (Cond.native y).before a0 Z = true) (w3 : (Cond.static y).before a0 Z = true) (w4 : (Cond.initialized "java/lang/System").before a0 Z = true)
    (A : Ay Z h a ty vs) (D : Ay Z h b ty vd) (hp : refKind ty = false) (sp dp nn : Nat) (h4 : sp + nn ≤ vs.length) (h5 : dp + nn ≤ vd.length) {j1 j2 j3 : Int32} (e1 : j1 = Int32.ofNat sp) (e2 : j2 = Int32.ofNat dp) (e3 : j3 = Int32.ofNat nn) (hsz : Ls.size = maxL) (hB : ¬ B b) (hz : Z.heap.size ≤ b) (hw : b ∈ ws ∨ h0.size ≤ b)
    (W : Nat) (hW : (st.map fun v => v.category).sum ≤ W) (hf : 1 ≤ R.frames) (hl : W + (nativeFrameWords "java/lang/System" "arraycopy" 5 + 11) ≤ R.locals)
    (K : ∀ T' h', Wk nw l Z EL own bytes maxL ret mnm R h0 B0 ws Q x T' h' B k n → Keep h h' [b] → Ay Z h' b ty (vd.take dp ++ (vs.drop sp).take nn ++ vd.drop (dp + nn)) → Go x (T'.setTop (mkF x.m pc' Ls st))) : Go x (T.setTop (mkF x.m pc Ls (.int j3 :: .int j2 :: .ref b :: .int j1 :: .ref a :: st))) := by
  subst hy e1 e2 e3
  obtain ⟨S, vm0, k0, locs, X, eT, hS, hk, hZ, hown, hI, hFr, hK, hM, hN⟩ := X
  obtain ⟨hd, rfl⟩ := hd
  have la := A.len
  have lb := D.len
  obtain ⟨ka, A⟩ := A.arv (.int 0)
  obtain ⟨kb, D⟩ := D.arv (.int 0)
  obtain ⟨s1, s2⟩ := i32_nat (show sp < 2 ^ 31 by omega)
  obtain ⟨d1, d2⟩ := i32_nat (show dp < 2 ^ 31 by omega)
  obtain ⟨n1, n2⟩ := i32_nat (show nn < 2 ^ 31 by omega)
  have va : (vs.length.toInt32).toNatClampNeg = vs.length := (i32_nat la).1
  have vb : (vd.length.toInt32).toNatClampNeg = vd.length := (i32_nat lb).1
  obtain ⟨T', h', L, X', e', hL, K', D', stp⟩ := cpA X S.1 hZ hown w1 w2 w3 w4 eT A D (us := (List.range nn).map fun i => vs.getD (sp + i) (.int 0)) (Or.inl ⟨rfl, hp⟩) s2 d2 n2 (by rw [s1, n1, va]; exact h4) (by rw [d1, n1, vb]; exact h5) (by rw [s1, n1]) (by rw [d1, n1]; exact h5) hFr hz (g := mkF x.m pc Ls (.int (Int32.ofNat nn) :: .int (Int32.ofNat dp) :: .ref b :: .int (Int32.ofNat sp) :: .ref a :: st)) rfl (by rw [S.2.2.1]; exact hsz) rfl (S.2.1 ▸ hd) hf (W := W) (by show 2 * 0 + _ ≤ _; omega) hl
  rw [d1, n1, k_slice vs _ sp nn h4] at D'
  refine (K T' h' ⟨S, vm0, k0, L, X', e', hS, Nat.le_trans hk K'.1, hZ, hown, hI.keep K' (fun y q => by cases List.mem_singleton.mp q; exact ⟨hB, hz⟩), hL, hK.trans K' (fun y q => by cases List.mem_singleton.mp q; exact hw), hM, hN⟩ K' (Ay.of_arv D' ?_)).from stp
  rw [vb]; simp; omega
end Calls
/-! own kit, part 5: numbers and Strings -/
theorem k_inc (i : Nat) : Int32.ofNat i + Int32.ofInt 1 = Int32.ofNat (i + 1) := (inc_ofNat i).symm
theorem k_ofNat {i : Nat} (h : i < 2 ^ 31) : (Int32.ofNat i).toInt = i := Int32.toInt_ofNat_small h
theorem k_lt {i j : Nat} (h : i < j) (hj : j < 2 ^ 31) : Int32.ofNat i < Int32.ofNat j := by
  rw [Int32.lt_iff_toInt_lt, k_ofNat (by omega), k_ofNat hj]; omega
theorem k_nlt {i j : Nat} (h : j ≤ i) (hi : i < 2 ^ 31) : ¬ Int32.ofNat i < Int32.ofNat j := by
  rw [Int32.lt_iff_toInt_lt, k_ofNat hi, k_ofNat (by omega)]; omega
theorem k_eqn {i j : Nat} (hi : i < 2 ^ 31) (hj : j < 2 ^ 31) : Int32.ofNat i = Int32.ofNat j ↔ i = j := by
  rw [← Int32.toInt_inj, k_ofNat hi, k_ofNat hj]; omega
theorem k_sub {i j : Nat} (h : j ≤ i) : Int32.ofNat i - Int32.ofNat j = Int32.ofNat (i - j) := by
  have e : i = (i - j) + j := by omega
  rw [e, Int32.ofNat_add]
  simp
/-- the low byte, signed -/
def lo8 (c : Int32) : Int32 := c.toInt8.toInt32
theorem nar_b8 (c : Int32) : RoadKit.nar .byte (lo8 c) = lo8 c := by simp [RoadKit.nar, lo8]
theorem fit_b8 (c : Int32) : fits .byte (.int (lo8 c)) = true := fits_nar_byte c
/-- a String: its coder, its bytes; all of it lies under N -/
def Str (Z : State) (h : Heap) (N : Nat) (a : Addr) (cd : Int32) (bs : List Int32) : Prop :=
  ∃ t : Addr, @LT.lt Nat _ a N ∧ @LT.lt Nat _ t N ∧ Exa Z h a "java/lang/String" ∧ Fld Z h a "java/lang/String" "coder" "B" (.int cd) ∧ Fld Z h a "java/lang/String" "value" "[B" (.ref t) ∧ Ay Z h t .byte (bs.map Value.int)
theorem Str.keep {Z : State} {h h' : Heap} {N : Nat} {a : Addr} {cd : Int32} {bs : List Int32} {ws : List Addr} (S : Str Z h N a cd bs) (K : Keep h h' ws) (q : ∀ z ∈ ws, N ≤ z) : Str Z h' N a cd bs := by
  obtain ⟨t, l1, l2, e, f, g, r⟩ := S
  have n1 : a ∉ ws := fun z => absurd l1 (Nat.not_lt.mpr (q a z))
  have n2 : t ∉ ws := fun z => absurd l2 (Nat.not_lt.mpr (q t z))
  exact ⟨t, l1, l2, e.keep K, f.keep K n1, g.keep K n1, r.keep K n2⟩
theorem Ay.ne {Z : State} {a0 : Array Value} {h : Heap} {a t : Addr} {C : String} {n : Nat} {ty : FieldType} {vs : List Value} (E : Exa Z h a C) (w : (Cond.instantiable C n).before a0 Z = true) (A : Ay Z h t ty vs) : a ≠ t := by
  obtain ⟨c, A, -⟩ := A
  exact ne_arr E w A
theorem Str.keepX {Z : State} {h h' : Heap} {N : Nat} {a z : Addr} {cd : Int32} {bs : List Int32} {C : String} {n : Nat} {a0 : Array Value} (S : Str Z h N a cd bs) (K : Keep h h' [z]) (E : Exa Z h z C) (w : (Cond.instantiable C n).before a0 Z = true) (hn : "java/lang/String" ≠ C) : Str Z h' N a cd bs := by
  obtain ⟨t, l1, l2, e, f, g, r⟩ := S
  have n1 : a ∉ [z] := ninS (ne_exa e E hn) nin0
  have n2 : t ∉ [z] := ninS (Ne.symm (Ay.ne E w r)) nin0
  exact ⟨t, l1, l2, e.keep K, f.keep K n1, g.keep K n1, r.keep K n2⟩
theorem Str.ext {Z : State} {h h' : Heap} {N : Nat} {a : Addr} {cd : Int32} {bs : List Int32} (S : Str Z h N a cd bs) (E : Ext h h') : Str Z h' N a cd bs := S.keep ((Keep.refl h []).ext E) (fun _ q => nomatch q)
theorem Str.mono {Z : State} {h : Heap} {N N' : Nat} {a : Addr} {cd : Int32} {bs : List Int32} (S : Str Z h N a cd bs) (q : N ≤ N') : Str Z h N' a cd bs := by
  obtain ⟨t, l1, l2, r⟩ := S; exact ⟨t, Nat.lt_of_lt_of_le l1 q, Nat.lt_of_lt_of_le l2 q, r⟩
theorem Str.exa {Z : State} {h : Heap} {N : Nat} {a : Addr} {cd : Int32} {bs : List Int32} (S : Str Z h N a cd bs) : Exa Z h a "java/lang/String" := by obtain ⟨t, l1, l2, e, r⟩ := S; exact e
theorem Str.lt {Z : State} {h : Heap} {N : Nat} {a : Addr} {cd : Int32} {bs : List Int32} (S : Str Z h N a cd bs) : @LT.lt Nat _ a N := by obtain ⟨t, l1, r⟩ := S; exact l1
theorem Str.len {Z : State} {h : Heap} {N : Nat} {a : Addr} {cd : Int32} {bs : List Int32} (S : Str Z h N a cd bs) : bs.length < 2 ^ 31 := by obtain ⟨t, l1, l2, e, f, g, A⟩ := S; simpa using A.len
theorem k_fill (cs : List Int32) (f : Int32 → Int32) (i : Nat) (hi : i < cs.length) :
    (((cs.take i).map (fun c => Value.int (f c)) ++ List.replicate (cs.length - i) (Value.int 0)).set i (.int (f cs[i]))) = (cs.take (i + 1)).map (fun c => Value.int (f c)) ++ List.replicate (cs.length - (i + 1)) (Value.int 0) := by
  have e1 : ((cs.take i).map (fun c => Value.int (f c))).length = i := by simp; omega
  have e2 : cs.length - i = (cs.length - (i + 1)) + 1 := by omega
  rw [e2, List.replicate_succ, List.take_succ_eq_append_getElem hi, List.map_append]
  generalize (cs.take i).map (fun c => Value.int (f c)) = P at e1
  rw [List.set_append_right _ _ (by omega)]
  simp [e1]
/-- a String that is read -/
def StrV (Z : State) (h : Heap) (a : Addr) (cd : Int32) (bs : List Int32) : Prop :=
  ∃ t, Exa Z h a "java/lang/String" ∧ Fld Z h a "java/lang/String" "coder" "B" (.int cd) ∧ Fld Z h a "java/lang/String" "value" "[B" (.ref t) ∧ Ay Z h t .byte (bs.map Value.int)
theorem StrV.op {Z : State} {h : Heap} {a : Addr} {cd : Int32} {bs : List Int32} (S : StrV Z h a cd bs) : ∃ t, Exa Z h a "java/lang/String" ∧ Fld Z h a "java/lang/String" "coder" "B" (.int cd) ∧ Fld Z h a "java/lang/String" "value" "[B" (.ref t) ∧ Ay Z h t .byte (bs.map Value.int) := S
theorem Str.v {Z : State} {h : Heap} {N : Nat} {a : Addr} {cd : Int32} {bs : List Int32} (S : Str Z h N a cd bs) : StrV Z h a cd bs := by obtain ⟨t, -, -, r⟩ := S; exact ⟨t, r⟩
theorem Fld.uniq {Z : State} {h : Heap} {a : Addr} {C n d : String} {v w : Value} (F : Fld Z h a C n d v) (G : Fld Z h a C n d w) : v = w := by
  rcases Classical.em (v = w) with q | q
  · exact q
  · exact absurd rfl (F.ne G q)
theorem Ay.uniq {Z : State} {h : Heap} {a : Addr} {ty ty' : FieldType} {vs us : List Value} (F : Ay Z h a ty vs) (G : Ay Z h a ty' us) : vs = us := by
  obtain ⟨c, A, e, -⟩ := F
  obtain ⟨c', A', e', -⟩ := G
  cases A.1.symm.trans A'.1
  exact e.symm.trans e'
theorem StrV.uniq {Z : State} {h : Heap} {a : Addr} {cd cd' : Int32} {bs bs' : List Int32} (S : StrV Z h a cd bs) (S' : StrV Z h a cd' bs') : bs = bs' := by
  obtain ⟨t, -, -, f, A⟩ := S
  obtain ⟨t', -, -, f', A'⟩ := S'
  cases Value.ref.inj (Fld.uniq f f')
  have := A.uniq A'
  exact (List.map_inj_right (fun a b q => Value.int.inj q)).mp this
theorem StrV.len {Z : State} {h : Heap} {a : Addr} {cd : Int32} {bs : List Int32} (S : StrV Z h a cd bs) : bs.length < 2 ^ 31 := by obtain ⟨t, -, -, -, A⟩ := S; simpa using A.len
theorem k_shr0 (x : Int32) : x >>> ((0 : Int32) &&& 31) = x := by
  have : ((0 : Int32) &&& 31) = 0 := by decide
  rw [this]
  apply Int32.toBitVec_inj.mp
  simp
/-- an object of the class C (below Object alone) is none of K -/
theorem k_not {Z : State} {a0 : Array Value} {C K O : String} {n : Nat} (w : (Cond.superclass C O).before a0 Z = true) (wo : (Cond.noSuperclass O).before a0 Z = true) (wk : (Cond.instantiable K n).before a0 Z = true) (h1 : C ≠ K) (h2 : O ≠ K) : ∃ c t, Z.vm.findClass C = some c ∧ Z.vm.findClass K = some t ∧ Z.vm.assignable c t = false := by
  obtain ⟨t, k', g0, g2, g5, hi⟩ : ∃ t k', Z.vm.findClass K = some t ∧ Z.vm.classes[t]? = some k' ∧ k'.kind = .ordinary ∧ k'.isInterface = false := by
    obtain ⟨t, k', g1, g2, g3, g4, -⟩ := Cond.instantiable_spec wk
    exact ⟨t, k', g1, g2, g3, by simpa using (Bool.or_eq_false_iff.mp g4).1⟩
  obtain ⟨co, ko, o1, o2, o3, -, -⟩ := Cond.noSuperclass_spec wo
  obtain ⟨c, h0⟩ := found_sup w
  obtain ⟨p, k, kp, q1, q2, q3, q4, q5, -, q7⟩ := Cond.superclass_spec h0 w
  cases o1.symm.trans q1
  have ne := ids_ne h0 g0 h1
  have neo := ids_ne o1 g0 h2
  have no : ∀ fuel, Z.vm.isSubclassAux fuel co t = false := fun fuel => by
    cases fuel with
    | zero => rfl
    | succ f => simp [Vm.isSubclassAux, neo, o2, o3]
  have nc : ∀ fuel, Z.vm.isSubclassAux fuel c t = false := fun fuel => by
    cases fuel with
    | zero => rfl
    | succ f => simp [Vm.isSubclassAux, ne, q2, q4, no]
  refine ⟨c, t, h0, g0, ?_⟩
  show Z.vm.assignableAux (255 + 1) c t = false
  simp [Vm.assignableAux, ne, q2, g2, q5, g5, hi, Vm.isSubclass, nc]
theorem k_nn {i : Nat} (h : i < 2 ^ 31) : ¬ Int32.ofNat i < 0 := (i32_nat h).2
theorem k_ne0 {i : Nat} (h : 0 < i) (hi : i < 2 ^ 31) : ¬ Int32.ofNat i = 0 := fun q => by
  have := (k_eqn hi (by decide)).mp (show Int32.ofNat i = Int32.ofNat 0 from q)
  omega
theorem k_add (i j : Nat) : Int32.ofNat i + Int32.ofNat j = Int32.ofNat (i + j) := (Int32.ofNat_add i j).symm
theorem k_min {i j : Nat} (h : j ≤ i) (hi : i < 2 ^ 31) : (if Int32.ofNat j < Int32.ofNat i then Int32.ofNat j else Int32.ofNat i) = Int32.ofNat j := by
  rcases Nat.lt_or_ge j i with q | q
  · rw [if_pos (k_lt q hi)]
  · have : i = j := by omega
    subst this
    split <;> rfl
abbrev HW (Z : State) (a0 : Array Value) : Prop := ∀ d ∈ tables_1, d.before a0 Z = true
theorem w0 {Z : State} {a0 : Array Value} (hw : HW Z a0) : ((Jvm.Cond.methodLink "com/example/musterpoint/musterpoint/registry/ProblemBodyPinLaw" (7 : Nat) ({ cls := "com/example/musterpoint/musterpoint/registry/ProblemBodyPinLaw", name := "ch", desc := "(I)C" } : Jvm.MethodName))).before a0 Z = true := hw _ (List.mem_of_getElem? (i := 0) rfl)
theorem w1 {Z : State} {a0 : Array Value} (hw : HW Z a0) : ((Jvm.Cond.static ({ cls := "com/example/musterpoint/musterpoint/registry/ProblemBodyPinLaw", name := "ch", desc := "(I)C" } : Jvm.MethodName))).before a0 Z = true := hw _ (List.mem_of_getElem? (i := 1) rfl)
theorem w2 {Z : State} {a0 : Array Value} (hw : HW Z a0) : ((Jvm.Cond.initialized "com/example/musterpoint/musterpoint/registry/ProblemBodyPinLaw")).before a0 Z = true := hw _ (List.mem_of_getElem? (i := 2) rfl)
theorem w3 {Z : State} {a0 : Array Value} (hw : HW Z a0) : ((Jvm.Cond.code ({ cls := "com/example/musterpoint/musterpoint/registry/ProblemBodyPinLaw", name := "ch", desc := "(I)C" } : Jvm.MethodName) method_3_code (2 : Nat) (Option.some Jvm.ClassFile.FieldType.char))).before a0 Z = true := hw _ (List.mem_of_getElem? (i := 3) rfl)
theorem w4 {Z : State} {a0 : Array Value} (hw : HW Z a0) : ((Jvm.Cond.constant "com/example/musterpoint/musterpoint/registry/ProblemBodyPinLaw" (35 : Nat) (65535 : Int32))).before a0 Z = true := hw _ (List.mem_of_getElem? (i := 4) rfl)
theorem w5 {Z : State} {a0 : Array Value} (hw : HW Z a0) : ((Jvm.Cond.constant "com/example/musterpoint/musterpoint/registry/ProblemBodyPinLaw" (36 : Nat) (55296 : Int32))).before a0 Z = true := hw _ (List.mem_of_getElem? (i := 5) rfl)
theorem w6 {Z : State} {a0 : Array Value} (hw : HW Z a0) : ((Jvm.Cond.arrayClass Jvm.ClassFile.FieldType.byte)).before a0 Z = true := hw _ (List.mem_of_getElem? (i := 6) rfl)
theorem w7 {Z : State} {a0 : Array Value} (hw : HW Z a0) : ((Jvm.Cond.arrayClass Jvm.ClassFile.FieldType.char)).before a0 Z = true := hw _ (List.mem_of_getElem? (i := 7) rfl)
theorem w8 {Z : State} {a0 : Array Value} (hw : HW Z a0) : ((Jvm.Cond.classLink "com/example/musterpoint/musterpoint/registry/ProblemBodyPinLaw" (22 : Nat) "com/example/musterpoint/musterpoint/registry/Problem")).before a0 Z = true := hw _ (List.mem_of_getElem? (i := 8) rfl)
theorem w9 {Z : State} {a0 : Array Value} (hw : HW Z a0) : ((Jvm.Cond.instantiable "com/example/musterpoint/musterpoint/registry/Problem" (7 : Nat))).before a0 Z = true := hw _ (List.mem_of_getElem? (i := 9) rfl)
theorem w10 {Z : State} {a0 : Array Value} (hw : HW Z a0) : ((Jvm.Cond.initialized "com/example/musterpoint/musterpoint/registry/Problem")).before a0 Z = true := hw _ (List.mem_of_getElem? (i := 10) rfl)
theorem w11 {Z : State} {a0 : Array Value} (hw : HW Z a0) : ((Jvm.Cond.methodLink "com/example/musterpoint/musterpoint/registry/ProblemBodyPinLaw" (24 : Nat) ({ cls := "com/example/musterpoint/musterpoint/registry/Problem", name := "<init>", desc := "(ILjava/lang/String;)V" } : Jvm.MethodName))).before a0 Z = true := hw _ (List.mem_of_getElem? (i := 11) rfl)
theorem w12 {Z : State} {a0 : Array Value} (hw : HW Z a0) : ((Jvm.Cond.instanceMethod ({ cls := "com/example/musterpoint/musterpoint/registry/Problem", name := "<init>", desc := "(ILjava/lang/String;)V" } : Jvm.MethodName))).before a0 Z = true := hw _ (List.mem_of_getElem? (i := 12) rfl)
theorem w13 {Z : State} {a0 : Array Value} (hw : HW Z a0) : ((Jvm.Cond.code ({ cls := "com/example/musterpoint/musterpoint/registry/Problem", name := "<init>", desc := "(ILjava/lang/String;)V" } : Jvm.MethodName) prog_15_method_1_code (3 : Nat) (Option.none : Option Jvm.ClassFile.FieldType))).before a0 Z = true := hw _ (List.mem_of_getElem? (i := 13) rfl)
theorem w14 {Z : State} {a0 : Array Value} (hw : HW Z a0) : ((Jvm.Cond.methodLink "com/example/musterpoint/musterpoint/registry/Problem" (1 : Nat) ({ cls := "java/lang/Exception", name := "<init>", desc := "(Ljava/lang/String;Ljava/lang/Throwable;ZZ)V" } : Jvm.MethodName))).before a0 Z = true := hw _ (List.mem_of_getElem? (i := 14) rfl)
theorem w15 {Z : State} {a0 : Array Value} (hw : HW Z a0) : ((Jvm.Cond.instanceMethod ({ cls := "java/lang/Exception", name := "<init>", desc := "(Ljava/lang/String;Ljava/lang/Throwable;ZZ)V" } : Jvm.MethodName))).before a0 Z = true := hw _ (List.mem_of_getElem? (i := 15) rfl)
theorem w17 {Z : State} {a0 : Array Value} (hw : HW Z a0) : ((Jvm.Cond.initialized "java/lang/Exception")).before a0 Z = true := hw _ (List.mem_of_getElem? (i := 17) rfl)
theorem w18 {Z : State} {a0 : Array Value} (hw : HW Z a0) : ((Jvm.Cond.code ({ cls := "java/lang/Exception", name := "<init>", desc := "(Ljava/lang/String;Ljava/lang/Throwable;ZZ)V" } : Jvm.MethodName) jdk_59_method_5_code (5 : Nat) (Option.none : Option Jvm.ClassFile.FieldType))).before a0 Z = true := hw _ (List.mem_of_getElem? (i := 18) rfl)
theorem w19 {Z : State} {a0 : Array Value} (hw : HW Z a0) : ((Jvm.Cond.methodLink "java/lang/Exception" (16 : Nat) ({ cls := "java/lang/Throwable", name := "<init>", desc := "(Ljava/lang/String;Ljava/lang/Throwable;ZZ)V" } : Jvm.MethodName))).before a0 Z = true := hw _ (List.mem_of_getElem? (i := 19) rfl)
theorem w20 {Z : State} {a0 : Array Value} (hw : HW Z a0) : ((Jvm.Cond.instanceMethod ({ cls := "java/lang/Throwable", name := "<init>", desc := "(Ljava/lang/String;Ljava/lang/Throwable;ZZ)V" } : Jvm.MethodName))).before a0 Z = true := hw _ (List.mem_of_getElem? (i := 20) rfl)
theorem w23 {Z : State} {a0 : Array Value} (hw : HW Z a0) : ((Jvm.Cond.initialized "java/lang/Throwable")).before a0 Z = true := hw _ (List.mem_of_getElem? (i := 23) rfl)
theorem w24 {Z : State} {a0 : Array Value} (hw : HW Z a0) : ((Jvm.Cond.code ({ cls := "java/lang/Throwable", name := "<init>", desc := "(Ljava/lang/String;Ljava/lang/Throwable;ZZ)V" } : Jvm.MethodName) jdk_78_method_5_code (5 : Nat) (Option.none : Option Jvm.ClassFile.FieldType))).before a0 Z = true := hw _ (List.mem_of_getElem? (i := 24) rfl)
theorem w25 {Z : State} {a0 : Array Value} (hw : HW Z a0) : ((Jvm.Cond.methodLink "java/lang/Throwable" (1 : Nat) ({ cls := "java/lang/Object", name := "<init>", desc := "()V" } : Jvm.MethodName))).before a0 Z = true := hw _ (List.mem_of_getElem? (i := 25) rfl)
theorem w26 {Z : State} {a0 : Array Value} (hw : HW Z a0) : ((Jvm.Cond.instanceMethod ({ cls := "java/lang/Object", name := "<init>", desc := "()V" } : Jvm.MethodName))).before a0 Z = true := hw _ (List.mem_of_getElem? (i := 26) rfl)
theorem w27 {Z : State} {a0 : Array Value} (hw : HW Z a0) : ((Jvm.Cond.code ({ cls := "java/lang/Object", name := "<init>", desc := "()V" } : Jvm.MethodName) object_method_1_code (1 : Nat) (Option.none : Option Jvm.ClassFile.FieldType))).before a0 Z = true := hw _ (List.mem_of_getElem? (i := 27) rfl)
theorem w28 {Z : State} {a0 : Array Value} (hw : HW Z a0) : ((Jvm.Cond.fieldLink "java/lang/Throwable" (7 : Nat) "java/lang/Throwable" "cause" "Ljava/lang/Throwable;")).before a0 Z = true := hw _ (List.mem_of_getElem? (i := 28) rfl)
theorem w29 {Z : State} {a0 : Array Value} (hw : HW Z a0) : ((Jvm.Cond.lays "com/example/musterpoint/musterpoint/registry/Problem" "java/lang/Throwable" "cause" "Ljava/lang/Throwable;")).before a0 Z = true := hw _ (List.mem_of_getElem? (i := 29) rfl)
theorem w30 {Z : State} {a0 : Array Value} (hw : HW Z a0) : ((Jvm.Cond.fieldLink "java/lang/Throwable" (13 : Nat) "java/lang/Throwable" "UNASSIGNED_STACK" "[Ljava/lang/StackTraceElement;")).before a0 Z = true := hw _ (List.mem_of_getElem? (i := 30) rfl)
theorem w31 {Z : State} {a0 : Array Value} (hw : HW Z a0) : ((Jvm.Cond.fieldLink "java/lang/Throwable" (17 : Nat) "java/lang/Throwable" "stackTrace" "[Ljava/lang/StackTraceElement;")).before a0 Z = true := hw _ (List.mem_of_getElem? (i := 31) rfl)
theorem w32 {Z : State} {a0 : Array Value} (hw : HW Z a0) : ((Jvm.Cond.lays "com/example/musterpoint/musterpoint/registry/Problem" "java/lang/Throwable" "stackTrace" "[Ljava/lang/StackTraceElement;")).before a0 Z = true := hw _ (List.mem_of_getElem? (i := 32) rfl)
theorem w33 {Z : State} {a0 : Array Value} (hw : HW Z a0) : ((Jvm.Cond.fieldLink "java/lang/Throwable" (20 : Nat) "java/lang/Throwable" "SUPPRESSED_SENTINEL" "Ljava/util/List;")).before a0 Z = true := hw _ (List.mem_of_getElem? (i := 33) rfl)
theorem w34 {Z : State} {a0 : Array Value} (hw : HW Z a0) : ((Jvm.Cond.fieldLink "java/lang/Throwable" (24 : Nat) "java/lang/Throwable" "suppressedExceptions" "Ljava/util/List;")).before a0 Z = true := hw _ (List.mem_of_getElem? (i := 34) rfl)
theorem w35 {Z : State} {a0 : Array Value} (hw : HW Z a0) : ((Jvm.Cond.lays "com/example/musterpoint/musterpoint/registry/Problem" "java/lang/Throwable" "suppressedExceptions" "Ljava/util/List;")).before a0 Z = true := hw _ (List.mem_of_getElem? (i := 35) rfl)
theorem w36 {Z : State} {a0 : Array Value} (hw : HW Z a0) : ((Jvm.Cond.fieldLink "java/lang/Throwable" (31 : Nat) "java/lang/Throwable" "detailMessage" "Ljava/lang/String;")).before a0 Z = true := hw _ (List.mem_of_getElem? (i := 36) rfl)
theorem w37 {Z : State} {a0 : Array Value} (hw : HW Z a0) : ((Jvm.Cond.lays "com/example/musterpoint/musterpoint/registry/Problem" "java/lang/Throwable" "detailMessage" "Ljava/lang/String;")).before a0 Z = true := hw _ (List.mem_of_getElem? (i := 37) rfl)
theorem w38 {Z : State} {a0 : Array Value} (hw : HW Z a0) : ((Jvm.Cond.fieldLink "com/example/musterpoint/musterpoint/registry/Problem" (7 : Nat) "com/example/musterpoint/musterpoint/registry/Problem" "status" "I")).before a0 Z = true := hw _ (List.mem_of_getElem? (i := 38) rfl)
theorem w39 {Z : State} {a0 : Array Value} (hw : HW Z a0) : ((Jvm.Cond.laysFinal "com/example/musterpoint/musterpoint/registry/Problem" "com/example/musterpoint/musterpoint/registry/Problem" "status" "I")).before a0 Z = true := hw _ (List.mem_of_getElem? (i := 39) rfl)
theorem w40 {Z : State} {a0 : Array Value} (hw : HW Z a0) : ((Jvm.Cond.methodLink "com/example/musterpoint/musterpoint/registry/ProblemBodyPinLaw" (27 : Nat) ({ cls := "com/example/musterpoint/musterpoint/registry/Problem", name := "body", desc := "()[B" } : Jvm.MethodName))).before a0 Z = true := hw _ (List.mem_of_getElem? (i := 40) rfl)
theorem w41 {Z : State} {a0 : Array Value} (hw : HW Z a0) : ((Jvm.Cond.declares ({ cls := "com/example/musterpoint/musterpoint/registry/Problem", name := "body", desc := "()[B" } : Jvm.MethodName))).before a0 Z = true := hw _ (List.mem_of_getElem? (i := 41) rfl)
theorem w42 {Z : State} {a0 : Array Value} (hw : HW Z a0) : ((Jvm.Cond.instanceMethod ({ cls := "com/example/musterpoint/musterpoint/registry/Problem", name := "body", desc := "()[B" } : Jvm.MethodName))).before a0 Z = true := hw _ (List.mem_of_getElem? (i := 42) rfl)
theorem w43 {Z : State} {a0 : Array Value} (hw : HW Z a0) : ((Jvm.Cond.selects "com/example/musterpoint/musterpoint/registry/Problem" ({ cls := "com/example/musterpoint/musterpoint/registry/Problem", name := "body", desc := "()[B" } : Jvm.MethodName) ({ cls := "com/example/musterpoint/musterpoint/registry/Problem", name := "body", desc := "()[B" } : Jvm.MethodName))).before a0 Z = true := hw _ (List.mem_of_getElem? (i := 43) rfl)
theorem w44 {Z : State} {a0 : Array Value} (hw : HW Z a0) : ((Jvm.Cond.code ({ cls := "com/example/musterpoint/musterpoint/registry/Problem", name := "body", desc := "()[B" } : Jvm.MethodName) prog_15_method_5_code (1 : Nat) (Option.some (Jvm.ClassFile.FieldType.array Jvm.ClassFile.FieldType.byte)))).before a0 Z = true := hw _ (List.mem_of_getElem? (i := 44) rfl)
theorem w45 {Z : State} {a0 : Array Value} (hw : HW Z a0) : ((Jvm.Cond.classLink "com/example/musterpoint/musterpoint/registry/Problem" (32 : Nat) "java/lang/StringBuilder")).before a0 Z = true := hw _ (List.mem_of_getElem? (i := 45) rfl)
theorem w46 {Z : State} {a0 : Array Value} (hw : HW Z a0) : ((Jvm.Cond.instantiable "java/lang/StringBuilder" (4 : Nat))).before a0 Z = true := hw _ (List.mem_of_getElem? (i := 46) rfl)
theorem w47 {Z : State} {a0 : Array Value} (hw : HW Z a0) : ((Jvm.Cond.initialized "java/lang/StringBuilder")).before a0 Z = true := hw _ (List.mem_of_getElem? (i := 47) rfl)
theorem w48 {Z : State} {a0 : Array Value} (hw : HW Z a0) : ((Jvm.Cond.methodLink "com/example/musterpoint/musterpoint/registry/Problem" (34 : Nat) ({ cls := "java/lang/StringBuilder", name := "<init>", desc := "()V" } : Jvm.MethodName))).before a0 Z = true := hw _ (List.mem_of_getElem? (i := 48) rfl)
theorem w49 {Z : State} {a0 : Array Value} (hw : HW Z a0) : ((Jvm.Cond.instanceMethod ({ cls := "java/lang/StringBuilder", name := "<init>", desc := "()V" } : Jvm.MethodName))).before a0 Z = true := hw _ (List.mem_of_getElem? (i := 49) rfl)
theorem w50 {Z : State} {a0 : Array Value} (hw : HW Z a0) : ((Jvm.Cond.code ({ cls := "java/lang/StringBuilder", name := "<init>", desc := "()V" } : Jvm.MethodName) jdk_67_method_1_code (1 : Nat) (Option.none : Option Jvm.ClassFile.FieldType))).before a0 Z = true := hw _ (List.mem_of_getElem? (i := 50) rfl)
theorem w51 {Z : State} {a0 : Array Value} (hw : HW Z a0) : ((Jvm.Cond.methodLink "java/lang/StringBuilder" (1 : Nat) ({ cls := "java/lang/AbstractStringBuilder", name := "<init>", desc := "(I)V" } : Jvm.MethodName))).before a0 Z = true := hw _ (List.mem_of_getElem? (i := 51) rfl)
theorem w52 {Z : State} {a0 : Array Value} (hw : HW Z a0) : ((Jvm.Cond.instanceMethod ({ cls := "java/lang/AbstractStringBuilder", name := "<init>", desc := "(I)V" } : Jvm.MethodName))).before a0 Z = true := hw _ (List.mem_of_getElem? (i := 52) rfl)
theorem w55 {Z : State} {a0 : Array Value} (hw : HW Z a0) : ((Jvm.Cond.initialized "java/lang/AbstractStringBuilder")).before a0 Z = true := hw _ (List.mem_of_getElem? (i := 55) rfl)
theorem w56 {Z : State} {a0 : Array Value} (hw : HW Z a0) : ((Jvm.Cond.code ({ cls := "java/lang/AbstractStringBuilder", name := "<init>", desc := "(I)V" } : Jvm.MethodName) jdk_68_method_2_code (2 : Nat) (Option.none : Option Jvm.ClassFile.FieldType))).before a0 Z = true := hw _ (List.mem_of_getElem? (i := 56) rfl)
theorem w57 {Z : State} {a0 : Array Value} (hw : HW Z a0) : ((Jvm.Cond.methodLink "java/lang/AbstractStringBuilder" (3 : Nat) ({ cls := "java/lang/Object", name := "<init>", desc := "()V" } : Jvm.MethodName))).before a0 Z = true := hw _ (List.mem_of_getElem? (i := 57) rfl)
theorem w58 {Z : State} {a0 : Array Value} (hw : HW Z a0) : ((Jvm.Cond.fieldLink "java/lang/AbstractStringBuilder" (18 : Nat) "java/lang/String" "COMPACT_STRINGS" "Z")).before a0 Z = true := hw _ (List.mem_of_getElem? (i := 58) rfl)
theorem w59 {Z : State} {a0 : Array Value} (hw : HW Z a0) : ((Jvm.Cond.initialized "java/lang/String")).before a0 Z = true := hw _ (List.mem_of_getElem? (i := 59) rfl)
theorem w60 {Z : State} {a0 : Array Value} (hw : HW Z a0) : ((Jvm.Cond.fieldLink "java/lang/AbstractStringBuilder" (15 : Nat) "java/lang/AbstractStringBuilder" "value" "[B")).before a0 Z = true := hw _ (List.mem_of_getElem? (i := 60) rfl)
theorem w61 {Z : State} {a0 : Array Value} (hw : HW Z a0) : ((Jvm.Cond.lays "java/lang/StringBuilder" "java/lang/AbstractStringBuilder" "value" "[B")).before a0 Z = true := hw _ (List.mem_of_getElem? (i := 61) rfl)
theorem w62 {Z : State} {a0 : Array Value} (hw : HW Z a0) : ((Jvm.Cond.fieldLink "java/lang/AbstractStringBuilder" (22 : Nat) "java/lang/AbstractStringBuilder" "coder" "B")).before a0 Z = true := hw _ (List.mem_of_getElem? (i := 62) rfl)
theorem w63 {Z : State} {a0 : Array Value} (hw : HW Z a0) : ((Jvm.Cond.lays "java/lang/StringBuilder" "java/lang/AbstractStringBuilder" "coder" "B")).before a0 Z = true := hw _ (List.mem_of_getElem? (i := 63) rfl)
theorem w64 {Z : State} {a0 : Array Value} (hw : HW Z a0) : ((Jvm.Cond.methodLink "com/example/musterpoint/musterpoint/registry/Problem" (47 : Nat) ({ cls := "com/example/musterpoint/musterpoint/registry/Problem", name := "getMessage", desc := "()Ljava/lang/String;" } : Jvm.MethodName))).before a0 Z = true := hw _ (List.mem_of_getElem? (i := 64) rfl)
theorem w65 {Z : State} {a0 : Array Value} (hw : HW Z a0) : ((Jvm.Cond.sameMethod "com/example/musterpoint/musterpoint/registry/Problem" "java/lang/Throwable" "getMessage" "()Ljava/lang/String;")).before a0 Z = true := hw _ (List.mem_of_getElem? (i := 65) rfl)
theorem w66 {Z : State} {a0 : Array Value} (hw : HW Z a0) : ((Jvm.Cond.declares ({ cls := "java/lang/Throwable", name := "getMessage", desc := "()Ljava/lang/String;" } : Jvm.MethodName))).before a0 Z = true := hw _ (List.mem_of_getElem? (i := 66) rfl)
theorem w67 {Z : State} {a0 : Array Value} (hw : HW Z a0) : ((Jvm.Cond.instanceMethod ({ cls := "java/lang/Throwable", name := "getMessage", desc := "()Ljava/lang/String;" } : Jvm.MethodName))).before a0 Z = true := hw _ (List.mem_of_getElem? (i := 67) rfl)
theorem w68 {Z : State} {a0 : Array Value} (hw : HW Z a0) : ((Jvm.Cond.selects "com/example/musterpoint/musterpoint/registry/Problem" ({ cls := "com/example/musterpoint/musterpoint/registry/Problem", name := "getMessage", desc := "()Ljava/lang/String;" } : Jvm.MethodName) ({ cls := "java/lang/Throwable", name := "getMessage", desc := "()Ljava/lang/String;" } : Jvm.MethodName))).before a0 Z = true := hw _ (List.mem_of_getElem? (i := 68) rfl)
theorem w69 {Z : State} {a0 : Array Value} (hw : HW Z a0) : ((Jvm.Cond.code ({ cls := "java/lang/Throwable", name := "getMessage", desc := "()Ljava/lang/String;" } : Jvm.MethodName) jdk_78_method_6_code (1 : Nat) (Option.some (Jvm.ClassFile.FieldType.object "java/lang/String")))).before a0 Z = true := hw _ (List.mem_of_getElem? (i := 69) rfl)
theorem w70 {Z : State} {a0 : Array Value} (hw : HW Z a0) : ((Jvm.Cond.methodLink "com/example/musterpoint/musterpoint/registry/Problem" (39 : Nat) ({ cls := "java/lang/StringBuilder", name := "append", desc := "(Ljava/lang/String;)Ljava/lang/StringBuilder;" } : Jvm.MethodName))).before a0 Z = true := hw _ (List.mem_of_getElem? (i := 70) rfl)
theorem w71 {Z : State} {a0 : Array Value} (hw : HW Z a0) : ((Jvm.Cond.declares ({ cls := "java/lang/StringBuilder", name := "append", desc := "(Ljava/lang/String;)Ljava/lang/StringBuilder;" } : Jvm.MethodName))).before a0 Z = true := hw _ (List.mem_of_getElem? (i := 71) rfl)
theorem w72 {Z : State} {a0 : Array Value} (hw : HW Z a0) : ((Jvm.Cond.instanceMethod ({ cls := "java/lang/StringBuilder", name := "append", desc := "(Ljava/lang/String;)Ljava/lang/StringBuilder;" } : Jvm.MethodName))).before a0 Z = true := hw _ (List.mem_of_getElem? (i := 72) rfl)
theorem w73 {Z : State} {a0 : Array Value} (hw : HW Z a0) : ((Jvm.Cond.selects "java/lang/StringBuilder" ({ cls := "java/lang/StringBuilder", name := "append", desc := "(Ljava/lang/String;)Ljava/lang/StringBuilder;" } : Jvm.MethodName) ({ cls := "java/lang/StringBuilder", name := "append", desc := "(Ljava/lang/String;)Ljava/lang/StringBuilder;" } : Jvm.MethodName))).before a0 Z = true := hw _ (List.mem_of_getElem? (i := 73) rfl)
theorem w74 {Z : State} {a0 : Array Value} (hw : HW Z a0) : ((Jvm.Cond.code ({ cls := "java/lang/StringBuilder", name := "append", desc := "(Ljava/lang/String;)Ljava/lang/StringBuilder;" } : Jvm.MethodName) jdk_67_method_7_code (2 : Nat) (Option.some (Jvm.ClassFile.FieldType.object "java/lang/StringBuilder")))).before a0 Z = true := hw _ (List.mem_of_getElem? (i := 74) rfl)
theorem w75 {Z : State} {a0 : Array Value} (hw : HW Z a0) : ((Jvm.Cond.methodLink "java/lang/StringBuilder" (29 : Nat) ({ cls := "java/lang/AbstractStringBuilder", name := "append", desc := "(Ljava/lang/String;)Ljava/lang/AbstractStringBuilder;" } : Jvm.MethodName))).before a0 Z = true := hw _ (List.mem_of_getElem? (i := 75) rfl)
theorem w76 {Z : State} {a0 : Array Value} (hw : HW Z a0) : ((Jvm.Cond.instanceMethod ({ cls := "java/lang/AbstractStringBuilder", name := "append", desc := "(Ljava/lang/String;)Ljava/lang/AbstractStringBuilder;" } : Jvm.MethodName))).before a0 Z = true := hw _ (List.mem_of_getElem? (i := 76) rfl)
theorem w77 {Z : State} {a0 : Array Value} (hw : HW Z a0) : ((Jvm.Cond.superclass "java/lang/StringBuilder" "java/lang/AbstractStringBuilder")).before a0 Z = true := hw _ (List.mem_of_getElem? (i := 77) rfl)
theorem w79 {Z : State} {a0 : Array Value} (hw : HW Z a0) : ((Jvm.Cond.code ({ cls := "java/lang/AbstractStringBuilder", name := "append", desc := "(Ljava/lang/String;)Ljava/lang/AbstractStringBuilder;" } : Jvm.MethodName) jdk_68_method_22_code (3 : Nat) (Option.some (Jvm.ClassFile.FieldType.object "java/lang/AbstractStringBuilder")))).before a0 Z = true := hw _ (List.mem_of_getElem? (i := 79) rfl)
theorem w80 {Z : State} {a0 : Array Value} (hw : HW Z a0) : ((Jvm.Cond.methodLink "java/lang/AbstractStringBuilder" (204 : Nat) ({ cls := "java/lang/AbstractStringBuilder", name := "appendNull", desc := "()Ljava/lang/AbstractStringBuilder;" } : Jvm.MethodName))).before a0 Z = true := hw _ (List.mem_of_getElem? (i := 80) rfl)
theorem w81 {Z : State} {a0 : Array Value} (hw : HW Z a0) : ((Jvm.Cond.instanceMethod ({ cls := "java/lang/AbstractStringBuilder", name := "appendNull", desc := "()Ljava/lang/AbstractStringBuilder;" } : Jvm.MethodName))).before a0 Z = true := hw _ (List.mem_of_getElem? (i := 81) rfl)
theorem w83 {Z : State} {a0 : Array Value} (hw : HW Z a0) : ((Jvm.Cond.selects "java/lang/StringBuilder" ({ cls := "java/lang/AbstractStringBuilder", name := "appendNull", desc := "()Ljava/lang/AbstractStringBuilder;" } : Jvm.MethodName) ({ cls := "java/lang/AbstractStringBuilder", name := "appendNull", desc := "()Ljava/lang/AbstractStringBuilder;" } : Jvm.MethodName))).before a0 Z = true := hw _ (List.mem_of_getElem? (i := 83) rfl)
theorem w84 {Z : State} {a0 : Array Value} (hw : HW Z a0) : ((Jvm.Cond.code ({ cls := "java/lang/AbstractStringBuilder", name := "appendNull", desc := "()Ljava/lang/AbstractStringBuilder;" } : Jvm.MethodName) jdk_68_method_26_code (3 : Nat) (Option.some (Jvm.ClassFile.FieldType.object "java/lang/AbstractStringBuilder")))).before a0 Z = true := hw _ (List.mem_of_getElem? (i := 84) rfl)
theorem w85 {Z : State} {a0 : Array Value} (hw : HW Z a0) : ((Jvm.Cond.fieldLink "java/lang/AbstractStringBuilder" (79 : Nat) "java/lang/AbstractStringBuilder" "count" "I")).before a0 Z = true := hw _ (List.mem_of_getElem? (i := 85) rfl)
theorem w86 {Z : State} {a0 : Array Value} (hw : HW Z a0) : ((Jvm.Cond.lays "java/lang/StringBuilder" "java/lang/AbstractStringBuilder" "count" "I")).before a0 Z = true := hw _ (List.mem_of_getElem? (i := 86) rfl)
theorem w87 {Z : State} {a0 : Array Value} (hw : HW Z a0) : ((Jvm.Cond.methodLink "java/lang/AbstractStringBuilder" (100 : Nat) ({ cls := "java/lang/AbstractStringBuilder", name := "ensureCapacityInternal", desc := "(I)V" } : Jvm.MethodName))).before a0 Z = true := hw _ (List.mem_of_getElem? (i := 87) rfl)
theorem w88 {Z : State} {a0 : Array Value} (hw : HW Z a0) : ((Jvm.Cond.instanceMethod ({ cls := "java/lang/AbstractStringBuilder", name := "ensureCapacityInternal", desc := "(I)V" } : Jvm.MethodName))).before a0 Z = true := hw _ (List.mem_of_getElem? (i := 88) rfl)
theorem w90 {Z : State} {a0 : Array Value} (hw : HW Z a0) : ((Jvm.Cond.selects "java/lang/StringBuilder" ({ cls := "java/lang/AbstractStringBuilder", name := "ensureCapacityInternal", desc := "(I)V" } : Jvm.MethodName) ({ cls := "java/lang/AbstractStringBuilder", name := "ensureCapacityInternal", desc := "(I)V" } : Jvm.MethodName))).before a0 Z = true := hw _ (List.mem_of_getElem? (i := 90) rfl)
theorem w91 {Z : State} {a0 : Array Value} (hw : HW Z a0) : ((Jvm.Cond.code ({ cls := "java/lang/AbstractStringBuilder", name := "ensureCapacityInternal", desc := "(I)V" } : Jvm.MethodName) jdk_68_method_9_code (3 : Nat) (Option.none : Option Jvm.ClassFile.FieldType))).before a0 Z = true := hw _ (List.mem_of_getElem? (i := 91) rfl)
theorem w92 {Z : State} {a0 : Array Value} (hw : HW Z a0) : ((Jvm.Cond.methodLink "java/lang/AbstractStringBuilder" (83 : Nat) ({ cls := "java/lang/AbstractStringBuilder", name := "isLatin1", desc := "()Z" } : Jvm.MethodName))).before a0 Z = true := hw _ (List.mem_of_getElem? (i := 92) rfl)
theorem w93 {Z : State} {a0 : Array Value} (hw : HW Z a0) : ((Jvm.Cond.declares ({ cls := "java/lang/AbstractStringBuilder", name := "isLatin1", desc := "()Z" } : Jvm.MethodName))).before a0 Z = true := hw _ (List.mem_of_getElem? (i := 93) rfl)
theorem w94 {Z : State} {a0 : Array Value} (hw : HW Z a0) : ((Jvm.Cond.instanceMethod ({ cls := "java/lang/AbstractStringBuilder", name := "isLatin1", desc := "()Z" } : Jvm.MethodName))).before a0 Z = true := hw _ (List.mem_of_getElem? (i := 94) rfl)
theorem w95 {Z : State} {a0 : Array Value} (hw : HW Z a0) : ((Jvm.Cond.selects "java/lang/StringBuilder" ({ cls := "java/lang/AbstractStringBuilder", name := "isLatin1", desc := "()Z" } : Jvm.MethodName) ({ cls := "java/lang/AbstractStringBuilder", name := "isLatin1", desc := "()Z" } : Jvm.MethodName))).before a0 Z = true := hw _ (List.mem_of_getElem? (i := 95) rfl)
theorem w96 {Z : State} {a0 : Array Value} (hw : HW Z a0) : ((Jvm.Cond.code ({ cls := "java/lang/AbstractStringBuilder", name := "isLatin1", desc := "()Z" } : Jvm.MethodName) jdk_68_method_68_code (1 : Nat) (Option.some Jvm.ClassFile.FieldType.boolean))).before a0 Z = true := hw _ (List.mem_of_getElem? (i := 96) rfl)
theorem w97 {Z : State} {a0 : Array Value} (hw : HW Z a0) : ((Jvm.Cond.stringLink "com/example/musterpoint/musterpoint/registry/Problem" (50 : Nat) "\n")).before a0 Z = true := hw _ (List.mem_of_getElem? (i := 97) rfl)
theorem w98 {Z : State} {a0 : Array Value} (hw : HW Z a0) : ((Jvm.Cond.instantiable "java/lang/String" (4 : Nat))).before a0 Z = true := hw _ (List.mem_of_getElem? (i := 98) rfl)
theorem w99 {Z : State} {a0 : Array Value} (hw : HW Z a0) : ((Jvm.Cond.laysFinal "java/lang/String" "java/lang/String" "value" "[B")).before a0 Z = true := hw _ (List.mem_of_getElem? (i := 99) rfl)
theorem w100 {Z : State} {a0 : Array Value} (hw : HW Z a0) : ((Jvm.Cond.laysFinal "java/lang/String" "java/lang/String" "coder" "B")).before a0 Z = true := hw _ (List.mem_of_getElem? (i := 100) rfl)
theorem w101 {Z : State} {a0 : Array Value} (hw : HW Z a0) : ((Jvm.Cond.soleField "java/lang/String" "value")).before a0 Z = true := hw _ (List.mem_of_getElem? (i := 101) rfl)
theorem w102 {Z : State} {a0 : Array Value} (hw : HW Z a0) : ((Jvm.Cond.soleField "java/lang/String" "coder")).before a0 Z = true := hw _ (List.mem_of_getElem? (i := 102) rfl)
theorem w103 {Z : State} {a0 : Array Value} (hw : HW Z a0) : ((Jvm.Cond.methodLink "java/lang/AbstractStringBuilder" (32 : Nat) ({ cls := "java/lang/String", name := "length", desc := "()I" } : Jvm.MethodName))).before a0 Z = true := hw _ (List.mem_of_getElem? (i := 103) rfl)
theorem w104 {Z : State} {a0 : Array Value} (hw : HW Z a0) : ((Jvm.Cond.declares ({ cls := "java/lang/String", name := "length", desc := "()I" } : Jvm.MethodName))).before a0 Z = true := hw _ (List.mem_of_getElem? (i := 104) rfl)
theorem w105 {Z : State} {a0 : Array Value} (hw : HW Z a0) : ((Jvm.Cond.instanceMethod ({ cls := "java/lang/String", name := "length", desc := "()I" } : Jvm.MethodName))).before a0 Z = true := hw _ (List.mem_of_getElem? (i := 105) rfl)
theorem w106 {Z : State} {a0 : Array Value} (hw : HW Z a0) : ((Jvm.Cond.selects "java/lang/String" ({ cls := "java/lang/String", name := "length", desc := "()I" } : Jvm.MethodName) ({ cls := "java/lang/String", name := "length", desc := "()I" } : Jvm.MethodName))).before a0 Z = true := hw _ (List.mem_of_getElem? (i := 106) rfl)
theorem w107 {Z : State} {a0 : Array Value} (hw : HW Z a0) : ((Jvm.Cond.code ({ cls := "java/lang/String", name := "length", desc := "()I" } : Jvm.MethodName) jdk_42_method_54_code (1 : Nat) (Option.some Jvm.ClassFile.FieldType.int))).before a0 Z = true := hw _ (List.mem_of_getElem? (i := 107) rfl)
theorem w108 {Z : State} {a0 : Array Value} (hw : HW Z a0) : ((Jvm.Cond.fieldLink "java/lang/String" (9 : Nat) "java/lang/String" "value" "[B")).before a0 Z = true := hw _ (List.mem_of_getElem? (i := 108) rfl)
theorem w109 {Z : State} {a0 : Array Value} (hw : HW Z a0) : ((Jvm.Cond.methodLink "java/lang/String" (335 : Nat) ({ cls := "java/lang/String", name := "coder", desc := "()B" } : Jvm.MethodName))).before a0 Z = true := hw _ (List.mem_of_getElem? (i := 109) rfl)
theorem w110 {Z : State} {a0 : Array Value} (hw : HW Z a0) : ((Jvm.Cond.declares ({ cls := "java/lang/String", name := "coder", desc := "()B" } : Jvm.MethodName))).before a0 Z = true := hw _ (List.mem_of_getElem? (i := 110) rfl)
theorem w111 {Z : State} {a0 : Array Value} (hw : HW Z a0) : ((Jvm.Cond.instanceMethod ({ cls := "java/lang/String", name := "coder", desc := "()B" } : Jvm.MethodName))).before a0 Z = true := hw _ (List.mem_of_getElem? (i := 111) rfl)
theorem w112 {Z : State} {a0 : Array Value} (hw : HW Z a0) : ((Jvm.Cond.selects "java/lang/String" ({ cls := "java/lang/String", name := "coder", desc := "()B" } : Jvm.MethodName) ({ cls := "java/lang/String", name := "coder", desc := "()B" } : Jvm.MethodName))).before a0 Z = true := hw _ (List.mem_of_getElem? (i := 112) rfl)
theorem w113 {Z : State} {a0 : Array Value} (hw : HW Z a0) : ((Jvm.Cond.code ({ cls := "java/lang/String", name := "coder", desc := "()B" } : Jvm.MethodName) jdk_42_method_152_code (1 : Nat) (Option.some Jvm.ClassFile.FieldType.byte))).before a0 Z = true := hw _ (List.mem_of_getElem? (i := 113) rfl)
theorem w114 {Z : State} {a0 : Array Value} (hw : HW Z a0) : ((Jvm.Cond.fieldLink "java/lang/String" (38 : Nat) "java/lang/String" "COMPACT_STRINGS" "Z")).before a0 Z = true := hw _ (List.mem_of_getElem? (i := 114) rfl)
theorem w115 {Z : State} {a0 : Array Value} (hw : HW Z a0) : ((Jvm.Cond.fieldLink "java/lang/String" (15 : Nat) "java/lang/String" "coder" "B")).before a0 Z = true := hw _ (List.mem_of_getElem? (i := 115) rfl)
theorem w116 {Z : State} {a0 : Array Value} (hw : HW Z a0) : ((Jvm.Cond.methodLink "java/lang/AbstractStringBuilder" (208 : Nat) ({ cls := "java/lang/AbstractStringBuilder", name := "putStringAt", desc := "(ILjava/lang/String;)V" } : Jvm.MethodName))).before a0 Z = true := hw _ (List.mem_of_getElem? (i := 116) rfl)
theorem w117 {Z : State} {a0 : Array Value} (hw : HW Z a0) : ((Jvm.Cond.instanceMethod ({ cls := "java/lang/AbstractStringBuilder", name := "putStringAt", desc := "(ILjava/lang/String;)V" } : Jvm.MethodName))).before a0 Z = true := hw _ (List.mem_of_getElem? (i := 117) rfl)
theorem w119 {Z : State} {a0 : Array Value} (hw : HW Z a0) : ((Jvm.Cond.selects "java/lang/StringBuilder" ({ cls := "java/lang/AbstractStringBuilder", name := "putStringAt", desc := "(ILjava/lang/String;)V" } : Jvm.MethodName) ({ cls := "java/lang/AbstractStringBuilder", name := "putStringAt", desc := "(ILjava/lang/String;)V" } : Jvm.MethodName))).before a0 Z = true := hw _ (List.mem_of_getElem? (i := 119) rfl)
theorem w120 {Z : State} {a0 : Array Value} (hw : HW Z a0) : ((Jvm.Cond.code ({ cls := "java/lang/AbstractStringBuilder", name := "putStringAt", desc := "(ILjava/lang/String;)V" } : Jvm.MethodName) jdk_68_method_73_code (3 : Nat) (Option.none : Option Jvm.ClassFile.FieldType))).before a0 Z = true := hw _ (List.mem_of_getElem? (i := 120) rfl)
theorem w121 {Z : State} {a0 : Array Value} (hw : HW Z a0) : ((Jvm.Cond.methodLink "java/lang/AbstractStringBuilder" (397 : Nat) ({ cls := "java/lang/AbstractStringBuilder", name := "inflateIfNeededFor", desc := "(Ljava/lang/String;)V" } : Jvm.MethodName))).before a0 Z = true := hw _ (List.mem_of_getElem? (i := 121) rfl)
theorem w122 {Z : State} {a0 : Array Value} (hw : HW Z a0) : ((Jvm.Cond.instanceMethod ({ cls := "java/lang/AbstractStringBuilder", name := "inflateIfNeededFor", desc := "(Ljava/lang/String;)V" } : Jvm.MethodName))).before a0 Z = true := hw _ (List.mem_of_getElem? (i := 122) rfl)
theorem w124 {Z : State} {a0 : Array Value} (hw : HW Z a0) : ((Jvm.Cond.selects "java/lang/StringBuilder" ({ cls := "java/lang/AbstractStringBuilder", name := "inflateIfNeededFor", desc := "(Ljava/lang/String;)V" } : Jvm.MethodName) ({ cls := "java/lang/AbstractStringBuilder", name := "inflateIfNeededFor", desc := "(Ljava/lang/String;)V" } : Jvm.MethodName))).before a0 Z = true := hw _ (List.mem_of_getElem? (i := 124) rfl)
theorem w125 {Z : State} {a0 : Array Value} (hw : HW Z a0) : ((Jvm.Cond.code ({ cls := "java/lang/AbstractStringBuilder", name := "inflateIfNeededFor", desc := "(Ljava/lang/String;)V" } : Jvm.MethodName) jdk_68_method_71_code (2 : Nat) (Option.none : Option Jvm.ClassFile.FieldType))).before a0 Z = true := hw _ (List.mem_of_getElem? (i := 125) rfl)
theorem w126 {Z : State} {a0 : Array Value} (hw : HW Z a0) : ((Jvm.Cond.methodLink "java/lang/AbstractStringBuilder" (40 : Nat) ({ cls := "java/lang/String", name := "coder", desc := "()B" } : Jvm.MethodName))).before a0 Z = true := hw _ (List.mem_of_getElem? (i := 126) rfl)
theorem w127 {Z : State} {a0 : Array Value} (hw : HW Z a0) : ((Jvm.Cond.methodLink "java/lang/AbstractStringBuilder" (399 : Nat) ({ cls := "java/lang/String", name := "getBytes", desc := "([BIB)V" } : Jvm.MethodName))).before a0 Z = true := hw _ (List.mem_of_getElem? (i := 127) rfl)
theorem w128 {Z : State} {a0 : Array Value} (hw : HW Z a0) : ((Jvm.Cond.declares ({ cls := "java/lang/String", name := "getBytes", desc := "([BIB)V" } : Jvm.MethodName))).before a0 Z = true := hw _ (List.mem_of_getElem? (i := 128) rfl)
theorem w129 {Z : State} {a0 : Array Value} (hw : HW Z a0) : ((Jvm.Cond.instanceMethod ({ cls := "java/lang/String", name := "getBytes", desc := "([BIB)V" } : Jvm.MethodName))).before a0 Z = true := hw _ (List.mem_of_getElem? (i := 129) rfl)
theorem w130 {Z : State} {a0 : Array Value} (hw : HW Z a0) : ((Jvm.Cond.selects "java/lang/String" ({ cls := "java/lang/String", name := "getBytes", desc := "([BIB)V" } : Jvm.MethodName) ({ cls := "java/lang/String", name := "getBytes", desc := "([BIB)V" } : Jvm.MethodName))).before a0 Z = true := hw _ (List.mem_of_getElem? (i := 130) rfl)
theorem w131 {Z : State} {a0 : Array Value} (hw : HW Z a0) : ((Jvm.Cond.code ({ cls := "java/lang/String", name := "getBytes", desc := "([BIB)V" } : Jvm.MethodName) jdk_42_method_147_code (4 : Nat) (Option.none : Option Jvm.ClassFile.FieldType))).before a0 Z = true := hw _ (List.mem_of_getElem? (i := 131) rfl)
theorem w132 {Z : State} {a0 : Array Value} (hw : HW Z a0) : ((Jvm.Cond.methodLink "java/lang/String" (212 : Nat) ({ cls := "java/lang/System", name := "arraycopy", desc := "(Ljava/lang/Object;ILjava/lang/Object;II)V" } : Jvm.MethodName))).before a0 Z = true := hw _ (List.mem_of_getElem? (i := 132) rfl)
theorem w133 {Z : State} {a0 : Array Value} (hw : HW Z a0) : ((Jvm.Cond.static ({ cls := "java/lang/System", name := "arraycopy", desc := "(Ljava/lang/Object;ILjava/lang/Object;II)V" } : Jvm.MethodName))).before a0 Z = true := hw _ (List.mem_of_getElem? (i := 133) rfl)
theorem w134 {Z : State} {a0 : Array Value} (hw : HW Z a0) : ((Jvm.Cond.initialized "java/lang/System")).before a0 Z = true := hw _ (List.mem_of_getElem? (i := 134) rfl)
theorem w135 {Z : State} {a0 : Array Value} (hw : HW Z a0) : ((Jvm.Cond.native ({ cls := "java/lang/System", name := "arraycopy", desc := "(Ljava/lang/Object;ILjava/lang/Object;II)V" } : Jvm.MethodName))).before a0 Z = true := hw _ (List.mem_of_getElem? (i := 135) rfl)
theorem w136 {Z : State} {a0 : Array Value} (hw : HW Z a0) : ((Jvm.Cond.methodLink "com/example/musterpoint/musterpoint/registry/Problem" (43 : Nat) ({ cls := "java/lang/StringBuilder", name := "toString", desc := "()Ljava/lang/String;" } : Jvm.MethodName))).before a0 Z = true := hw _ (List.mem_of_getElem? (i := 136) rfl)
theorem w137 {Z : State} {a0 : Array Value} (hw : HW Z a0) : ((Jvm.Cond.declares ({ cls := "java/lang/StringBuilder", name := "toString", desc := "()Ljava/lang/String;" } : Jvm.MethodName))).before a0 Z = true := hw _ (List.mem_of_getElem? (i := 137) rfl)
theorem w138 {Z : State} {a0 : Array Value} (hw : HW Z a0) : ((Jvm.Cond.instanceMethod ({ cls := "java/lang/StringBuilder", name := "toString", desc := "()Ljava/lang/String;" } : Jvm.MethodName))).before a0 Z = true := hw _ (List.mem_of_getElem? (i := 138) rfl)
theorem w139 {Z : State} {a0 : Array Value} (hw : HW Z a0) : ((Jvm.Cond.selects "java/lang/StringBuilder" ({ cls := "java/lang/StringBuilder", name := "toString", desc := "()Ljava/lang/String;" } : Jvm.MethodName) ({ cls := "java/lang/StringBuilder", name := "toString", desc := "()Ljava/lang/String;" } : Jvm.MethodName))).before a0 Z = true := hw _ (List.mem_of_getElem? (i := 139) rfl)
theorem w140 {Z : State} {a0 : Array Value} (hw : HW Z a0) : ((Jvm.Cond.code ({ cls := "java/lang/StringBuilder", name := "toString", desc := "()Ljava/lang/String;" } : Jvm.MethodName) jdk_67_method_42_code (1 : Nat) (Option.some (Jvm.ClassFile.FieldType.object "java/lang/String")))).before a0 Z = true := hw _ (List.mem_of_getElem? (i := 140) rfl)
theorem w141 {Z : State} {a0 : Array Value} (hw : HW Z a0) : ((Jvm.Cond.classLink "java/lang/StringBuilder" (18 : Nat) "java/lang/String")).before a0 Z = true := hw _ (List.mem_of_getElem? (i := 141) rfl)
theorem w142 {Z : State} {a0 : Array Value} (hw : HW Z a0) : ((Jvm.Cond.methodLink "java/lang/StringBuilder" (137 : Nat) ({ cls := "java/lang/String", name := "<init>", desc := "(Ljava/lang/StringBuilder;)V" } : Jvm.MethodName))).before a0 Z = true := hw _ (List.mem_of_getElem? (i := 142) rfl)
theorem w143 {Z : State} {a0 : Array Value} (hw : HW Z a0) : ((Jvm.Cond.instanceMethod ({ cls := "java/lang/String", name := "<init>", desc := "(Ljava/lang/StringBuilder;)V" } : Jvm.MethodName))).before a0 Z = true := hw _ (List.mem_of_getElem? (i := 143) rfl)
theorem w145 {Z : State} {a0 : Array Value} (hw : HW Z a0) : ((Jvm.Cond.code ({ cls := "java/lang/String", name := "<init>", desc := "(Ljava/lang/StringBuilder;)V" } : Jvm.MethodName) jdk_42_method_53_code (2 : Nat) (Option.none : Option Jvm.ClassFile.FieldType))).before a0 Z = true := hw _ (List.mem_of_getElem? (i := 145) rfl)
theorem w146 {Z : State} {a0 : Array Value} (hw : HW Z a0) : ((Jvm.Cond.methodLink "java/lang/String" (489 : Nat) ({ cls := "java/lang/String", name := "<init>", desc := "(Ljava/lang/AbstractStringBuilder;Ljava/lang/Void;)V" } : Jvm.MethodName))).before a0 Z = true := hw _ (List.mem_of_getElem? (i := 146) rfl)
theorem w147 {Z : State} {a0 : Array Value} (hw : HW Z a0) : ((Jvm.Cond.instanceMethod ({ cls := "java/lang/String", name := "<init>", desc := "(Ljava/lang/AbstractStringBuilder;Ljava/lang/Void;)V" } : Jvm.MethodName))).before a0 Z = true := hw _ (List.mem_of_getElem? (i := 147) rfl)
theorem w148 {Z : State} {a0 : Array Value} (hw : HW Z a0) : ((Jvm.Cond.code ({ cls := "java/lang/String", name := "<init>", desc := "(Ljava/lang/AbstractStringBuilder;Ljava/lang/Void;)V" } : Jvm.MethodName) jdk_42_method_150_code (5 : Nat) (Option.none : Option Jvm.ClassFile.FieldType))).before a0 Z = true := hw _ (List.mem_of_getElem? (i := 148) rfl)
theorem w149 {Z : State} {a0 : Array Value} (hw : HW Z a0) : ((Jvm.Cond.methodLink "java/lang/String" (1 : Nat) ({ cls := "java/lang/Object", name := "<init>", desc := "()V" } : Jvm.MethodName))).before a0 Z = true := hw _ (List.mem_of_getElem? (i := 149) rfl)
theorem w150 {Z : State} {a0 : Array Value} (hw : HW Z a0) : ((Jvm.Cond.methodLink "java/lang/String" (552 : Nat) ({ cls := "java/lang/AbstractStringBuilder", name := "getValue", desc := "()[B" } : Jvm.MethodName))).before a0 Z = true := hw _ (List.mem_of_getElem? (i := 150) rfl)
theorem w151 {Z : State} {a0 : Array Value} (hw : HW Z a0) : ((Jvm.Cond.declares ({ cls := "java/lang/AbstractStringBuilder", name := "getValue", desc := "()[B" } : Jvm.MethodName))).before a0 Z = true := hw _ (List.mem_of_getElem? (i := 151) rfl)
theorem w152 {Z : State} {a0 : Array Value} (hw : HW Z a0) : ((Jvm.Cond.instanceMethod ({ cls := "java/lang/AbstractStringBuilder", name := "getValue", desc := "()[B" } : Jvm.MethodName))).before a0 Z = true := hw _ (List.mem_of_getElem? (i := 152) rfl)
theorem w153 {Z : State} {a0 : Array Value} (hw : HW Z a0) : ((Jvm.Cond.selects "java/lang/StringBuilder" ({ cls := "java/lang/AbstractStringBuilder", name := "getValue", desc := "()[B" } : Jvm.MethodName) ({ cls := "java/lang/AbstractStringBuilder", name := "getValue", desc := "()[B" } : Jvm.MethodName))).before a0 Z = true := hw _ (List.mem_of_getElem? (i := 153) rfl)
theorem w154 {Z : State} {a0 : Array Value} (hw : HW Z a0) : ((Jvm.Cond.code ({ cls := "java/lang/AbstractStringBuilder", name := "getValue", desc := "()[B" } : Jvm.MethodName) jdk_68_method_64_code (1 : Nat) (Option.some (Jvm.ClassFile.FieldType.array Jvm.ClassFile.FieldType.byte)))).before a0 Z = true := hw _ (List.mem_of_getElem? (i := 154) rfl)
theorem w155 {Z : State} {a0 : Array Value} (hw : HW Z a0) : ((Jvm.Cond.methodLink "java/lang/String" (549 : Nat) ({ cls := "java/lang/AbstractStringBuilder", name := "length", desc := "()I" } : Jvm.MethodName))).before a0 Z = true := hw _ (List.mem_of_getElem? (i := 155) rfl)
theorem w156 {Z : State} {a0 : Array Value} (hw : HW Z a0) : ((Jvm.Cond.declares ({ cls := "java/lang/AbstractStringBuilder", name := "length", desc := "()I" } : Jvm.MethodName))).before a0 Z = true := hw _ (List.mem_of_getElem? (i := 156) rfl)
theorem w157 {Z : State} {a0 : Array Value} (hw : HW Z a0) : ((Jvm.Cond.instanceMethod ({ cls := "java/lang/AbstractStringBuilder", name := "length", desc := "()I" } : Jvm.MethodName))).before a0 Z = true := hw _ (List.mem_of_getElem? (i := 157) rfl)
theorem w158 {Z : State} {a0 : Array Value} (hw : HW Z a0) : ((Jvm.Cond.selects "java/lang/StringBuilder" ({ cls := "java/lang/AbstractStringBuilder", name := "length", desc := "()I" } : Jvm.MethodName) ({ cls := "java/lang/StringBuilder", name := "length", desc := "()I" } : Jvm.MethodName))).before a0 Z = true := hw _ (List.mem_of_getElem? (i := 158) rfl)
theorem w159 {Z : State} {a0 : Array Value} (hw : HW Z a0) : ((Jvm.Cond.instanceMethod ({ cls := "java/lang/StringBuilder", name := "length", desc := "()I" } : Jvm.MethodName))).before a0 Z = true := hw _ (List.mem_of_getElem? (i := 159) rfl)
theorem w160 {Z : State} {a0 : Array Value} (hw : HW Z a0) : ((Jvm.Cond.code ({ cls := "java/lang/StringBuilder", name := "length", desc := "()I" } : Jvm.MethodName) jdk_67_method_93_code (1 : Nat) (Option.some Jvm.ClassFile.FieldType.int))).before a0 Z = true := hw _ (List.mem_of_getElem? (i := 160) rfl)
theorem w161 {Z : State} {a0 : Array Value} (hw : HW Z a0) : ((Jvm.Cond.methodLink "java/lang/StringBuilder" (343 : Nat) ({ cls := "java/lang/AbstractStringBuilder", name := "length", desc := "()I" } : Jvm.MethodName))).before a0 Z = true := hw _ (List.mem_of_getElem? (i := 161) rfl)
theorem w162 {Z : State} {a0 : Array Value} (hw : HW Z a0) : ((Jvm.Cond.code ({ cls := "java/lang/AbstractStringBuilder", name := "length", desc := "()I" } : Jvm.MethodName) jdk_68_method_6_code (1 : Nat) (Option.some Jvm.ClassFile.FieldType.int))).before a0 Z = true := hw _ (List.mem_of_getElem? (i := 162) rfl)
theorem w163 {Z : State} {a0 : Array Value} (hw : HW Z a0) : ((Jvm.Cond.methodLink "java/lang/String" (1047 : Nat) ({ cls := "java/lang/AbstractStringBuilder", name := "isLatin1", desc := "()Z" } : Jvm.MethodName))).before a0 Z = true := hw _ (List.mem_of_getElem? (i := 163) rfl)
theorem w164 {Z : State} {a0 : Array Value} (hw : HW Z a0) : ((Jvm.Cond.methodLink "java/lang/String" (54 : Nat) ({ cls := "java/util/Arrays", name := "copyOfRange", desc := "([BII)[B" } : Jvm.MethodName))).before a0 Z = true := hw _ (List.mem_of_getElem? (i := 164) rfl)
theorem w165 {Z : State} {a0 : Array Value} (hw : HW Z a0) : ((Jvm.Cond.static ({ cls := "java/util/Arrays", name := "copyOfRange", desc := "([BII)[B" } : Jvm.MethodName))).before a0 Z = true := hw _ (List.mem_of_getElem? (i := 165) rfl)
theorem w166 {Z : State} {a0 : Array Value} (hw : HW Z a0) : ((Jvm.Cond.initialized "java/util/Arrays")).before a0 Z = true := hw _ (List.mem_of_getElem? (i := 166) rfl)
theorem w167 {Z : State} {a0 : Array Value} (hw : HW Z a0) : ((Jvm.Cond.code ({ cls := "java/util/Arrays", name := "copyOfRange", desc := "([BII)[B" } : Jvm.MethodName) jdk_65_method_132_code (3 : Nat) (Option.some (Jvm.ClassFile.FieldType.array Jvm.ClassFile.FieldType.byte)))).before a0 Z = true := hw _ (List.mem_of_getElem? (i := 167) rfl)
theorem w168 {Z : State} {a0 : Array Value} (hw : HW Z a0) : ((Jvm.Cond.methodLink "java/util/Arrays" (339 : Nat) ({ cls := "java/util/Arrays", name := "copyOfRangeByte", desc := "([BII)[B" } : Jvm.MethodName))).before a0 Z = true := hw _ (List.mem_of_getElem? (i := 168) rfl)
theorem w169 {Z : State} {a0 : Array Value} (hw : HW Z a0) : ((Jvm.Cond.static ({ cls := "java/util/Arrays", name := "copyOfRangeByte", desc := "([BII)[B" } : Jvm.MethodName))).before a0 Z = true := hw _ (List.mem_of_getElem? (i := 169) rfl)
theorem w170 {Z : State} {a0 : Array Value} (hw : HW Z a0) : ((Jvm.Cond.code ({ cls := "java/util/Arrays", name := "copyOfRangeByte", desc := "([BII)[B" } : Jvm.MethodName) jdk_65_method_133_code (5 : Nat) (Option.some (Jvm.ClassFile.FieldType.array Jvm.ClassFile.FieldType.byte)))).before a0 Z = true := hw _ (List.mem_of_getElem? (i := 170) rfl)
theorem w171 {Z : State} {a0 : Array Value} (hw : HW Z a0) : ((Jvm.Cond.methodLink "java/util/Arrays" (343 : Nat) ({ cls := "java/util/Arrays", name := "checkLength", desc := "(II)V" } : Jvm.MethodName))).before a0 Z = true := hw _ (List.mem_of_getElem? (i := 171) rfl)
theorem w172 {Z : State} {a0 : Array Value} (hw : HW Z a0) : ((Jvm.Cond.static ({ cls := "java/util/Arrays", name := "checkLength", desc := "(II)V" } : Jvm.MethodName))).before a0 Z = true := hw _ (List.mem_of_getElem? (i := 172) rfl)
theorem w173 {Z : State} {a0 : Array Value} (hw : HW Z a0) : ((Jvm.Cond.code ({ cls := "java/util/Arrays", name := "checkLength", desc := "(II)V" } : Jvm.MethodName) jdk_65_method_131_code (2 : Nat) (Option.none : Option Jvm.ClassFile.FieldType))).before a0 Z = true := hw _ (List.mem_of_getElem? (i := 173) rfl)
theorem w174 {Z : State} {a0 : Array Value} (hw : HW Z a0) : ((Jvm.Cond.methodLink "java/util/Arrays" (304 : Nat) ({ cls := "java/lang/Math", name := "min", desc := "(II)I" } : Jvm.MethodName))).before a0 Z = true := hw _ (List.mem_of_getElem? (i := 174) rfl)
theorem w175 {Z : State} {a0 : Array Value} (hw : HW Z a0) : ((Jvm.Cond.static ({ cls := "java/lang/Math", name := "min", desc := "(II)I" } : Jvm.MethodName))).before a0 Z = true := hw _ (List.mem_of_getElem? (i := 175) rfl)
theorem w176 {Z : State} {a0 : Array Value} (hw : HW Z a0) : ((Jvm.Cond.initialized "java/lang/Math")).before a0 Z = true := hw _ (List.mem_of_getElem? (i := 176) rfl)
theorem w177 {Z : State} {a0 : Array Value} (hw : HW Z a0) : ((Jvm.Cond.code ({ cls := "java/lang/Math", name := "min", desc := "(II)I" } : Jvm.MethodName) jdk_29_method_69_code (2 : Nat) (Option.some Jvm.ClassFile.FieldType.int))).before a0 Z = true := hw _ (List.mem_of_getElem? (i := 177) rfl)
theorem w178 {Z : State} {a0 : Array Value} (hw : HW Z a0) : ((Jvm.Cond.methodLink "java/util/Arrays" (150 : Nat) ({ cls := "java/lang/System", name := "arraycopy", desc := "(Ljava/lang/Object;ILjava/lang/Object;II)V" } : Jvm.MethodName))).before a0 Z = true := hw _ (List.mem_of_getElem? (i := 178) rfl)
theorem w179 {Z : State} {a0 : Array Value} (hw : HW Z a0) : ((Jvm.Cond.fieldLink "com/example/musterpoint/musterpoint/registry/Problem" (52 : Nat) "java/nio/charset/StandardCharsets" "UTF_8" "Ljava/nio/charset/Charset;")).before a0 Z = true := hw _ (List.mem_of_getElem? (i := 179) rfl)
theorem w181 {Z : State} {a0 : Array Value} (hw : HW Z a0) : ((Jvm.Cond.methodLink "com/example/musterpoint/musterpoint/registry/Problem" (58 : Nat) ({ cls := "java/lang/String", name := "getBytes", desc := "(Ljava/nio/charset/Charset;)[B" } : Jvm.MethodName))).before a0 Z = true := hw _ (List.mem_of_getElem? (i := 181) rfl)
theorem w182 {Z : State} {a0 : Array Value} (hw : HW Z a0) : ((Jvm.Cond.declares ({ cls := "java/lang/String", name := "getBytes", desc := "(Ljava/nio/charset/Charset;)[B" } : Jvm.MethodName))).before a0 Z = true := hw _ (List.mem_of_getElem? (i := 182) rfl)
theorem w183 {Z : State} {a0 : Array Value} (hw : HW Z a0) : ((Jvm.Cond.instanceMethod ({ cls := "java/lang/String", name := "getBytes", desc := "(Ljava/nio/charset/Charset;)[B" } : Jvm.MethodName))).before a0 Z = true := hw _ (List.mem_of_getElem? (i := 183) rfl)
theorem w184 {Z : State} {a0 : Array Value} (hw : HW Z a0) : ((Jvm.Cond.selects "java/lang/String" ({ cls := "java/lang/String", name := "getBytes", desc := "(Ljava/nio/charset/Charset;)[B" } : Jvm.MethodName) ({ cls := "java/lang/String", name := "getBytes", desc := "(Ljava/nio/charset/Charset;)[B" } : Jvm.MethodName))).before a0 Z = true := hw _ (List.mem_of_getElem? (i := 184) rfl)
theorem w185 {Z : State} {a0 : Array Value} (hw : HW Z a0) : ((Jvm.Cond.code ({ cls := "java/lang/String", name := "getBytes", desc := "(Ljava/nio/charset/Charset;)[B" } : Jvm.MethodName) jdk_42_method_64_code (2 : Nat) (Option.some (Jvm.ClassFile.FieldType.array Jvm.ClassFile.FieldType.byte)))).before a0 Z = true := hw _ (List.mem_of_getElem? (i := 185) rfl)
theorem w186 {Z : State} {a0 : Array Value} (hw : HW Z a0) : ((Jvm.Cond.methodLink "java/lang/String" (535 : Nat) ({ cls := "java/lang/String", name := "encode", desc := "(Ljava/nio/charset/Charset;B[B)[B" } : Jvm.MethodName))).before a0 Z = true := hw _ (List.mem_of_getElem? (i := 186) rfl)
theorem w187 {Z : State} {a0 : Array Value} (hw : HW Z a0) : ((Jvm.Cond.static ({ cls := "java/lang/String", name := "encode", desc := "(Ljava/nio/charset/Charset;B[B)[B" } : Jvm.MethodName))).before a0 Z = true := hw _ (List.mem_of_getElem? (i := 187) rfl)
theorem w188 {Z : State} {a0 : Array Value} (hw : HW Z a0) : ((Jvm.Cond.code ({ cls := "java/lang/String", name := "encode", desc := "(Ljava/nio/charset/Charset;B[B)[B" } : Jvm.MethodName) jdk_42_method_18_code (3 : Nat) (Option.some (Jvm.ClassFile.FieldType.array Jvm.ClassFile.FieldType.byte)))).before a0 Z = true := hw _ (List.mem_of_getElem? (i := 188) rfl)
theorem w189 {Z : State} {a0 : Array Value} (hw : HW Z a0) : ((Jvm.Cond.fieldLink "java/lang/String" (86 : Nat) "sun/nio/cs/UTF_8" "INSTANCE" "Lsun/nio/cs/UTF_8;")).before a0 Z = true := hw _ (List.mem_of_getElem? (i := 189) rfl)
theorem w191 {Z : State} {a0 : Array Value} (hw : HW Z a0) : ((Jvm.Cond.methodLink "java/lang/String" (252 : Nat) ({ cls := "java/lang/String", name := "encodeUTF8", desc := "(B[BZ)[B" } : Jvm.MethodName))).before a0 Z = true := hw _ (List.mem_of_getElem? (i := 191) rfl)
theorem w192 {Z : State} {a0 : Array Value} (hw : HW Z a0) : ((Jvm.Cond.static ({ cls := "java/lang/String", name := "encodeUTF8", desc := "(B[BZ)[B" } : Jvm.MethodName))).before a0 Z = true := hw _ (List.mem_of_getElem? (i := 192) rfl)
theorem w193 {Z : State} {a0 : Array Value} (hw : HW Z a0) : ((Jvm.Cond.code ({ cls := "java/lang/String", name := "encodeUTF8", desc := "(B[BZ)[B" } : Jvm.MethodName) jdk_42_method_46_code (9 : Nat) (Option.some (Jvm.ClassFile.FieldType.array Jvm.ClassFile.FieldType.byte)))).before a0 Z = true := hw _ (List.mem_of_getElem? (i := 193) rfl)
theorem w194 {Z : State} {a0 : Array Value} (hw : HW Z a0) : ((Jvm.Cond.methodLink "java/lang/String" (128 : Nat) ({ cls := "java/lang/StringCoding", name := "hasNegatives", desc := "([BII)Z" } : Jvm.MethodName))).before a0 Z = true := hw _ (List.mem_of_getElem? (i := 194) rfl)
theorem w195 {Z : State} {a0 : Array Value} (hw : HW Z a0) : ((Jvm.Cond.static ({ cls := "java/lang/StringCoding", name := "hasNegatives", desc := "([BII)Z" } : Jvm.MethodName))).before a0 Z = true := hw _ (List.mem_of_getElem? (i := 195) rfl)
theorem w196 {Z : State} {a0 : Array Value} (hw : HW Z a0) : ((Jvm.Cond.initialized "java/lang/StringCoding")).before a0 Z = true := hw _ (List.mem_of_getElem? (i := 196) rfl)
theorem w197 {Z : State} {a0 : Array Value} (hw : HW Z a0) : ((Jvm.Cond.code ({ cls := "java/lang/StringCoding", name := "hasNegatives", desc := "([BII)Z" } : Jvm.MethodName) jdk_123_method_2_code (3 : Nat) (Option.some Jvm.ClassFile.FieldType.boolean))).before a0 Z = true := hw _ (List.mem_of_getElem? (i := 197) rfl)
theorem w198 {Z : State} {a0 : Array Value} (hw : HW Z a0) : ((Jvm.Cond.methodLink "java/lang/StringCoding" (7 : Nat) ({ cls := "java/lang/StringCoding", name := "countPositives", desc := "([BII)I" } : Jvm.MethodName))).before a0 Z = true := hw _ (List.mem_of_getElem? (i := 198) rfl)
theorem w199 {Z : State} {a0 : Array Value} (hw : HW Z a0) : ((Jvm.Cond.static ({ cls := "java/lang/StringCoding", name := "countPositives", desc := "([BII)I" } : Jvm.MethodName))).before a0 Z = true := hw _ (List.mem_of_getElem? (i := 199) rfl)
theorem w200 {Z : State} {a0 : Array Value} (hw : HW Z a0) : ((Jvm.Cond.code ({ cls := "java/lang/StringCoding", name := "countPositives", desc := "([BII)I" } : Jvm.MethodName) jdk_123_method_3_code (5 : Nat) (Option.some Jvm.ClassFile.FieldType.int))).before a0 Z = true := hw _ (List.mem_of_getElem? (i := 200) rfl)
theorem w201 {Z : State} {a0 : Array Value} (hw : HW Z a0) : ((Jvm.Cond.methodLink "java/lang/String" (279 : Nat) ({ cls := "[B", name := "clone", desc := "()Ljava/lang/Object;" } : Jvm.MethodName))).before a0 Z = true := hw _ (List.mem_of_getElem? (i := 201) rfl)
theorem w202 {Z : State} {a0 : Array Value} (hw : HW Z a0) : ((Jvm.Cond.sameMethod "[B" "java/lang/Object" "clone" "()Ljava/lang/Object;")).before a0 Z = true := hw _ (List.mem_of_getElem? (i := 202) rfl)
theorem w204 {Z : State} {a0 : Array Value} (hw : HW Z a0) : ((Jvm.Cond.instanceMethod ({ cls := "java/lang/Object", name := "clone", desc := "()Ljava/lang/Object;" } : Jvm.MethodName))).before a0 Z = true := hw _ (List.mem_of_getElem? (i := 204) rfl)
theorem w205 {Z : State} {a0 : Array Value} (hw : HW Z a0) : ((Jvm.Cond.selects "[B" ({ cls := "[B", name := "clone", desc := "()Ljava/lang/Object;" } : Jvm.MethodName) ({ cls := "java/lang/Object", name := "clone", desc := "()Ljava/lang/Object;" } : Jvm.MethodName))).before a0 Z = true := hw _ (List.mem_of_getElem? (i := 205) rfl)
theorem w206 {Z : State} {a0 : Array Value} (hw : HW Z a0) : ((Jvm.Cond.native ({ cls := "java/lang/Object", name := "clone", desc := "()Ljava/lang/Object;" } : Jvm.MethodName))).before a0 Z = true := hw _ (List.mem_of_getElem? (i := 206) rfl)
theorem w207 {Z : State} {a0 : Array Value} (hw : HW Z a0) : ((Jvm.Cond.castable "[B" "java/lang/Cloneable")).before a0 Z = true := hw _ (List.mem_of_getElem? (i := 207) rfl)
theorem w208 {Z : State} {a0 : Array Value} (hw : HW Z a0) : ((Jvm.Cond.classLink "java/lang/String" (280 : Nat) "[B")).before a0 Z = true := hw _ (List.mem_of_getElem? (i := 208) rfl)
theorem w210 {Z : State} {a0 : Array Value} (hw : HW Z a0) : ((Jvm.Cond.methodLink "com/example/musterpoint/musterpoint/registry/ProblemBodyPinLaw" (31 : Nat) ({ cls := "com/example/musterpoint/musterpoint/registry/ProblemBodyPinLaw", name := "same", desc := "([B[BI)Z" } : Jvm.MethodName))).before a0 Z = true := hw _ (List.mem_of_getElem? (i := 210) rfl)
theorem w211 {Z : State} {a0 : Array Value} (hw : HW Z a0) : ((Jvm.Cond.static ({ cls := "com/example/musterpoint/musterpoint/registry/ProblemBodyPinLaw", name := "same", desc := "([B[BI)Z" } : Jvm.MethodName))).before a0 Z = true := hw _ (List.mem_of_getElem? (i := 211) rfl)
theorem w212 {Z : State} {a0 : Array Value} (hw : HW Z a0) : ((Jvm.Cond.code ({ cls := "com/example/musterpoint/musterpoint/registry/ProblemBodyPinLaw", name := "same", desc := "([B[BI)Z" } : Jvm.MethodName) method_5_code (3 : Nat) (Option.some Jvm.ClassFile.FieldType.boolean))).before a0 Z = true := hw _ (List.mem_of_getElem? (i := 212) rfl)
theorem w213 {Z : State} {a0 : Array Value} (hw : HW Z a0) : ((Jvm.Cond.classLink "com/example/musterpoint/musterpoint/registry/ProblemBodyPinLaw" (17 : Nat) "java/lang/String")).before a0 Z = true := hw _ (List.mem_of_getElem? (i := 213) rfl)
theorem w214 {Z : State} {a0 : Array Value} (hw : HW Z a0) : ((Jvm.Cond.methodLink "com/example/musterpoint/musterpoint/registry/ProblemBodyPinLaw" (19 : Nat) ({ cls := "java/lang/String", name := "<init>", desc := "([C)V" } : Jvm.MethodName))).before a0 Z = true := hw _ (List.mem_of_getElem? (i := 214) rfl)
theorem w215 {Z : State} {a0 : Array Value} (hw : HW Z a0) : ((Jvm.Cond.instanceMethod ({ cls := "java/lang/String", name := "<init>", desc := "([C)V" } : Jvm.MethodName))).before a0 Z = true := hw _ (List.mem_of_getElem? (i := 215) rfl)
theorem w216 {Z : State} {a0 : Array Value} (hw : HW Z a0) : ((Jvm.Cond.code ({ cls := "java/lang/String", name := "<init>", desc := "([C)V" } : Jvm.MethodName) jdk_42_method_3_code (2 : Nat) (Option.none : Option Jvm.ClassFile.FieldType))).before a0 Z = true := hw _ (List.mem_of_getElem? (i := 216) rfl)
theorem w217 {Z : State} {a0 : Array Value} (hw : HW Z a0) : ((Jvm.Cond.methodLink "java/lang/String" (27 : Nat) ({ cls := "java/lang/String", name := "<init>", desc := "([CIILjava/lang/Void;)V" } : Jvm.MethodName))).before a0 Z = true := hw _ (List.mem_of_getElem? (i := 217) rfl)
theorem w218 {Z : State} {a0 : Array Value} (hw : HW Z a0) : ((Jvm.Cond.instanceMethod ({ cls := "java/lang/String", name := "<init>", desc := "([CIILjava/lang/Void;)V" } : Jvm.MethodName))).before a0 Z = true := hw _ (List.mem_of_getElem? (i := 218) rfl)
theorem w219 {Z : State} {a0 : Array Value} (hw : HW Z a0) : ((Jvm.Cond.code ({ cls := "java/lang/String", name := "<init>", desc := "([CIILjava/lang/Void;)V" } : Jvm.MethodName) jdk_42_method_149_code (6 : Nat) (Option.none : Option Jvm.ClassFile.FieldType))).before a0 Z = true := hw _ (List.mem_of_getElem? (i := 219) rfl)
theorem w220 {Z : State} {a0 : Array Value} (hw : HW Z a0) : ((Jvm.Cond.stringLink "java/lang/String" (7 : Nat) "")).before a0 Z = true := hw _ (List.mem_of_getElem? (i := 220) rfl)
theorem w221 {Z : State} {a0 : Array Value} (hw : HW Z a0) : ((Jvm.Cond.constant "com/example/musterpoint/musterpoint/registry/ProblemBodyPinLaw" (37 : Nat) (57343 : Int32))).before a0 Z = true := hw _ (List.mem_of_getElem? (i := 221) rfl)
theorem w222 {Z : State} {a0 : Array Value} (hw : HW Z a0) : ((Jvm.Cond.methodLink "com/example/musterpoint/musterpoint/registry/ProblemBodyPinLaw" (13 : Nat) ({ cls := "com/example/musterpoint/musterpoint/registry/ProblemBodyPinLaw", name := "enc", desc := "(C[BI)I" } : Jvm.MethodName))).before a0 Z = true := hw _ (List.mem_of_getElem? (i := 222) rfl)
theorem w223 {Z : State} {a0 : Array Value} (hw : HW Z a0) : ((Jvm.Cond.static ({ cls := "com/example/musterpoint/musterpoint/registry/ProblemBodyPinLaw", name := "enc", desc := "(C[BI)I" } : Jvm.MethodName))).before a0 Z = true := hw _ (List.mem_of_getElem? (i := 223) rfl)
theorem w224 {Z : State} {a0 : Array Value} (hw : HW Z a0) : ((Jvm.Cond.code ({ cls := "com/example/musterpoint/musterpoint/registry/ProblemBodyPinLaw", name := "enc", desc := "(C[BI)I" } : Jvm.MethodName) method_4_code (4 : Nat) (Option.some Jvm.ClassFile.FieldType.int))).before a0 Z = true := hw _ (List.mem_of_getElem? (i := 224) rfl)
theorem w225 {Z : State} {a0 : Array Value} (hw : HW Z a0) : ((Jvm.Cond.methodLink "java/lang/String" (177 : Nat) ({ cls := "java/lang/StringUTF16", name := "compress", desc := "([CII)[B" } : Jvm.MethodName))).before a0 Z = true := hw _ (List.mem_of_getElem? (i := 225) rfl)
theorem w226 {Z : State} {a0 : Array Value} (hw : HW Z a0) : ((Jvm.Cond.static ({ cls := "java/lang/StringUTF16", name := "compress", desc := "([CII)[B" } : Jvm.MethodName))).before a0 Z = true := hw _ (List.mem_of_getElem? (i := 226) rfl)
theorem w227 {Z : State} {a0 : Array Value} (hw : HW Z a0) : ((Jvm.Cond.initialized "java/lang/StringUTF16")).before a0 Z = true := hw _ (List.mem_of_getElem? (i := 227) rfl)
theorem w228 {Z : State} {a0 : Array Value} (hw : HW Z a0) : ((Jvm.Cond.code ({ cls := "java/lang/StringUTF16", name := "compress", desc := "([CII)[B" } : Jvm.MethodName) jdk_52_method_16_code (6 : Nat) (Option.some (Jvm.ClassFile.FieldType.array Jvm.ClassFile.FieldType.byte)))).before a0 Z = true := hw _ (List.mem_of_getElem? (i := 228) rfl)
theorem w229 {Z : State} {a0 : Array Value} (hw : HW Z a0) : ((Jvm.Cond.methodLink "java/lang/StringUTF16" (115 : Nat) ({ cls := "java/lang/StringUTF16", name := "compress", desc := "([CI[BII)I" } : Jvm.MethodName))).before a0 Z = true := hw _ (List.mem_of_getElem? (i := 229) rfl)
theorem w230 {Z : State} {a0 : Array Value} (hw : HW Z a0) : ((Jvm.Cond.static ({ cls := "java/lang/StringUTF16", name := "compress", desc := "([CI[BII)I" } : Jvm.MethodName))).before a0 Z = true := hw _ (List.mem_of_getElem? (i := 230) rfl)
theorem w231 {Z : State} {a0 : Array Value} (hw : HW Z a0) : ((Jvm.Cond.code ({ cls := "java/lang/StringUTF16", name := "compress", desc := "([CI[BII)I" } : Jvm.MethodName) jdk_52_method_21_code (7 : Nat) (Option.some Jvm.ClassFile.FieldType.int))).before a0 Z = true := hw _ (List.mem_of_getElem? (i := 231) rfl)
theorem w232 {Z : State} {a0 : Array Value} (hw : HW Z a0) : ((Jvm.Cond.methodLink "java/lang/StringUTF16" (119 : Nat) ({ cls := "java/lang/StringUTF16", name := "toBytes", desc := "([CII)[B" } : Jvm.MethodName))).before a0 Z = true := hw _ (List.mem_of_getElem? (i := 232) rfl)
theorem w233 {Z : State} {a0 : Array Value} (hw : HW Z a0) : ((Jvm.Cond.static ({ cls := "java/lang/StringUTF16", name := "toBytes", desc := "([CII)[B" } : Jvm.MethodName))).before a0 Z = true := hw _ (List.mem_of_getElem? (i := 233) rfl)
theorem w234 {Z : State} {a0 : Array Value} (hw : HW Z a0) : ((Jvm.Cond.code ({ cls := "java/lang/StringUTF16", name := "toBytes", desc := "([CII)[B" } : Jvm.MethodName) jdk_52_method_14_code (5 : Nat) (Option.some (Jvm.ClassFile.FieldType.array Jvm.ClassFile.FieldType.byte)))).before a0 Z = true := hw _ (List.mem_of_getElem? (i := 234) rfl)
theorem w235 {Z : State} {a0 : Array Value} (hw : HW Z a0) : ((Jvm.Cond.methodLink "java/lang/StringUTF16" (107 : Nat) ({ cls := "java/lang/StringUTF16", name := "newBytesFor", desc := "(I)[B" } : Jvm.MethodName))).before a0 Z = true := hw _ (List.mem_of_getElem? (i := 235) rfl)
theorem w236 {Z : State} {a0 : Array Value} (hw : HW Z a0) : ((Jvm.Cond.static ({ cls := "java/lang/StringUTF16", name := "newBytesFor", desc := "(I)[B" } : Jvm.MethodName))).before a0 Z = true := hw _ (List.mem_of_getElem? (i := 236) rfl)
theorem w237 {Z : State} {a0 : Array Value} (hw : HW Z a0) : ((Jvm.Cond.code ({ cls := "java/lang/StringUTF16", name := "newBytesFor", desc := "(I)[B" } : Jvm.MethodName) jdk_52_method_2_code (1 : Nat) (Option.some (Jvm.ClassFile.FieldType.array Jvm.ClassFile.FieldType.byte)))).before a0 Z = true := hw _ (List.mem_of_getElem? (i := 237) rfl)
theorem w238 {Z : State} {a0 : Array Value} (hw : HW Z a0) : ((Jvm.Cond.methodLink "java/lang/StringUTF16" (11 : Nat) ({ cls := "java/lang/StringUTF16", name := "newBytesLength", desc := "(I)I" } : Jvm.MethodName))).before a0 Z = true := hw _ (List.mem_of_getElem? (i := 238) rfl)
theorem w239 {Z : State} {a0 : Array Value} (hw : HW Z a0) : ((Jvm.Cond.static ({ cls := "java/lang/StringUTF16", name := "newBytesLength", desc := "(I)I" } : Jvm.MethodName))).before a0 Z = true := hw _ (List.mem_of_getElem? (i := 239) rfl)
theorem w240 {Z : State} {a0 : Array Value} (hw : HW Z a0) : ((Jvm.Cond.code ({ cls := "java/lang/StringUTF16", name := "newBytesLength", desc := "(I)I" } : Jvm.MethodName) jdk_52_method_3_code (1 : Nat) (Option.some Jvm.ClassFile.FieldType.int))).before a0 Z = true := hw _ (List.mem_of_getElem? (i := 240) rfl)
theorem w241 {Z : State} {a0 : Array Value} (hw : HW Z a0) : ((Jvm.Cond.constant "java/lang/StringUTF16" (20 : Nat) (1073741823 : Int32))).before a0 Z = true := hw _ (List.mem_of_getElem? (i := 241) rfl)
theorem w242 {Z : State} {a0 : Array Value} (hw : HW Z a0) : ((Jvm.Cond.methodLink "java/lang/StringUTF16" (111 : Nat) ({ cls := "java/lang/StringUTF16", name := "putChar", desc := "([BII)V" } : Jvm.MethodName))).before a0 Z = true := hw _ (List.mem_of_getElem? (i := 242) rfl)
theorem w243 {Z : State} {a0 : Array Value} (hw : HW Z a0) : ((Jvm.Cond.static ({ cls := "java/lang/StringUTF16", name := "putChar", desc := "([BII)V" } : Jvm.MethodName))).before a0 Z = true := hw _ (List.mem_of_getElem? (i := 243) rfl)
theorem w244 {Z : State} {a0 : Array Value} (hw : HW Z a0) : ((Jvm.Cond.code ({ cls := "java/lang/StringUTF16", name := "putChar", desc := "([BII)V" } : Jvm.MethodName) jdk_52_method_4_code (3 : Nat) (Option.none : Option Jvm.ClassFile.FieldType))).before a0 Z = true := hw _ (List.mem_of_getElem? (i := 244) rfl)
theorem w245 {Z : State} {a0 : Array Value} (hw : HW Z a0) : ((Jvm.Cond.fieldLink "java/lang/StringUTF16" (44 : Nat) "java/lang/StringUTF16" "$assertionsDisabled" "Z")).before a0 Z = true := hw _ (List.mem_of_getElem? (i := 245) rfl)
theorem w246 {Z : State} {a0 : Array Value} (hw : HW Z a0) : ((Jvm.Cond.fieldLink "java/lang/StringUTF16" (59 : Nat) "java/lang/StringUTF16" "HI_BYTE_SHIFT" "I")).before a0 Z = true := hw _ (List.mem_of_getElem? (i := 246) rfl)
theorem w247 {Z : State} {a0 : Array Value} (hw : HW Z a0) : ((Jvm.Cond.fieldLink "java/lang/StringUTF16" (63 : Nat) "java/lang/StringUTF16" "LO_BYTE_SHIFT" "I")).before a0 Z = true := hw _ (List.mem_of_getElem? (i := 247) rfl)
theorem w248 {Z : State} {a0 : Array Value} (hw : HW Z a0) : ((Jvm.Cond.methodLink "java/lang/StringUTF16" (71 : Nat) ({ cls := "java/lang/StringUTF16", name := "getChar", desc := "([BI)C" } : Jvm.MethodName))).before a0 Z = true := hw _ (List.mem_of_getElem? (i := 248) rfl)
theorem w249 {Z : State} {a0 : Array Value} (hw : HW Z a0) : ((Jvm.Cond.static ({ cls := "java/lang/StringUTF16", name := "getChar", desc := "([BI)C" } : Jvm.MethodName))).before a0 Z = true := hw _ (List.mem_of_getElem? (i := 249) rfl)
theorem w250 {Z : State} {a0 : Array Value} (hw : HW Z a0) : ((Jvm.Cond.code ({ cls := "java/lang/StringUTF16", name := "getChar", desc := "([BI)C" } : Jvm.MethodName) jdk_52_method_5_code (2 : Nat) (Option.some Jvm.ClassFile.FieldType.char))).before a0 Z = true := hw _ (List.mem_of_getElem? (i := 250) rfl)
theorem w251 {Z : State} {a0 : Array Value} (hw : HW Z a0) : ((Jvm.Cond.methodLink "java/lang/String" (47 : Nat) ({ cls := "java/lang/StringUTF16", name := "coderFromArrayLen", desc := "([BI)B" } : Jvm.MethodName))).before a0 Z = true := hw _ (List.mem_of_getElem? (i := 251) rfl)
theorem w252 {Z : State} {a0 : Array Value} (hw : HW Z a0) : ((Jvm.Cond.static ({ cls := "java/lang/StringUTF16", name := "coderFromArrayLen", desc := "([BI)B" } : Jvm.MethodName))).before a0 Z = true := hw _ (List.mem_of_getElem? (i := 252) rfl)
theorem w253 {Z : State} {a0 : Array Value} (hw : HW Z a0) : ((Jvm.Cond.code ({ cls := "java/lang/StringUTF16", name := "coderFromArrayLen", desc := "([BI)B" } : Jvm.MethodName) jdk_52_method_15_code (2 : Nat) (Option.some Jvm.ClassFile.FieldType.byte))).before a0 Z = true := hw _ (List.mem_of_getElem? (i := 253) rfl)
theorem w254 {Z : State} {a0 : Array Value} (hw : HW Z a0) : ((Jvm.Cond.methodLink "java/lang/AbstractStringBuilder" (195 : Nat) ({ cls := "java/lang/AbstractStringBuilder", name := "inflate", desc := "()V" } : Jvm.MethodName))).before a0 Z = true := hw _ (List.mem_of_getElem? (i := 254) rfl)
theorem w255 {Z : State} {a0 : Array Value} (hw : HW Z a0) : ((Jvm.Cond.instanceMethod ({ cls := "java/lang/AbstractStringBuilder", name := "inflate", desc := "()V" } : Jvm.MethodName))).before a0 Z = true := hw _ (List.mem_of_getElem? (i := 255) rfl)
theorem w257 {Z : State} {a0 : Array Value} (hw : HW Z a0) : ((Jvm.Cond.selects "java/lang/StringBuilder" ({ cls := "java/lang/AbstractStringBuilder", name := "inflate", desc := "()V" } : Jvm.MethodName) ({ cls := "java/lang/AbstractStringBuilder", name := "inflate", desc := "()V" } : Jvm.MethodName))).before a0 Z = true := hw _ (List.mem_of_getElem? (i := 257) rfl)
theorem w258 {Z : State} {a0 : Array Value} (hw : HW Z a0) : ((Jvm.Cond.code ({ cls := "java/lang/AbstractStringBuilder", name := "inflate", desc := "()V" } : Jvm.MethodName) jdk_68_method_11_code (2 : Nat) (Option.none : Option Jvm.ClassFile.FieldType))).before a0 Z = true := hw _ (List.mem_of_getElem? (i := 258) rfl)
theorem w259 {Z : State} {a0 : Array Value} (hw : HW Z a0) : ((Jvm.Cond.methodLink "java/lang/AbstractStringBuilder" (26 : Nat) ({ cls := "java/lang/StringUTF16", name := "newBytesFor", desc := "(I)[B" } : Jvm.MethodName))).before a0 Z = true := hw _ (List.mem_of_getElem? (i := 259) rfl)
theorem w260 {Z : State} {a0 : Array Value} (hw : HW Z a0) : ((Jvm.Cond.methodLink "java/lang/AbstractStringBuilder" (125 : Nat) ({ cls := "java/lang/StringLatin1", name := "inflate", desc := "([BI[BII)V" } : Jvm.MethodName))).before a0 Z = true := hw _ (List.mem_of_getElem? (i := 260) rfl)
theorem w261 {Z : State} {a0 : Array Value} (hw : HW Z a0) : ((Jvm.Cond.static ({ cls := "java/lang/StringLatin1", name := "inflate", desc := "([BI[BII)V" } : Jvm.MethodName))).before a0 Z = true := hw _ (List.mem_of_getElem? (i := 261) rfl)
theorem w262 {Z : State} {a0 : Array Value} (hw : HW Z a0) : ((Jvm.Cond.initialized "java/lang/StringLatin1")).before a0 Z = true := hw _ (List.mem_of_getElem? (i := 262) rfl)
theorem w263 {Z : State} {a0 : Array Value} (hw : HW Z a0) : ((Jvm.Cond.code ({ cls := "java/lang/StringLatin1", name := "inflate", desc := "([BI[BII)V" } : Jvm.MethodName) jdk_43_method_50_code (5 : Nat) (Option.none : Option Jvm.ClassFile.FieldType))).before a0 Z = true := hw _ (List.mem_of_getElem? (i := 263) rfl)
theorem w264 {Z : State} {a0 : Array Value} (hw : HW Z a0) : ((Jvm.Cond.methodLink "java/lang/StringLatin1" (240 : Nat) ({ cls := "java/lang/StringUTF16", name := "inflate", desc := "([BI[BII)V" } : Jvm.MethodName))).before a0 Z = true := hw _ (List.mem_of_getElem? (i := 264) rfl)
theorem w265 {Z : State} {a0 : Array Value} (hw : HW Z a0) : ((Jvm.Cond.static ({ cls := "java/lang/StringUTF16", name := "inflate", desc := "([BI[BII)V" } : Jvm.MethodName))).before a0 Z = true := hw _ (List.mem_of_getElem? (i := 265) rfl)
theorem w266 {Z : State} {a0 : Array Value} (hw : HW Z a0) : ((Jvm.Cond.code ({ cls := "java/lang/StringUTF16", name := "inflate", desc := "([BI[BII)V" } : Jvm.MethodName) jdk_52_method_86_code (6 : Nat) (Option.none : Option Jvm.ClassFile.FieldType))).before a0 Z = true := hw _ (List.mem_of_getElem? (i := 266) rfl)
theorem w267 {Z : State} {a0 : Array Value} (hw : HW Z a0) : ((Jvm.Cond.methodLink "java/lang/StringUTF16" (173 : Nat) ({ cls := "java/lang/StringUTF16", name := "checkBoundsOffCount", desc := "(II[B)V" } : Jvm.MethodName))).before a0 Z = true := hw _ (List.mem_of_getElem? (i := 267) rfl)
theorem w268 {Z : State} {a0 : Array Value} (hw : HW Z a0) : ((Jvm.Cond.static ({ cls := "java/lang/StringUTF16", name := "checkBoundsOffCount", desc := "(II[B)V" } : Jvm.MethodName))).before a0 Z = true := hw _ (List.mem_of_getElem? (i := 268) rfl)
theorem w269 {Z : State} {a0 : Array Value} (hw : HW Z a0) : ((Jvm.Cond.code ({ cls := "java/lang/StringUTF16", name := "checkBoundsOffCount", desc := "(II[B)V" } : Jvm.MethodName) jdk_52_method_94_code (3 : Nat) (Option.none : Option Jvm.ClassFile.FieldType))).before a0 Z = true := hw _ (List.mem_of_getElem? (i := 269) rfl)
theorem w270 {Z : State} {a0 : Array Value} (hw : HW Z a0) : ((Jvm.Cond.methodLink "java/lang/StringUTF16" (48 : Nat) ({ cls := "java/lang/StringUTF16", name := "length", desc := "([B)I" } : Jvm.MethodName))).before a0 Z = true := hw _ (List.mem_of_getElem? (i := 270) rfl)
theorem w271 {Z : State} {a0 : Array Value} (hw : HW Z a0) : ((Jvm.Cond.static ({ cls := "java/lang/StringUTF16", name := "length", desc := "([B)I" } : Jvm.MethodName))).before a0 Z = true := hw _ (List.mem_of_getElem? (i := 271) rfl)
theorem w272 {Z : State} {a0 : Array Value} (hw : HW Z a0) : ((Jvm.Cond.code ({ cls := "java/lang/StringUTF16", name := "length", desc := "([B)I" } : Jvm.MethodName) jdk_52_method_6_code (1 : Nat) (Option.some Jvm.ClassFile.FieldType.int))).before a0 Z = true := hw _ (List.mem_of_getElem? (i := 272) rfl)
theorem w273 {Z : State} {a0 : Array Value} (hw : HW Z a0) : ((Jvm.Cond.methodLink "java/lang/StringUTF16" (419 : Nat) ({ cls := "java/lang/String", name := "checkBoundsOffCount", desc := "(III)I" } : Jvm.MethodName))).before a0 Z = true := hw _ (List.mem_of_getElem? (i := 273) rfl)
theorem w274 {Z : State} {a0 : Array Value} (hw : HW Z a0) : ((Jvm.Cond.static ({ cls := "java/lang/String", name := "checkBoundsOffCount", desc := "(III)I" } : Jvm.MethodName))).before a0 Z = true := hw _ (List.mem_of_getElem? (i := 274) rfl)
theorem w275 {Z : State} {a0 : Array Value} (hw : HW Z a0) : ((Jvm.Cond.code ({ cls := "java/lang/String", name := "checkBoundsOffCount", desc := "(III)I" } : Jvm.MethodName) jdk_42_method_157_code (3 : Nat) (Option.some Jvm.ClassFile.FieldType.int))).before a0 Z = true := hw _ (List.mem_of_getElem? (i := 275) rfl)
theorem w276 {Z : State} {a0 : Array Value} (hw : HW Z a0) : ((Jvm.Cond.fieldLink "java/lang/String" (1053 : Nat) "jdk/internal/util/Preconditions" "SIOOBE_FORMATTER" "Ljava/util/function/BiFunction;")).before a0 Z = true := hw _ (List.mem_of_getElem? (i := 276) rfl)
theorem w277 {Z : State} {a0 : Array Value} (hw : HW Z a0) : ((Jvm.Cond.initialized "jdk/internal/util/Preconditions")).before a0 Z = true := hw _ (List.mem_of_getElem? (i := 277) rfl)
theorem w278 {Z : State} {a0 : Array Value} (hw : HW Z a0) : ((Jvm.Cond.methodLink "java/lang/String" (1065 : Nat) ({ cls := "jdk/internal/util/Preconditions", name := "checkFromIndexSize", desc := "(IIILjava/util/function/BiFunction;)I" } : Jvm.MethodName))).before a0 Z = true := hw _ (List.mem_of_getElem? (i := 278) rfl)
theorem w279 {Z : State} {a0 : Array Value} (hw : HW Z a0) : ((Jvm.Cond.static ({ cls := "jdk/internal/util/Preconditions", name := "checkFromIndexSize", desc := "(IIILjava/util/function/BiFunction;)I" } : Jvm.MethodName))).before a0 Z = true := hw _ (List.mem_of_getElem? (i := 279) rfl)
theorem w280 {Z : State} {a0 : Array Value} (hw : HW Z a0) : ((Jvm.Cond.code ({ cls := "jdk/internal/util/Preconditions", name := "checkFromIndexSize", desc := "(IIILjava/util/function/BiFunction;)I" } : Jvm.MethodName) jdk_41_method_13_code (4 : Nat) (Option.some Jvm.ClassFile.FieldType.int))).before a0 Z = true := hw _ (List.mem_of_getElem? (i := 280) rfl)
theorem w281 {Z : State} {a0 : Array Value} (hw : HW Z a0) : ((Jvm.Cond.methodLink "java/lang/String" (106 : Nat) ({ cls := "java/lang/StringLatin1", name := "inflate", desc := "([BI[BII)V" } : Jvm.MethodName))).before a0 Z = true := hw _ (List.mem_of_getElem? (i := 281) rfl)
theorem w282 {Z : State} {a0 : Array Value} (hw : HW Z a0) : ((Jvm.Cond.fieldLink "java/lang/String" (1048 : Nat) "java/lang/AbstractStringBuilder" "maybeLatin1" "Z")).before a0 Z = true := hw _ (List.mem_of_getElem? (i := 282) rfl)
theorem w283 {Z : State} {a0 : Array Value} (hw : HW Z a0) : ((Jvm.Cond.lays "java/lang/StringBuilder" "java/lang/AbstractStringBuilder" "maybeLatin1" "Z")).before a0 Z = true := hw _ (List.mem_of_getElem? (i := 283) rfl)
theorem w284 {Z : State} {a0 : Array Value} (hw : HW Z a0) : ((Jvm.Cond.methodLink "java/lang/String" (473 : Nat) ({ cls := "java/lang/String", name := "encodeUTF8_UTF16", desc := "([BZ)[B" } : Jvm.MethodName))).before a0 Z = true := hw _ (List.mem_of_getElem? (i := 284) rfl)
theorem w285 {Z : State} {a0 : Array Value} (hw : HW Z a0) : ((Jvm.Cond.static ({ cls := "java/lang/String", name := "encodeUTF8_UTF16", desc := "([BZ)[B" } : Jvm.MethodName))).before a0 Z = true := hw _ (List.mem_of_getElem? (i := 285) rfl)
theorem w286 {Z : State} {a0 : Array Value} (hw : HW Z a0) : ((Jvm.Cond.code ({ cls := "java/lang/String", name := "encodeUTF8_UTF16", desc := "([BZ)[B" } : Jvm.MethodName) jdk_42_method_47_code (9 : Nat) (Option.some (Jvm.ClassFile.FieldType.array Jvm.ClassFile.FieldType.byte)))).before a0 Z = true := hw _ (List.mem_of_getElem? (i := 286) rfl)
theorem w287 {Z : State} {a0 : Array Value} (hw : HW Z a0) : ((Jvm.Cond.methodLink "java/lang/String" (360 : Nat) ({ cls := "java/lang/StringUTF16", name := "getChar", desc := "([BI)C" } : Jvm.MethodName))).before a0 Z = true := hw _ (List.mem_of_getElem? (i := 287) rfl)
theorem w288 {Z : State} {a0 : Array Value} (hw : HW Z a0) : ((Jvm.Cond.methodLink "java/lang/String" (404 : Nat) ({ cls := "java/lang/Character", name := "isSurrogate", desc := "(C)Z" } : Jvm.MethodName))).before a0 Z = true := hw _ (List.mem_of_getElem? (i := 288) rfl)
theorem w289 {Z : State} {a0 : Array Value} (hw : HW Z a0) : ((Jvm.Cond.static ({ cls := "java/lang/Character", name := "isSurrogate", desc := "(C)Z" } : Jvm.MethodName))).before a0 Z = true := hw _ (List.mem_of_getElem? (i := 289) rfl)
theorem w290 {Z : State} {a0 : Array Value} (hw : HW Z a0) : ((Jvm.Cond.initialized "java/lang/Character")).before a0 Z = true := hw _ (List.mem_of_getElem? (i := 290) rfl)
theorem w291 {Z : State} {a0 : Array Value} (hw : HW Z a0) : ((Jvm.Cond.code ({ cls := "java/lang/Character", name := "isSurrogate", desc := "(C)Z" } : Jvm.MethodName) jdk_89_method_16_code (1 : Nat) (Option.some Jvm.ClassFile.FieldType.boolean))).before a0 Z = true := hw _ (List.mem_of_getElem? (i := 291) rfl)
theorem w292 {Z : State} {a0 : Array Value} (hw : HW Z a0) : ((Jvm.Cond.constant "java/lang/Character" (75 : Nat) (55296 : Int32))).before a0 Z = true := hw _ (List.mem_of_getElem? (i := 292) rfl)
theorem w293 {Z : State} {a0 : Array Value} (hw : HW Z a0) : ((Jvm.Cond.constant "java/lang/Character" (77 : Nat) (57344 : Int32))).before a0 Z = true := hw _ (List.mem_of_getElem? (i := 293) rfl)
theorem w294 {Z : State} {a0 : Array Value} (hw : HW Z a0) : ((Jvm.Cond.methodLink "java/lang/String" (102 : Nat) ({ cls := "java/util/Arrays", name := "copyOf", desc := "([BI)[B" } : Jvm.MethodName))).before a0 Z = true := hw _ (List.mem_of_getElem? (i := 294) rfl)
theorem w295 {Z : State} {a0 : Array Value} (hw : HW Z a0) : ((Jvm.Cond.static ({ cls := "java/util/Arrays", name := "copyOf", desc := "([BI)[B" } : Jvm.MethodName))).before a0 Z = true := hw _ (List.mem_of_getElem? (i := 295) rfl)
theorem w296 {Z : State} {a0 : Array Value} (hw : HW Z a0) : ((Jvm.Cond.code ({ cls := "java/util/Arrays", name := "copyOf", desc := "([BI)[B" } : Jvm.MethodName) jdk_65_method_121_code (3 : Nat) (Option.some (Jvm.ClassFile.FieldType.array Jvm.ClassFile.FieldType.byte)))).before a0 Z = true := hw _ (List.mem_of_getElem? (i := 296) rfl)
theorem w297 {Z : State} {a0 : Array Value} (hw : HW Z a0) : ((Jvm.Cond.methodLink "java/lang/String" (60 : Nat) ({ cls := "java/lang/StringUTF16", name := "newBytesFor", desc := "(I)[B" } : Jvm.MethodName))).before a0 Z = true := hw _ (List.mem_of_getElem? (i := 297) rfl)
theorem pd0 : parseMethodDescriptor "()B" = some ⟨[], some .byte⟩ := by decide +kernel
theorem pd1 : parseMethodDescriptor "(Ljava/lang/String;)V" = some ⟨[(.object "java/lang/String")], none⟩ := by decide +kernel
theorem pd2 : parseMethodDescriptor "([BIB)V" = some ⟨[(.array .byte), .int, .byte], none⟩ := by decide +kernel
theorem pd3 : parseMethodDescriptor "()I" = some ⟨[], some .int⟩ := by decide +kernel
theorem pd4 : parseMethodDescriptor "(I)V" = some ⟨[.int], none⟩ := by decide +kernel
theorem pd5 : parseMethodDescriptor "(ILjava/lang/String;)V" = some ⟨[.int, (.object "java/lang/String")], none⟩ := by decide +kernel
theorem pd6 : parseMethodDescriptor "(Ljava/lang/String;)Ljava/lang/AbstractStringBuilder;" = some ⟨[(.object "java/lang/String")], some (.object "java/lang/AbstractStringBuilder")⟩ := by decide +kernel
theorem pd7 : parseMethodDescriptor "(II)V" = some ⟨[.int, .int], none⟩ := by decide +kernel
theorem pd8 : parseMethodDescriptor "(II)I" = some ⟨[.int, .int], some .int⟩ := by decide +kernel
theorem pd9 : parseMethodDescriptor "([BII)[B" = some ⟨[(.array .byte), .int, .int], some (.array .byte)⟩ := by decide +kernel
theorem pd10 : parseMethodDescriptor "()[B" = some ⟨[], some (.array .byte)⟩ := by decide +kernel
theorem pd11 : parseMethodDescriptor "()Z" = some ⟨[], some .boolean⟩ := by decide +kernel
theorem pd12 : parseMethodDescriptor "(Ljava/lang/AbstractStringBuilder;Ljava/lang/Void;)V" = some ⟨[(.object "java/lang/AbstractStringBuilder"), (.object "java/lang/Void")], none⟩ := by decide +kernel
theorem pd13 : parseMethodDescriptor "(Ljava/lang/StringBuilder;)V" = some ⟨[(.object "java/lang/StringBuilder")], none⟩ := by decide +kernel
theorem pd14 : parseMethodDescriptor "([BII)I" = some ⟨[(.array .byte), .int, .int], some .int⟩ := by decide +kernel
theorem pd15 : parseMethodDescriptor "(I)I" = some ⟨[.int], some .int⟩ := by decide +kernel
theorem pd16 : parseMethodDescriptor "([BII)Z" = some ⟨[(.array .byte), .int, .int], some .boolean⟩ := by decide +kernel
theorem pd17 : parseMethodDescriptor "(I)[B" = some ⟨[.int], some (.array .byte)⟩ := by decide +kernel
theorem pd18 : parseMethodDescriptor "([BI)[B" = some ⟨[(.array .byte), .int], some (.array .byte)⟩ := by decide +kernel
theorem pd19 : parseMethodDescriptor "(B[BZ)[B" = some ⟨[.byte, (.array .byte), .boolean], some (.array .byte)⟩ := by decide +kernel
theorem pd20 : parseMethodDescriptor "(Ljava/nio/charset/Charset;B[B)[B" = some ⟨[(.object "java/nio/charset/Charset"), .byte, (.array .byte)], some (.array .byte)⟩ := by decide +kernel
theorem pd21 : parseMethodDescriptor "()Ljava/lang/AbstractStringBuilder;" = some ⟨[], some (.object "java/lang/AbstractStringBuilder")⟩ := by decide +kernel
theorem pd22 : parseMethodDescriptor "(IIILjava/util/function/BiFunction;)I" = some ⟨[.int, .int, .int, (.object "java/util/function/BiFunction")], some .int⟩ := by decide +kernel
theorem pd23 : parseMethodDescriptor "([B)I" = some ⟨[(.array .byte)], some .int⟩ := by decide +kernel
theorem pd24 : parseMethodDescriptor "(III)I" = some ⟨[.int, .int, .int], some .int⟩ := by decide +kernel
theorem pd25 : parseMethodDescriptor "(II[B)V" = some ⟨[.int, .int, (.array .byte)], none⟩ := by decide +kernel
theorem pd26 : parseMethodDescriptor "([BI[BII)V" = some ⟨[(.array .byte), .int, (.array .byte), .int, .int], none⟩ := by decide +kernel
theorem pd27 : parseMethodDescriptor "([BII)V" = some ⟨[(.array .byte), .int, .int], none⟩ := by decide +kernel
theorem pd28 : parseMethodDescriptor "()V" = some ⟨[], none⟩ := by decide +kernel
theorem pd29 : parseMethodDescriptor "([BI)C" = some ⟨[(.array .byte), .int], some .char⟩ := by decide +kernel
theorem pd30 : parseMethodDescriptor "(C)Z" = some ⟨[.char], some .boolean⟩ := by decide +kernel
theorem pd31 : parseMethodDescriptor "([BZ)[B" = some ⟨[(.array .byte), .boolean], some (.array .byte)⟩ := by decide +kernel
theorem pd32 : parseMethodDescriptor "([CI[BII)I" = some ⟨[(.array .char), .int, (.array .byte), .int, .int], some .int⟩ := by decide +kernel
theorem pd33 : parseMethodDescriptor "([CII)[B" = some ⟨[(.array .char), .int, .int], some (.array .byte)⟩ := by decide +kernel
theorem pd34 : parseMethodDescriptor "([BI)B" = some ⟨[(.array .byte), .int], some .byte⟩ := by decide +kernel
theorem pd35 : parseMethodDescriptor "([CIILjava/lang/Void;)V" = some ⟨[(.array .char), .int, .int, (.object "java/lang/Void")], none⟩ := by decide +kernel
theorem pd36 : parseMethodDescriptor "(Ljava/lang/String;Ljava/lang/Throwable;ZZ)V" = some ⟨[(.object "java/lang/String"), (.object "java/lang/Throwable"), .boolean, .boolean], none⟩ := by decide +kernel
theorem pd37 : parseMethodDescriptor "()Ljava/lang/String;" = some ⟨[], some (.object "java/lang/String")⟩ := by decide +kernel
theorem pd38 : parseMethodDescriptor "(Ljava/lang/String;)Ljava/lang/StringBuilder;" = some ⟨[(.object "java/lang/String")], some (.object "java/lang/StringBuilder")⟩ := by decide +kernel
theorem pd39 : parseMethodDescriptor "(Ljava/nio/charset/Charset;)[B" = some ⟨[(.object "java/nio/charset/Charset")], some (.array .byte)⟩ := by decide +kernel
theorem pd40 : parseMethodDescriptor "([B[BI)Z" = some ⟨[(.array .byte), (.array .byte), .int], some .boolean⟩ := by decide +kernel
theorem pd41 : parseMethodDescriptor "(I)C" = some ⟨[.int], some .char⟩ := by decide +kernel
theorem pd42 : parseMethodDescriptor "([C)V" = some ⟨[(.array .char)], none⟩ := by decide +kernel
theorem pd43 : parseMethodDescriptor "(C[BI)I" = some ⟨[.char, (.array .byte), .int], some .int⟩ := by decide +kernel
theorem d0_0 : Dc jdk_42_method_152_code 0 (.getstatic 38) 3 3 := ⟨by decide +kernel, rfl⟩
theorem d0_3 : Db jdk_42_method_152_code 3 (.ifCond .eq 10) 10 6 13 := ⟨by decide +kernel, rfl, by decide, by decide⟩
theorem d0_6 : Dc jdk_42_method_152_code 6 (.aload_n 0) 1 7 := ⟨by decide +kernel, rfl⟩
theorem d0_7 : Dc jdk_42_method_152_code 7 (.getfield 15) 3 10 := ⟨by decide +kernel, rfl⟩
theorem d0_10 : Db jdk_42_method_152_code 10 (.goto 4) 4 13 14 := ⟨by decide +kernel, rfl, by decide, by decide⟩
theorem d0_14 : Dc jdk_42_method_152_code 14 (.ireturn) 1 15 := ⟨by decide +kernel, rfl⟩
theorem d1_0 : Dc jdk_42_method_54_code 0 (.aload_n 0) 1 1 := ⟨by decide +kernel, rfl⟩
theorem d1_1 : Dc jdk_42_method_54_code 1 (.getfield 9) 3 4 := ⟨by decide +kernel, rfl⟩
theorem d1_4 : Dc jdk_42_method_54_code 4 (.arraylength) 1 5 := ⟨by decide +kernel, rfl⟩
theorem d1_5 : Dc jdk_42_method_54_code 5 (.aload_n 0) 1 6 := ⟨by decide +kernel, rfl⟩
theorem d1_6 : Dc jdk_42_method_54_code 6 (.invokevirtual 335) 3 9 := ⟨by decide +kernel, rfl⟩
theorem d1_9 : Dc jdk_42_method_54_code 9 (.ishr) 1 10 := ⟨by decide +kernel, rfl⟩
theorem d1_10 : Dc jdk_42_method_54_code 10 (.ireturn) 1 11 := ⟨by decide +kernel, rfl⟩
theorem d2_0 : Dc jdk_68_method_9_code 0 (.aload_n 0) 1 1 := ⟨by decide +kernel, rfl⟩
theorem d2_1 : Dc jdk_68_method_9_code 1 (.getfield 15) 3 4 := ⟨by decide +kernel, rfl⟩
theorem d2_4 : Dc jdk_68_method_9_code 4 (.arraylength) 1 5 := ⟨by decide +kernel, rfl⟩
theorem d2_5 : Dc jdk_68_method_9_code 5 (.aload_n 0) 1 6 := ⟨by decide +kernel, rfl⟩
theorem d2_6 : Dc jdk_68_method_9_code 6 (.getfield 22) 3 9 := ⟨by decide +kernel, rfl⟩
theorem d2_9 : Dc jdk_68_method_9_code 9 (.ishr) 1 10 := ⟨by decide +kernel, rfl⟩
theorem d2_10 : Dc jdk_68_method_9_code 10 (.istore_n 2) 1 11 := ⟨by decide +kernel, rfl⟩
theorem d2_11 : Dc jdk_68_method_9_code 11 (.iload_n 1) 1 12 := ⟨by decide +kernel, rfl⟩
theorem d2_12 : Dc jdk_68_method_9_code 12 (.iload_n 2) 1 13 := ⟨by decide +kernel, rfl⟩
theorem d2_13 : Dc jdk_68_method_9_code 13 (.isub) 1 14 := ⟨by decide +kernel, rfl⟩
theorem d2_14 : Db jdk_68_method_9_code 14 (.ifCond .le 24) 24 17 38 := ⟨by decide +kernel, rfl, by decide, by decide⟩
theorem d2_38 : Dc jdk_68_method_9_code 38 (.return_) 1 39 := ⟨by decide +kernel, rfl⟩
theorem d3_0 : Dc jdk_68_method_71_code 0 (.getstatic 18) 3 3 := ⟨by decide +kernel, rfl⟩
theorem d3_3 : Db jdk_68_method_71_code 3 (.ifCond .eq 18) 18 6 21 := ⟨by decide +kernel, rfl, by decide, by decide⟩
theorem d3_6 : Dc jdk_68_method_71_code 6 (.aload_n 0) 1 7 := ⟨by decide +kernel, rfl⟩
theorem d3_7 : Dc jdk_68_method_71_code 7 (.getfield 22) 3 10 := ⟨by decide +kernel, rfl⟩
theorem d3_10 : Dc jdk_68_method_71_code 10 (.aload_n 1) 1 11 := ⟨by decide +kernel, rfl⟩
theorem d3_11 : Dc jdk_68_method_71_code 11 (.invokevirtual 40) 3 14 := ⟨by decide +kernel, rfl⟩
theorem d3_14 : Db jdk_68_method_71_code 14 (.if_icmp .eq 7) 7 17 21 := ⟨by decide +kernel, rfl, by decide, by decide⟩
theorem d3_21 : Dc jdk_68_method_71_code 21 (.return_) 1 22 := ⟨by decide +kernel, rfl⟩
theorem d4_0 : Dc jdk_42_method_147_code 0 (.aload_n 0) 1 1 := ⟨by decide +kernel, rfl⟩
theorem d4_1 : Dc jdk_42_method_147_code 1 (.invokevirtual 335) 3 4 := ⟨by decide +kernel, rfl⟩
theorem d4_4 : Dc jdk_42_method_147_code 4 (.iload_n 3) 1 5 := ⟨by decide +kernel, rfl⟩
theorem d4_5 : Db jdk_42_method_147_code 5 (.if_icmp .ne 23) 23 8 28 := ⟨by decide +kernel, rfl, by decide, by decide⟩
theorem d4_8 : Dc jdk_42_method_147_code 8 (.aload_n 0) 1 9 := ⟨by decide +kernel, rfl⟩
theorem d4_9 : Dc jdk_42_method_147_code 9 (.getfield 9) 3 12 := ⟨by decide +kernel, rfl⟩
theorem d4_12 : Dc jdk_42_method_147_code 12 (.iconst 0) 1 13 := ⟨by decide +kernel, rfl⟩
theorem d4_13 : Dc jdk_42_method_147_code 13 (.aload_n 1) 1 14 := ⟨by decide +kernel, rfl⟩
theorem d4_14 : Dc jdk_42_method_147_code 14 (.iload_n 2) 1 15 := ⟨by decide +kernel, rfl⟩
theorem d4_15 : Dc jdk_42_method_147_code 15 (.iload_n 3) 1 16 := ⟨by decide +kernel, rfl⟩
theorem d4_16 : Dc jdk_42_method_147_code 16 (.ishl) 1 17 := ⟨by decide +kernel, rfl⟩
theorem d4_17 : Dc jdk_42_method_147_code 17 (.aload_n 0) 1 18 := ⟨by decide +kernel, rfl⟩
theorem d4_18 : Dc jdk_42_method_147_code 18 (.getfield 9) 3 21 := ⟨by decide +kernel, rfl⟩
theorem d4_21 : Dc jdk_42_method_147_code 21 (.arraylength) 1 22 := ⟨by decide +kernel, rfl⟩
theorem d4_22 : Dc jdk_42_method_147_code 22 (.invokestatic 212) 3 25 := ⟨by decide +kernel, rfl⟩
theorem d4_25 : Db jdk_42_method_147_code 25 (.goto 18) 18 28 43 := ⟨by decide +kernel, rfl, by decide, by decide⟩
theorem d4_43 : Dc jdk_42_method_147_code 43 (.return_) 1 44 := ⟨by decide +kernel, rfl⟩
theorem d5_0 : Dc jdk_68_method_73_code 0 (.aload_n 0) 1 1 := ⟨by decide +kernel, rfl⟩
theorem d5_1 : Dc jdk_68_method_73_code 1 (.aload_n 2) 1 2 := ⟨by decide +kernel, rfl⟩
theorem d5_2 : Dc jdk_68_method_73_code 2 (.invokevirtual 397) 3 5 := ⟨by decide +kernel, rfl⟩
theorem d5_5 : Dc jdk_68_method_73_code 5 (.aload_n 2) 1 6 := ⟨by decide +kernel, rfl⟩
theorem d5_6 : Dc jdk_68_method_73_code 6 (.aload_n 0) 1 7 := ⟨by decide +kernel, rfl⟩
theorem d5_7 : Dc jdk_68_method_73_code 7 (.getfield 15) 3 10 := ⟨by decide +kernel, rfl⟩
theorem d5_10 : Dc jdk_68_method_73_code 10 (.iload_n 1) 1 11 := ⟨by decide +kernel, rfl⟩
theorem d5_11 : Dc jdk_68_method_73_code 11 (.aload_n 0) 1 12 := ⟨by decide +kernel, rfl⟩
theorem d5_12 : Dc jdk_68_method_73_code 12 (.getfield 22) 3 15 := ⟨by decide +kernel, rfl⟩
theorem d5_15 : Dc jdk_68_method_73_code 15 (.invokevirtual 399) 3 18 := ⟨by decide +kernel, rfl⟩
theorem d5_18 : Dc jdk_68_method_73_code 18 (.return_) 1 19 := ⟨by decide +kernel, rfl⟩
theorem d6_0 : Dc jdk_68_method_22_code 0 (.aload_n 1) 1 1 := ⟨by decide +kernel, rfl⟩
theorem d6_1 : Db jdk_68_method_22_code 1 (.ifnonnull 8) 8 4 9 := ⟨by decide +kernel, rfl, by decide, by decide⟩
theorem d6_9 : Dc jdk_68_method_22_code 9 (.aload_n 1) 1 10 := ⟨by decide +kernel, rfl⟩
theorem d6_10 : Dc jdk_68_method_22_code 10 (.invokevirtual 32) 3 13 := ⟨by decide +kernel, rfl⟩
theorem d6_13 : Dc jdk_68_method_22_code 13 (.istore_n 2) 1 14 := ⟨by decide +kernel, rfl⟩
theorem d6_14 : Dc jdk_68_method_22_code 14 (.aload_n 0) 1 15 := ⟨by decide +kernel, rfl⟩
theorem d6_15 : Dc jdk_68_method_22_code 15 (.aload_n 0) 1 16 := ⟨by decide +kernel, rfl⟩
theorem d6_16 : Dc jdk_68_method_22_code 16 (.getfield 79) 3 19 := ⟨by decide +kernel, rfl⟩
theorem d6_19 : Dc jdk_68_method_22_code 19 (.iload_n 2) 1 20 := ⟨by decide +kernel, rfl⟩
theorem d6_20 : Dc jdk_68_method_22_code 20 (.iadd) 1 21 := ⟨by decide +kernel, rfl⟩
theorem d6_21 : Dc jdk_68_method_22_code 21 (.invokevirtual 100) 3 24 := ⟨by decide +kernel, rfl⟩
theorem d6_24 : Dc jdk_68_method_22_code 24 (.aload_n 0) 1 25 := ⟨by decide +kernel, rfl⟩
theorem d6_25 : Dc jdk_68_method_22_code 25 (.aload_n 0) 1 26 := ⟨by decide +kernel, rfl⟩
theorem d6_26 : Dc jdk_68_method_22_code 26 (.getfield 79) 3 29 := ⟨by decide +kernel, rfl⟩
theorem d6_29 : Dc jdk_68_method_22_code 29 (.aload_n 1) 1 30 := ⟨by decide +kernel, rfl⟩
theorem d6_30 : Dc jdk_68_method_22_code 30 (.invokevirtual 208) 3 33 := ⟨by decide +kernel, rfl⟩
theorem d6_33 : Dc jdk_68_method_22_code 33 (.aload_n 0) 1 34 := ⟨by decide +kernel, rfl⟩
theorem d6_34 : Dc jdk_68_method_22_code 34 (.dup) 1 35 := ⟨by decide +kernel, rfl⟩
theorem d6_35 : Dc jdk_68_method_22_code 35 (.getfield 79) 3 38 := ⟨by decide +kernel, rfl⟩
theorem d6_38 : Dc jdk_68_method_22_code 38 (.iload_n 2) 1 39 := ⟨by decide +kernel, rfl⟩
theorem d6_39 : Dc jdk_68_method_22_code 39 (.iadd) 1 40 := ⟨by decide +kernel, rfl⟩
theorem d6_40 : Dc jdk_68_method_22_code 40 (.putfield 79) 3 43 := ⟨by decide +kernel, rfl⟩
theorem d6_43 : Dc jdk_68_method_22_code 43 (.aload_n 0) 1 44 := ⟨by decide +kernel, rfl⟩
theorem d6_44 : Dc jdk_68_method_22_code 44 (.areturn) 1 45 := ⟨by decide +kernel, rfl⟩
theorem d7_0 : Dc jdk_67_method_7_code 0 (.aload_n 0) 1 1 := ⟨by decide +kernel, rfl⟩
theorem d7_1 : Dc jdk_67_method_7_code 1 (.aload_n 1) 1 2 := ⟨by decide +kernel, rfl⟩
theorem d7_2 : Dc jdk_67_method_7_code 2 (.invokespecial 29) 3 5 := ⟨by decide +kernel, rfl⟩
theorem d7_5 : Dc jdk_67_method_7_code 5 (.pop) 1 6 := ⟨by decide +kernel, rfl⟩
theorem d7_6 : Dc jdk_67_method_7_code 6 (.aload_n 0) 1 7 := ⟨by decide +kernel, rfl⟩
theorem d7_7 : Dc jdk_67_method_7_code 7 (.areturn) 1 8 := ⟨by decide +kernel, rfl⟩
theorem d8_0 : Dc jdk_65_method_131_code 0 (.iload_n 1) 1 1 := ⟨by decide +kernel, rfl⟩
theorem d8_1 : Dc jdk_65_method_131_code 1 (.iload_n 0) 1 2 := ⟨by decide +kernel, rfl⟩
theorem d8_2 : Db jdk_65_method_131_code 2 (.if_icmp .ge 35) 35 5 37 := ⟨by decide +kernel, rfl, by decide, by decide⟩
theorem d8_37 : Dc jdk_65_method_131_code 37 (.return_) 1 38 := ⟨by decide +kernel, rfl⟩
theorem d9_0 : Dc jdk_29_method_69_code 0 (.iload_n 0) 1 1 := ⟨by decide +kernel, rfl⟩
theorem d9_1 : Dc jdk_29_method_69_code 1 (.iload_n 1) 1 2 := ⟨by decide +kernel, rfl⟩
theorem d9_2 : Db jdk_29_method_69_code 2 (.if_icmp .gt 7) 7 5 9 := ⟨by decide +kernel, rfl, by decide, by decide⟩
theorem d9_9 : Dc jdk_29_method_69_code 9 (.iload_n 1) 1 10 := ⟨by decide +kernel, rfl⟩
theorem d9_10 : Dc jdk_29_method_69_code 10 (.ireturn) 1 11 := ⟨by decide +kernel, rfl⟩
theorem d9_5 : Dc jdk_29_method_69_code 5 (.iload_n 0) 1 6 := ⟨by decide +kernel, rfl⟩
theorem d9_6 : Db jdk_29_method_69_code 6 (.goto 4) 4 9 10 := ⟨by decide +kernel, rfl, by decide, by decide⟩
theorem d10_0 : Dc jdk_65_method_133_code 0 (.iload_n 1) 1 1 := ⟨by decide +kernel, rfl⟩
theorem d10_1 : Dc jdk_65_method_133_code 1 (.iload_n 2) 1 2 := ⟨by decide +kernel, rfl⟩
theorem d10_2 : Dc jdk_65_method_133_code 2 (.invokestatic 343) 3 5 := ⟨by decide +kernel, rfl⟩
theorem d10_5 : Dc jdk_65_method_133_code 5 (.iload_n 2) 1 6 := ⟨by decide +kernel, rfl⟩
theorem d10_6 : Dc jdk_65_method_133_code 6 (.iload_n 1) 1 7 := ⟨by decide +kernel, rfl⟩
theorem d10_7 : Dc jdk_65_method_133_code 7 (.isub) 1 8 := ⟨by decide +kernel, rfl⟩
theorem d10_8 : Dc jdk_65_method_133_code 8 (.istore_n 3) 1 9 := ⟨by decide +kernel, rfl⟩
theorem d10_9 : Dc jdk_65_method_133_code 9 (.iload_n 3) 1 10 := ⟨by decide +kernel, rfl⟩
theorem d10_10 : Dc jdk_65_method_133_code 10 (.newarray .byte) 2 12 := ⟨by decide +kernel, rfl⟩
theorem d10_12 : Dc jdk_65_method_133_code 12 (.astore 4) 2 14 := ⟨by decide +kernel, rfl⟩
theorem d10_14 : Dc jdk_65_method_133_code 14 (.aload_n 0) 1 15 := ⟨by decide +kernel, rfl⟩
theorem d10_15 : Dc jdk_65_method_133_code 15 (.iload_n 1) 1 16 := ⟨by decide +kernel, rfl⟩
theorem d10_16 : Dc jdk_65_method_133_code 16 (.aload 4) 2 18 := ⟨by decide +kernel, rfl⟩
theorem d10_18 : Dc jdk_65_method_133_code 18 (.iconst 0) 1 19 := ⟨by decide +kernel, rfl⟩
theorem d10_19 : Dc jdk_65_method_133_code 19 (.aload_n 0) 1 20 := ⟨by decide +kernel, rfl⟩
theorem d10_20 : Dc jdk_65_method_133_code 20 (.arraylength) 1 21 := ⟨by decide +kernel, rfl⟩
theorem d10_21 : Dc jdk_65_method_133_code 21 (.iload_n 1) 1 22 := ⟨by decide +kernel, rfl⟩
theorem d10_22 : Dc jdk_65_method_133_code 22 (.isub) 1 23 := ⟨by decide +kernel, rfl⟩
theorem d10_23 : Dc jdk_65_method_133_code 23 (.iload_n 3) 1 24 := ⟨by decide +kernel, rfl⟩
theorem d10_24 : Dc jdk_65_method_133_code 24 (.invokestatic 304) 3 27 := ⟨by decide +kernel, rfl⟩
theorem d10_27 : Dc jdk_65_method_133_code 27 (.invokestatic 150) 3 30 := ⟨by decide +kernel, rfl⟩
theorem d10_30 : Dc jdk_65_method_133_code 30 (.aload 4) 2 32 := ⟨by decide +kernel, rfl⟩
theorem d10_32 : Dc jdk_65_method_133_code 32 (.areturn) 1 33 := ⟨by decide +kernel, rfl⟩
theorem d11_0 : Dc jdk_65_method_132_code 0 (.iload_n 1) 1 1 := ⟨by decide +kernel, rfl⟩
theorem d11_1 : Db jdk_65_method_132_code 1 (.ifCond .ne 9) 9 4 10 := ⟨by decide +kernel, rfl, by decide, by decide⟩
theorem d11_4 : Dc jdk_65_method_132_code 4 (.iload_n 2) 1 5 := ⟨by decide +kernel, rfl⟩
theorem d11_5 : Dc jdk_65_method_132_code 5 (.aload_n 0) 1 6 := ⟨by decide +kernel, rfl⟩
theorem d11_6 : Dc jdk_65_method_132_code 6 (.arraylength) 1 7 := ⟨by decide +kernel, rfl⟩
theorem d11_7 : Db jdk_65_method_132_code 7 (.if_icmp .eq 10) 10 10 17 := ⟨by decide +kernel, rfl, by decide, by decide⟩
theorem d11_10 : Dc jdk_65_method_132_code 10 (.aload_n 0) 1 11 := ⟨by decide +kernel, rfl⟩
theorem d11_11 : Dc jdk_65_method_132_code 11 (.iload_n 1) 1 12 := ⟨by decide +kernel, rfl⟩
theorem d11_12 : Dc jdk_65_method_132_code 12 (.iload_n 2) 1 13 := ⟨by decide +kernel, rfl⟩
theorem d11_13 : Dc jdk_65_method_132_code 13 (.invokestatic 339) 3 16 := ⟨by decide +kernel, rfl⟩
theorem d11_16 : Dc jdk_65_method_132_code 16 (.areturn) 1 17 := ⟨by decide +kernel, rfl⟩
theorem d12_0 : Dc jdk_68_method_64_code 0 (.aload_n 0) 1 1 := ⟨by decide +kernel, rfl⟩
theorem d12_1 : Dc jdk_68_method_64_code 1 (.getfield 15) 3 4 := ⟨by decide +kernel, rfl⟩
theorem d12_4 : Dc jdk_68_method_64_code 4 (.areturn) 1 5 := ⟨by decide +kernel, rfl⟩
theorem d13_0 : Dc jdk_68_method_6_code 0 (.aload_n 0) 1 1 := ⟨by decide +kernel, rfl⟩
theorem d13_1 : Dc jdk_68_method_6_code 1 (.getfield 79) 3 4 := ⟨by decide +kernel, rfl⟩
theorem d13_4 : Dc jdk_68_method_6_code 4 (.ireturn) 1 5 := ⟨by decide +kernel, rfl⟩
theorem d14_0 : Dc jdk_67_method_93_code 0 (.aload_n 0) 1 1 := ⟨by decide +kernel, rfl⟩
theorem d14_1 : Dc jdk_67_method_93_code 1 (.invokespecial 343) 3 4 := ⟨by decide +kernel, rfl⟩
theorem d14_4 : Dc jdk_67_method_93_code 4 (.ireturn) 1 5 := ⟨by decide +kernel, rfl⟩
theorem d15_0 : Dc jdk_68_method_68_code 0 (.getstatic 18) 3 3 := ⟨by decide +kernel, rfl⟩
theorem d15_3 : Db jdk_68_method_68_code 3 (.ifCond .eq 14) 14 6 17 := ⟨by decide +kernel, rfl, by decide, by decide⟩
theorem d15_6 : Dc jdk_68_method_68_code 6 (.aload_n 0) 1 7 := ⟨by decide +kernel, rfl⟩
theorem d15_7 : Dc jdk_68_method_68_code 7 (.getfield 22) 3 10 := ⟨by decide +kernel, rfl⟩
theorem d15_10 : Db jdk_68_method_68_code 10 (.ifCond .ne 7) 7 13 17 := ⟨by decide +kernel, rfl, by decide, by decide⟩
theorem d15_13 : Dc jdk_68_method_68_code 13 (.iconst 1) 1 14 := ⟨by decide +kernel, rfl⟩
theorem d15_14 : Db jdk_68_method_68_code 14 (.goto 4) 4 17 18 := ⟨by decide +kernel, rfl, by decide, by decide⟩
theorem d15_18 : Dc jdk_68_method_68_code 18 (.ireturn) 1 19 := ⟨by decide +kernel, rfl⟩
theorem d16_0 : Dc jdk_42_method_150_code 0 (.aload_n 0) 1 1 := ⟨by decide +kernel, rfl⟩
theorem d16_1 : Dc jdk_42_method_150_code 1 (.invokespecial 1) 3 4 := ⟨by decide +kernel, rfl⟩
theorem d16_4 : Dc jdk_42_method_150_code 4 (.aload_n 1) 1 5 := ⟨by decide +kernel, rfl⟩
theorem d16_5 : Dc jdk_42_method_150_code 5 (.invokevirtual 552) 3 8 := ⟨by decide +kernel, rfl⟩
theorem d16_8 : Dc jdk_42_method_150_code 8 (.astore_n 3) 1 9 := ⟨by decide +kernel, rfl⟩
theorem d16_9 : Dc jdk_42_method_150_code 9 (.aload_n 1) 1 10 := ⟨by decide +kernel, rfl⟩
theorem d16_10 : Dc jdk_42_method_150_code 10 (.invokevirtual 549) 3 13 := ⟨by decide +kernel, rfl⟩
theorem d16_13 : Dc jdk_42_method_150_code 13 (.istore 4) 2 15 := ⟨by decide +kernel, rfl⟩
theorem d16_15 : Dc jdk_42_method_150_code 15 (.aload_n 1) 1 16 := ⟨by decide +kernel, rfl⟩
theorem d16_16 : Dc jdk_42_method_150_code 16 (.invokevirtual 1047) 3 19 := ⟨by decide +kernel, rfl⟩
theorem d16_19 : Db jdk_42_method_150_code 19 (.ifCond .eq 22) 22 22 41 := ⟨by decide +kernel, rfl, by decide, by decide⟩
theorem d16_22 : Dc jdk_42_method_150_code 22 (.aload_n 0) 1 23 := ⟨by decide +kernel, rfl⟩
theorem d16_23 : Dc jdk_42_method_150_code 23 (.iconst 0) 1 24 := ⟨by decide +kernel, rfl⟩
theorem d16_24 : Dc jdk_42_method_150_code 24 (.putfield 15) 3 27 := ⟨by decide +kernel, rfl⟩
theorem d16_27 : Dc jdk_42_method_150_code 27 (.aload_n 0) 1 28 := ⟨by decide +kernel, rfl⟩
theorem d16_28 : Dc jdk_42_method_150_code 28 (.aload_n 3) 1 29 := ⟨by decide +kernel, rfl⟩
theorem d16_29 : Dc jdk_42_method_150_code 29 (.iconst 0) 1 30 := ⟨by decide +kernel, rfl⟩
theorem d16_30 : Dc jdk_42_method_150_code 30 (.iload 4) 2 32 := ⟨by decide +kernel, rfl⟩
theorem d16_32 : Dc jdk_42_method_150_code 32 (.invokestatic 54) 3 35 := ⟨by decide +kernel, rfl⟩
theorem d16_35 : Dc jdk_42_method_150_code 35 (.putfield 9) 3 38 := ⟨by decide +kernel, rfl⟩
theorem d16_38 : Db jdk_42_method_150_code 38 (.goto 59) 59 41 97 := ⟨by decide +kernel, rfl, by decide, by decide⟩
theorem d16_97 : Dc jdk_42_method_150_code 97 (.return_) 1 98 := ⟨by decide +kernel, rfl⟩
theorem d17_0 : Dc jdk_42_method_53_code 0 (.aload_n 0) 1 1 := ⟨by decide +kernel, rfl⟩
theorem d17_1 : Dc jdk_42_method_53_code 1 (.aload_n 1) 1 2 := ⟨by decide +kernel, rfl⟩
theorem d17_2 : Dc jdk_42_method_53_code 2 (.aconst_null) 1 3 := ⟨by decide +kernel, rfl⟩
theorem d17_3 : Dc jdk_42_method_53_code 3 (.invokespecial 489) 3 6 := ⟨by decide +kernel, rfl⟩
theorem d17_6 : Dc jdk_42_method_53_code 6 (.return_) 1 7 := ⟨by decide +kernel, rfl⟩
theorem d18_0 : Dc jdk_67_method_42_code 0 (.new 18) 3 3 := ⟨by decide +kernel, rfl⟩
theorem d18_3 : Dc jdk_67_method_42_code 3 (.dup) 1 4 := ⟨by decide +kernel, rfl⟩
theorem d18_4 : Dc jdk_67_method_42_code 4 (.aload_n 0) 1 5 := ⟨by decide +kernel, rfl⟩
theorem d18_5 : Dc jdk_67_method_42_code 5 (.invokespecial 137) 3 8 := ⟨by decide +kernel, rfl⟩
theorem d18_8 : Dc jdk_67_method_42_code 8 (.areturn) 1 9 := ⟨by decide +kernel, rfl⟩
theorem d19_0 : Dc jdk_123_method_3_code 0 (.iload_n 1) 1 1 := ⟨by decide +kernel, rfl⟩
theorem d19_1 : Dc jdk_123_method_3_code 1 (.iload_n 2) 1 2 := ⟨by decide +kernel, rfl⟩
theorem d19_2 : Dc jdk_123_method_3_code 2 (.iadd) 1 3 := ⟨by decide +kernel, rfl⟩
theorem d19_3 : Dc jdk_123_method_3_code 3 (.istore_n 3) 1 4 := ⟨by decide +kernel, rfl⟩
theorem d19_4 : Dc jdk_123_method_3_code 4 (.iload_n 1) 1 5 := ⟨by decide +kernel, rfl⟩
theorem d19_5 : Dc jdk_123_method_3_code 5 (.istore 4) 2 7 := ⟨by decide +kernel, rfl⟩
theorem d19_7 : Dc jdk_123_method_3_code 7 (.iload 4) 2 9 := ⟨by decide +kernel, rfl⟩
theorem d19_9 : Dc jdk_123_method_3_code 9 (.iload_n 3) 1 10 := ⟨by decide +kernel, rfl⟩
theorem d19_10 : Db jdk_123_method_3_code 10 (.if_icmp .ge 21) 21 13 31 := ⟨by decide +kernel, rfl, by decide, by decide⟩
theorem d19_31 : Dc jdk_123_method_3_code 31 (.iload_n 2) 1 32 := ⟨by decide +kernel, rfl⟩
theorem d19_32 : Dc jdk_123_method_3_code 32 (.ireturn) 1 33 := ⟨by decide +kernel, rfl⟩
theorem d19_13 : Dc jdk_123_method_3_code 13 (.aload_n 0) 1 14 := ⟨by decide +kernel, rfl⟩
theorem d19_14 : Dc jdk_123_method_3_code 14 (.iload 4) 2 16 := ⟨by decide +kernel, rfl⟩
theorem d19_16 : Dc jdk_123_method_3_code 16 (.baload) 1 17 := ⟨by decide +kernel, rfl⟩
theorem d19_17 : Db jdk_123_method_3_code 17 (.ifCond .ge 8) 8 20 25 := ⟨by decide +kernel, rfl, by decide, by decide⟩
theorem d19_20 : Dc jdk_123_method_3_code 20 (.iload 4) 2 22 := ⟨by decide +kernel, rfl⟩
theorem d19_22 : Dc jdk_123_method_3_code 22 (.iload_n 1) 1 23 := ⟨by decide +kernel, rfl⟩
theorem d19_23 : Dc jdk_123_method_3_code 23 (.isub) 1 24 := ⟨by decide +kernel, rfl⟩
theorem d19_24 : Dc jdk_123_method_3_code 24 (.ireturn) 1 25 := ⟨by decide +kernel, rfl⟩
theorem d19_25 : Dc jdk_123_method_3_code 25 (.iinc 4 1) 3 28 := ⟨by decide +kernel, rfl⟩
theorem d19_28 : Db jdk_123_method_3_code 28 (.goto (-21)) (-21) 31 7 := ⟨by decide +kernel, rfl, by decide, by decide⟩
theorem d20_0 : Dc jdk_123_method_2_code 0 (.aload_n 0) 1 1 := ⟨by decide +kernel, rfl⟩
theorem d20_1 : Dc jdk_123_method_2_code 1 (.iload_n 1) 1 2 := ⟨by decide +kernel, rfl⟩
theorem d20_2 : Dc jdk_123_method_2_code 2 (.iload_n 2) 1 3 := ⟨by decide +kernel, rfl⟩
theorem d20_3 : Dc jdk_123_method_2_code 3 (.invokestatic 7) 3 6 := ⟨by decide +kernel, rfl⟩
theorem d20_6 : Dc jdk_123_method_2_code 6 (.iload_n 2) 1 7 := ⟨by decide +kernel, rfl⟩
theorem d20_7 : Db jdk_123_method_2_code 7 (.if_icmp .eq 7) 7 10 14 := ⟨by decide +kernel, rfl, by decide, by decide⟩
theorem d20_14 : Dc jdk_123_method_2_code 14 (.iconst 0) 1 15 := ⟨by decide +kernel, rfl⟩
theorem d20_15 : Dc jdk_123_method_2_code 15 (.ireturn) 1 16 := ⟨by decide +kernel, rfl⟩
theorem d20_10 : Dc jdk_123_method_2_code 10 (.iconst 1) 1 11 := ⟨by decide +kernel, rfl⟩
theorem d20_11 : Db jdk_123_method_2_code 11 (.goto 4) 4 14 15 := ⟨by decide +kernel, rfl, by decide, by decide⟩
theorem d21_0 : Dc jdk_52_method_3_code 0 (.iload_n 0) 1 1 := ⟨by decide +kernel, rfl⟩
theorem d21_1 : Db jdk_52_method_3_code 1 (.ifCond .ge 11) 11 4 12 := ⟨by decide +kernel, rfl, by decide, by decide⟩
theorem d21_12 : Dc jdk_52_method_3_code 12 (.iload_n 0) 1 13 := ⟨by decide +kernel, rfl⟩
theorem d21_13 : Dc jdk_52_method_3_code 13 (.ldc 20) 2 15 := ⟨by decide +kernel, rfl⟩
theorem d21_15 : Db jdk_52_method_3_code 15 (.if_icmp .lt 40) 40 18 55 := ⟨by decide +kernel, rfl, by decide, by decide⟩
theorem d21_55 : Dc jdk_52_method_3_code 55 (.iload_n 0) 1 56 := ⟨by decide +kernel, rfl⟩
theorem d21_56 : Dc jdk_52_method_3_code 56 (.iconst 1) 1 57 := ⟨by decide +kernel, rfl⟩
theorem d21_57 : Dc jdk_52_method_3_code 57 (.ishl) 1 58 := ⟨by decide +kernel, rfl⟩
theorem d21_58 : Dc jdk_52_method_3_code 58 (.ireturn) 1 59 := ⟨by decide +kernel, rfl⟩
theorem d22_0 : Dc jdk_52_method_2_code 0 (.iload_n 0) 1 1 := ⟨by decide +kernel, rfl⟩
theorem d22_1 : Dc jdk_52_method_2_code 1 (.invokestatic 11) 3 4 := ⟨by decide +kernel, rfl⟩
theorem d22_4 : Dc jdk_52_method_2_code 4 (.newarray .byte) 2 6 := ⟨by decide +kernel, rfl⟩
theorem d22_6 : Dc jdk_52_method_2_code 6 (.areturn) 1 7 := ⟨by decide +kernel, rfl⟩
theorem d23_0 : Dc jdk_65_method_121_code 0 (.iload_n 1) 1 1 := ⟨by decide +kernel, rfl⟩
theorem d23_1 : Dc jdk_65_method_121_code 1 (.aload_n 0) 1 2 := ⟨by decide +kernel, rfl⟩
theorem d23_2 : Dc jdk_65_method_121_code 2 (.arraylength) 1 3 := ⟨by decide +kernel, rfl⟩
theorem d23_3 : Db jdk_65_method_121_code 3 (.if_icmp .ne 11) 11 6 14 := ⟨by decide +kernel, rfl, by decide, by decide⟩
theorem d23_14 : Dc jdk_65_method_121_code 14 (.iload_n 1) 1 15 := ⟨by decide +kernel, rfl⟩
theorem d23_15 : Dc jdk_65_method_121_code 15 (.newarray .byte) 2 17 := ⟨by decide +kernel, rfl⟩
theorem d23_17 : Dc jdk_65_method_121_code 17 (.astore_n 2) 1 18 := ⟨by decide +kernel, rfl⟩
theorem d23_18 : Dc jdk_65_method_121_code 18 (.aload_n 0) 1 19 := ⟨by decide +kernel, rfl⟩
theorem d23_19 : Dc jdk_65_method_121_code 19 (.iconst 0) 1 20 := ⟨by decide +kernel, rfl⟩
theorem d23_20 : Dc jdk_65_method_121_code 20 (.aload_n 2) 1 21 := ⟨by decide +kernel, rfl⟩
theorem d23_21 : Dc jdk_65_method_121_code 21 (.iconst 0) 1 22 := ⟨by decide +kernel, rfl⟩
theorem d23_22 : Dc jdk_65_method_121_code 22 (.aload_n 0) 1 23 := ⟨by decide +kernel, rfl⟩
theorem d23_23 : Dc jdk_65_method_121_code 23 (.arraylength) 1 24 := ⟨by decide +kernel, rfl⟩
theorem d23_24 : Dc jdk_65_method_121_code 24 (.iload_n 1) 1 25 := ⟨by decide +kernel, rfl⟩
theorem d23_25 : Dc jdk_65_method_121_code 25 (.invokestatic 304) 3 28 := ⟨by decide +kernel, rfl⟩
theorem d23_28 : Dc jdk_65_method_121_code 28 (.invokestatic 150) 3 31 := ⟨by decide +kernel, rfl⟩
theorem d23_31 : Dc jdk_65_method_121_code 31 (.aload_n 2) 1 32 := ⟨by decide +kernel, rfl⟩
theorem d23_32 : Dc jdk_65_method_121_code 32 (.areturn) 1 33 := ⟨by decide +kernel, rfl⟩
theorem d24_0 : Dc jdk_42_method_46_code 0 (.iload_n 0) 1 1 := ⟨by decide +kernel, rfl⟩
theorem d24_1 : Dc jdk_42_method_46_code 1 (.iconst 1) 1 2 := ⟨by decide +kernel, rfl⟩
theorem d24_2 : Db jdk_42_method_46_code 2 (.if_icmp .ne 9) 9 5 11 := ⟨by decide +kernel, rfl, by decide, by decide⟩
theorem d24_11 : Dc jdk_42_method_46_code 11 (.aload_n 1) 1 12 := ⟨by decide +kernel, rfl⟩
theorem d24_12 : Dc jdk_42_method_46_code 12 (.iconst 0) 1 13 := ⟨by decide +kernel, rfl⟩
theorem d24_13 : Dc jdk_42_method_46_code 13 (.aload_n 1) 1 14 := ⟨by decide +kernel, rfl⟩
theorem d24_14 : Dc jdk_42_method_46_code 14 (.arraylength) 1 15 := ⟨by decide +kernel, rfl⟩
theorem d24_15 : Dc jdk_42_method_46_code 15 (.invokestatic 128) 3 18 := ⟨by decide +kernel, rfl⟩
theorem d24_18 : Db jdk_42_method_46_code 18 (.ifCond .ne 11) 11 21 29 := ⟨by decide +kernel, rfl, by decide, by decide⟩
theorem d24_21 : Dc jdk_42_method_46_code 21 (.aload_n 1) 1 22 := ⟨by decide +kernel, rfl⟩
theorem d24_22 : Dc jdk_42_method_46_code 22 (.invokevirtual 279) 3 25 := ⟨by decide +kernel, rfl⟩
theorem d24_25 : Dc jdk_42_method_46_code 25 (.checkcast 280) 3 28 := ⟨by decide +kernel, rfl⟩
theorem d24_28 : Dc jdk_42_method_46_code 28 (.areturn) 1 29 := ⟨by decide +kernel, rfl⟩
theorem d24_29 : Dc jdk_42_method_46_code 29 (.iconst 0) 1 30 := ⟨by decide +kernel, rfl⟩
theorem d24_30 : Dc jdk_42_method_46_code 30 (.istore_n 3) 1 31 := ⟨by decide +kernel, rfl⟩
theorem d24_31 : Dc jdk_42_method_46_code 31 (.aload_n 1) 1 32 := ⟨by decide +kernel, rfl⟩
theorem d24_32 : Dc jdk_42_method_46_code 32 (.arraylength) 1 33 := ⟨by decide +kernel, rfl⟩
theorem d24_33 : Dc jdk_42_method_46_code 33 (.invokestatic 60) 3 36 := ⟨by decide +kernel, rfl⟩
theorem d24_36 : Dc jdk_42_method_46_code 36 (.astore 4) 2 38 := ⟨by decide +kernel, rfl⟩
theorem d24_38 : Dc jdk_42_method_46_code 38 (.aload_n 1) 1 39 := ⟨by decide +kernel, rfl⟩
theorem d24_39 : Dc jdk_42_method_46_code 39 (.astore 5) 2 41 := ⟨by decide +kernel, rfl⟩
theorem d24_41 : Dc jdk_42_method_46_code 41 (.aload 5) 2 43 := ⟨by decide +kernel, rfl⟩
theorem d24_43 : Dc jdk_42_method_46_code 43 (.arraylength) 1 44 := ⟨by decide +kernel, rfl⟩
theorem d24_44 : Dc jdk_42_method_46_code 44 (.istore 6) 2 46 := ⟨by decide +kernel, rfl⟩
theorem d24_46 : Dc jdk_42_method_46_code 46 (.iconst 0) 1 47 := ⟨by decide +kernel, rfl⟩
theorem d24_47 : Dc jdk_42_method_46_code 47 (.istore 7) 2 49 := ⟨by decide +kernel, rfl⟩
theorem d24_49 : Dc jdk_42_method_46_code 49 (.iload 7) 2 51 := ⟨by decide +kernel, rfl⟩
theorem d24_51 : Dc jdk_42_method_46_code 51 (.iload 6) 2 53 := ⟨by decide +kernel, rfl⟩
theorem d24_53 : Db jdk_42_method_46_code 53 (.if_icmp .ge 71) 71 56 124 := ⟨by decide +kernel, rfl, by decide, by decide⟩
theorem d24_124 : Dc jdk_42_method_46_code 124 (.iload_n 3) 1 125 := ⟨by decide +kernel, rfl⟩
theorem d24_125 : Dc jdk_42_method_46_code 125 (.aload 4) 2 127 := ⟨by decide +kernel, rfl⟩
theorem d24_127 : Dc jdk_42_method_46_code 127 (.arraylength) 1 128 := ⟨by decide +kernel, rfl⟩
theorem d24_128 : Db jdk_42_method_46_code 128 (.if_icmp .ne 6) 6 131 134 := ⟨by decide +kernel, rfl, by decide, by decide⟩
theorem d24_131 : Dc jdk_42_method_46_code 131 (.aload 4) 2 133 := ⟨by decide +kernel, rfl⟩
theorem d24_133 : Dc jdk_42_method_46_code 133 (.areturn) 1 134 := ⟨by decide +kernel, rfl⟩
theorem d24_134 : Dc jdk_42_method_46_code 134 (.aload 4) 2 136 := ⟨by decide +kernel, rfl⟩
theorem d24_136 : Dc jdk_42_method_46_code 136 (.iload_n 3) 1 137 := ⟨by decide +kernel, rfl⟩
theorem d24_137 : Dc jdk_42_method_46_code 137 (.invokestatic 102) 3 140 := ⟨by decide +kernel, rfl⟩
theorem d24_140 : Dc jdk_42_method_46_code 140 (.areturn) 1 141 := ⟨by decide +kernel, rfl⟩
theorem d24_56 : Dc jdk_42_method_46_code 56 (.aload 5) 2 58 := ⟨by decide +kernel, rfl⟩
theorem d24_58 : Dc jdk_42_method_46_code 58 (.iload 7) 2 60 := ⟨by decide +kernel, rfl⟩
theorem d24_60 : Dc jdk_42_method_46_code 60 (.baload) 1 61 := ⟨by decide +kernel, rfl⟩
theorem d24_61 : Dc jdk_42_method_46_code 61 (.istore 8) 2 63 := ⟨by decide +kernel, rfl⟩
theorem d24_63 : Dc jdk_42_method_46_code 63 (.iload 8) 2 65 := ⟨by decide +kernel, rfl⟩
theorem d24_65 : Db jdk_42_method_46_code 65 (.ifCond .ge 44) 44 68 109 := ⟨by decide +kernel, rfl, by decide, by decide⟩
theorem d24_68 : Dc jdk_42_method_46_code 68 (.aload 4) 2 70 := ⟨by decide +kernel, rfl⟩
theorem d24_70 : Dc jdk_42_method_46_code 70 (.iload_n 3) 1 71 := ⟨by decide +kernel, rfl⟩
theorem d24_71 : Dc jdk_42_method_46_code 71 (.iinc 3 1) 3 74 := ⟨by decide +kernel, rfl⟩
theorem d24_74 : Dc jdk_42_method_46_code 74 (.sipush 192) 3 77 := ⟨by decide +kernel, rfl⟩
theorem d24_77 : Dc jdk_42_method_46_code 77 (.iload 8) 2 79 := ⟨by decide +kernel, rfl⟩
theorem d24_79 : Dc jdk_42_method_46_code 79 (.sipush 255) 3 82 := ⟨by decide +kernel, rfl⟩
theorem d24_82 : Dc jdk_42_method_46_code 82 (.iand) 1 83 := ⟨by decide +kernel, rfl⟩
theorem d24_83 : Dc jdk_42_method_46_code 83 (.bipush 6) 2 85 := ⟨by decide +kernel, rfl⟩
theorem d24_85 : Dc jdk_42_method_46_code 85 (.ishr) 1 86 := ⟨by decide +kernel, rfl⟩
theorem d24_86 : Dc jdk_42_method_46_code 86 (.ior) 1 87 := ⟨by decide +kernel, rfl⟩
theorem d24_87 : Dc jdk_42_method_46_code 87 (.i2b) 1 88 := ⟨by decide +kernel, rfl⟩
theorem d24_88 : Dc jdk_42_method_46_code 88 (.bastore) 1 89 := ⟨by decide +kernel, rfl⟩
theorem d24_89 : Dc jdk_42_method_46_code 89 (.aload 4) 2 91 := ⟨by decide +kernel, rfl⟩
theorem d24_91 : Dc jdk_42_method_46_code 91 (.iload_n 3) 1 92 := ⟨by decide +kernel, rfl⟩
theorem d24_92 : Dc jdk_42_method_46_code 92 (.iinc 3 1) 3 95 := ⟨by decide +kernel, rfl⟩
theorem d24_95 : Dc jdk_42_method_46_code 95 (.sipush 128) 3 98 := ⟨by decide +kernel, rfl⟩
theorem d24_98 : Dc jdk_42_method_46_code 98 (.iload 8) 2 100 := ⟨by decide +kernel, rfl⟩
theorem d24_100 : Dc jdk_42_method_46_code 100 (.bipush 63) 2 102 := ⟨by decide +kernel, rfl⟩
theorem d24_102 : Dc jdk_42_method_46_code 102 (.iand) 1 103 := ⟨by decide +kernel, rfl⟩
theorem d24_103 : Dc jdk_42_method_46_code 103 (.ior) 1 104 := ⟨by decide +kernel, rfl⟩
theorem d24_104 : Dc jdk_42_method_46_code 104 (.i2b) 1 105 := ⟨by decide +kernel, rfl⟩
theorem d24_105 : Dc jdk_42_method_46_code 105 (.bastore) 1 106 := ⟨by decide +kernel, rfl⟩
theorem d24_106 : Db jdk_42_method_46_code 106 (.goto 12) 12 109 118 := ⟨by decide +kernel, rfl, by decide, by decide⟩
theorem d24_118 : Dc jdk_42_method_46_code 118 (.iinc 7 1) 3 121 := ⟨by decide +kernel, rfl⟩
theorem d24_121 : Db jdk_42_method_46_code 121 (.goto (-72)) (-72) 124 49 := ⟨by decide +kernel, rfl, by decide, by decide⟩
theorem d24_109 : Dc jdk_42_method_46_code 109 (.aload 4) 2 111 := ⟨by decide +kernel, rfl⟩
theorem d24_111 : Dc jdk_42_method_46_code 111 (.iload_n 3) 1 112 := ⟨by decide +kernel, rfl⟩
theorem d24_112 : Dc jdk_42_method_46_code 112 (.iinc 3 1) 3 115 := ⟨by decide +kernel, rfl⟩
theorem d24_115 : Dc jdk_42_method_46_code 115 (.iload 8) 2 117 := ⟨by decide +kernel, rfl⟩
theorem d24_117 : Dc jdk_42_method_46_code 117 (.bastore) 1 118 := ⟨by decide +kernel, rfl⟩
theorem d25_0 : Dc jdk_42_method_18_code 0 (.aload_n 0) 1 1 := ⟨by decide +kernel, rfl⟩
theorem d25_1 : Dc jdk_42_method_18_code 1 (.getstatic 86) 3 4 := ⟨by decide +kernel, rfl⟩
theorem d25_4 : Db jdk_42_method_18_code 4 (.if_acmp .ne 10) 10 7 14 := ⟨by decide +kernel, rfl, by decide, by decide⟩
theorem d25_7 : Dc jdk_42_method_18_code 7 (.iload_n 1) 1 8 := ⟨by decide +kernel, rfl⟩
theorem d25_8 : Dc jdk_42_method_18_code 8 (.aload_n 2) 1 9 := ⟨by decide +kernel, rfl⟩
theorem d25_9 : Dc jdk_42_method_18_code 9 (.iconst 1) 1 10 := ⟨by decide +kernel, rfl⟩
theorem d25_10 : Dc jdk_42_method_18_code 10 (.invokestatic 252) 3 13 := ⟨by decide +kernel, rfl⟩
theorem d25_13 : Dc jdk_42_method_18_code 13 (.areturn) 1 14 := ⟨by decide +kernel, rfl⟩
theorem d26_0 : Dc jdk_42_method_64_code 0 (.aload_n 1) 1 1 := ⟨by decide +kernel, rfl⟩
theorem d26_1 : Db jdk_42_method_64_code 1 (.ifnonnull 11) 11 4 12 := ⟨by decide +kernel, rfl, by decide, by decide⟩
theorem d26_12 : Dc jdk_42_method_64_code 12 (.aload_n 1) 1 13 := ⟨by decide +kernel, rfl⟩
theorem d26_13 : Dc jdk_42_method_64_code 13 (.aload_n 0) 1 14 := ⟨by decide +kernel, rfl⟩
theorem d26_14 : Dc jdk_42_method_64_code 14 (.invokevirtual 335) 3 17 := ⟨by decide +kernel, rfl⟩
theorem d26_17 : Dc jdk_42_method_64_code 17 (.aload_n 0) 1 18 := ⟨by decide +kernel, rfl⟩
theorem d26_18 : Dc jdk_42_method_64_code 18 (.getfield 9) 3 21 := ⟨by decide +kernel, rfl⟩
theorem d26_21 : Dc jdk_42_method_64_code 21 (.invokestatic 535) 3 24 := ⟨by decide +kernel, rfl⟩
theorem d26_24 : Dc jdk_42_method_64_code 24 (.areturn) 1 25 := ⟨by decide +kernel, rfl⟩
theorem d27_0 : Dc jdk_68_method_2_code 0 (.aload_n 0) 1 1 := ⟨by decide +kernel, rfl⟩
theorem d27_1 : Dc jdk_68_method_2_code 1 (.invokespecial 3) 3 4 := ⟨by decide +kernel, rfl⟩
theorem d27_4 : Dc jdk_68_method_2_code 4 (.getstatic 18) 3 7 := ⟨by decide +kernel, rfl⟩
theorem d27_7 : Db jdk_68_method_2_code 7 (.ifCond .eq 18) 18 10 25 := ⟨by decide +kernel, rfl, by decide, by decide⟩
theorem d27_10 : Dc jdk_68_method_2_code 10 (.aload_n 0) 1 11 := ⟨by decide +kernel, rfl⟩
theorem d27_11 : Dc jdk_68_method_2_code 11 (.iload_n 1) 1 12 := ⟨by decide +kernel, rfl⟩
theorem d27_12 : Dc jdk_68_method_2_code 12 (.newarray .byte) 2 14 := ⟨by decide +kernel, rfl⟩
theorem d27_14 : Dc jdk_68_method_2_code 14 (.putfield 15) 3 17 := ⟨by decide +kernel, rfl⟩
theorem d27_17 : Dc jdk_68_method_2_code 17 (.aload_n 0) 1 18 := ⟨by decide +kernel, rfl⟩
theorem d27_18 : Dc jdk_68_method_2_code 18 (.iconst 0) 1 19 := ⟨by decide +kernel, rfl⟩
theorem d27_19 : Dc jdk_68_method_2_code 19 (.putfield 22) 3 22 := ⟨by decide +kernel, rfl⟩
theorem d27_22 : Db jdk_68_method_2_code 22 (.goto 16) 16 25 38 := ⟨by decide +kernel, rfl, by decide, by decide⟩
theorem d27_38 : Dc jdk_68_method_2_code 38 (.return_) 1 39 := ⟨by decide +kernel, rfl⟩
theorem d28_0 : Dc jdk_67_method_1_code 0 (.aload_n 0) 1 1 := ⟨by decide +kernel, rfl⟩
theorem d28_1 : Dc jdk_67_method_1_code 1 (.bipush 16) 2 3 := ⟨by decide +kernel, rfl⟩
theorem d28_3 : Dc jdk_67_method_1_code 3 (.invokespecial 1) 3 6 := ⟨by decide +kernel, rfl⟩
theorem d28_6 : Dc jdk_67_method_1_code 6 (.return_) 1 7 := ⟨by decide +kernel, rfl⟩
theorem d29_0 : Dc jdk_68_method_26_code 0 (.aload_n 0) 1 1 := ⟨by decide +kernel, rfl⟩
theorem d29_1 : Dc jdk_68_method_26_code 1 (.aload_n 0) 1 2 := ⟨by decide +kernel, rfl⟩
theorem d29_2 : Dc jdk_68_method_26_code 2 (.getfield 79) 3 5 := ⟨by decide +kernel, rfl⟩
theorem d29_5 : Dc jdk_68_method_26_code 5 (.iconst 4) 1 6 := ⟨by decide +kernel, rfl⟩
theorem d29_6 : Dc jdk_68_method_26_code 6 (.iadd) 1 7 := ⟨by decide +kernel, rfl⟩
theorem d29_7 : Dc jdk_68_method_26_code 7 (.invokevirtual 100) 3 10 := ⟨by decide +kernel, rfl⟩
theorem d29_10 : Dc jdk_68_method_26_code 10 (.aload_n 0) 1 11 := ⟨by decide +kernel, rfl⟩
theorem d29_11 : Dc jdk_68_method_26_code 11 (.getfield 79) 3 14 := ⟨by decide +kernel, rfl⟩
theorem d29_14 : Dc jdk_68_method_26_code 14 (.istore_n 1) 1 15 := ⟨by decide +kernel, rfl⟩
theorem d29_15 : Dc jdk_68_method_26_code 15 (.aload_n 0) 1 16 := ⟨by decide +kernel, rfl⟩
theorem d29_16 : Dc jdk_68_method_26_code 16 (.getfield 15) 3 19 := ⟨by decide +kernel, rfl⟩
theorem d29_19 : Dc jdk_68_method_26_code 19 (.astore_n 2) 1 20 := ⟨by decide +kernel, rfl⟩
theorem d29_20 : Dc jdk_68_method_26_code 20 (.aload_n 0) 1 21 := ⟨by decide +kernel, rfl⟩
theorem d29_21 : Dc jdk_68_method_26_code 21 (.invokevirtual 83) 3 24 := ⟨by decide +kernel, rfl⟩
theorem d29_24 : Db jdk_68_method_26_code 24 (.ifCond .eq 38) 38 27 62 := ⟨by decide +kernel, rfl, by decide, by decide⟩
theorem d29_27 : Dc jdk_68_method_26_code 27 (.aload_n 2) 1 28 := ⟨by decide +kernel, rfl⟩
theorem d29_28 : Dc jdk_68_method_26_code 28 (.iload_n 1) 1 29 := ⟨by decide +kernel, rfl⟩
theorem d29_29 : Dc jdk_68_method_26_code 29 (.iinc 1 1) 3 32 := ⟨by decide +kernel, rfl⟩
theorem d29_32 : Dc jdk_68_method_26_code 32 (.bipush 110) 2 34 := ⟨by decide +kernel, rfl⟩
theorem d29_34 : Dc jdk_68_method_26_code 34 (.bastore) 1 35 := ⟨by decide +kernel, rfl⟩
theorem d29_35 : Dc jdk_68_method_26_code 35 (.aload_n 2) 1 36 := ⟨by decide +kernel, rfl⟩
theorem d29_36 : Dc jdk_68_method_26_code 36 (.iload_n 1) 1 37 := ⟨by decide +kernel, rfl⟩
theorem d29_37 : Dc jdk_68_method_26_code 37 (.iinc 1 1) 3 40 := ⟨by decide +kernel, rfl⟩
theorem d29_40 : Dc jdk_68_method_26_code 40 (.bipush 117) 2 42 := ⟨by decide +kernel, rfl⟩
theorem d29_42 : Dc jdk_68_method_26_code 42 (.bastore) 1 43 := ⟨by decide +kernel, rfl⟩
theorem d29_43 : Dc jdk_68_method_26_code 43 (.aload_n 2) 1 44 := ⟨by decide +kernel, rfl⟩
theorem d29_44 : Dc jdk_68_method_26_code 44 (.iload_n 1) 1 45 := ⟨by decide +kernel, rfl⟩
theorem d29_45 : Dc jdk_68_method_26_code 45 (.iinc 1 1) 3 48 := ⟨by decide +kernel, rfl⟩
theorem d29_48 : Dc jdk_68_method_26_code 48 (.bipush 108) 2 50 := ⟨by decide +kernel, rfl⟩
theorem d29_50 : Dc jdk_68_method_26_code 50 (.bastore) 1 51 := ⟨by decide +kernel, rfl⟩
theorem d29_51 : Dc jdk_68_method_26_code 51 (.aload_n 2) 1 52 := ⟨by decide +kernel, rfl⟩
theorem d29_52 : Dc jdk_68_method_26_code 52 (.iload_n 1) 1 53 := ⟨by decide +kernel, rfl⟩
theorem d29_53 : Dc jdk_68_method_26_code 53 (.iinc 1 1) 3 56 := ⟨by decide +kernel, rfl⟩
theorem d29_56 : Dc jdk_68_method_26_code 56 (.bipush 108) 2 58 := ⟨by decide +kernel, rfl⟩
theorem d29_58 : Dc jdk_68_method_26_code 58 (.bastore) 1 59 := ⟨by decide +kernel, rfl⟩
theorem d29_59 : Db jdk_68_method_26_code 59 (.goto 17) 17 62 76 := ⟨by decide +kernel, rfl, by decide, by decide⟩
theorem d29_76 : Dc jdk_68_method_26_code 76 (.aload_n 0) 1 77 := ⟨by decide +kernel, rfl⟩
theorem d29_77 : Dc jdk_68_method_26_code 77 (.iload_n 1) 1 78 := ⟨by decide +kernel, rfl⟩
theorem d29_78 : Dc jdk_68_method_26_code 78 (.putfield 79) 3 81 := ⟨by decide +kernel, rfl⟩
theorem d29_81 : Dc jdk_68_method_26_code 81 (.aload_n 0) 1 82 := ⟨by decide +kernel, rfl⟩
theorem d29_82 : Dc jdk_68_method_26_code 82 (.areturn) 1 83 := ⟨by decide +kernel, rfl⟩
theorem d6_4 : Dc jdk_68_method_22_code 4 (.aload_n 0) 1 5 := ⟨by decide +kernel, rfl⟩
theorem d6_5 : Dc jdk_68_method_22_code 5 (.invokevirtual 204) 3 8 := ⟨by decide +kernel, rfl⟩
theorem d6_8 : Dc jdk_68_method_22_code 8 (.areturn) 1 9 := ⟨by decide +kernel, rfl⟩
theorem d15_17 : Dc jdk_68_method_68_code 17 (.iconst 0) 1 18 := ⟨by decide +kernel, rfl⟩
theorem d30_0 : Dc jdk_52_method_6_code 0 (.aload_n 0) 1 1 := ⟨by decide +kernel, rfl⟩
theorem d30_1 : Dc jdk_52_method_6_code 1 (.arraylength) 1 2 := ⟨by decide +kernel, rfl⟩
theorem d30_2 : Dc jdk_52_method_6_code 2 (.iconst 1) 1 3 := ⟨by decide +kernel, rfl⟩
theorem d30_3 : Dc jdk_52_method_6_code 3 (.ishr) 1 4 := ⟨by decide +kernel, rfl⟩
theorem d30_4 : Dc jdk_52_method_6_code 4 (.ireturn) 1 5 := ⟨by decide +kernel, rfl⟩
theorem d31_0 : Dc jdk_41_method_13_code 0 (.iload_n 2) 1 1 := ⟨by decide +kernel, rfl⟩
theorem d31_1 : Dc jdk_41_method_13_code 1 (.iload_n 0) 1 2 := ⟨by decide +kernel, rfl⟩
theorem d31_2 : Dc jdk_41_method_13_code 2 (.ior) 1 3 := ⟨by decide +kernel, rfl⟩
theorem d31_3 : Dc jdk_41_method_13_code 3 (.iload_n 1) 1 4 := ⟨by decide +kernel, rfl⟩
theorem d31_4 : Dc jdk_41_method_13_code 4 (.ior) 1 5 := ⟨by decide +kernel, rfl⟩
theorem d31_5 : Db jdk_41_method_13_code 5 (.ifCond .lt 10) 10 8 15 := ⟨by decide +kernel, rfl, by decide, by decide⟩
theorem d31_8 : Dc jdk_41_method_13_code 8 (.iload_n 1) 1 9 := ⟨by decide +kernel, rfl⟩
theorem d31_9 : Dc jdk_41_method_13_code 9 (.iload_n 2) 1 10 := ⟨by decide +kernel, rfl⟩
theorem d31_10 : Dc jdk_41_method_13_code 10 (.iload_n 0) 1 11 := ⟨by decide +kernel, rfl⟩
theorem d31_11 : Dc jdk_41_method_13_code 11 (.isub) 1 12 := ⟨by decide +kernel, rfl⟩
theorem d31_12 : Db jdk_41_method_13_code 12 (.if_icmp .le 11) 11 15 23 := ⟨by decide +kernel, rfl, by decide, by decide⟩
theorem d31_23 : Dc jdk_41_method_13_code 23 (.iload_n 0) 1 24 := ⟨by decide +kernel, rfl⟩
theorem d31_24 : Dc jdk_41_method_13_code 24 (.ireturn) 1 25 := ⟨by decide +kernel, rfl⟩
theorem d32_0 : Dc jdk_42_method_157_code 0 (.iload_n 0) 1 1 := ⟨by decide +kernel, rfl⟩
theorem d32_1 : Dc jdk_42_method_157_code 1 (.iload_n 1) 1 2 := ⟨by decide +kernel, rfl⟩
theorem d32_2 : Dc jdk_42_method_157_code 2 (.iload_n 2) 1 3 := ⟨by decide +kernel, rfl⟩
theorem d32_3 : Dc jdk_42_method_157_code 3 (.getstatic 1053) 3 6 := ⟨by decide +kernel, rfl⟩
theorem d32_6 : Dc jdk_42_method_157_code 6 (.invokestatic 1065) 3 9 := ⟨by decide +kernel, rfl⟩
theorem d32_9 : Dc jdk_42_method_157_code 9 (.ireturn) 1 10 := ⟨by decide +kernel, rfl⟩
theorem d33_0 : Dc jdk_52_method_94_code 0 (.iload_n 0) 1 1 := ⟨by decide +kernel, rfl⟩
theorem d33_1 : Dc jdk_52_method_94_code 1 (.iload_n 1) 1 2 := ⟨by decide +kernel, rfl⟩
theorem d33_2 : Dc jdk_52_method_94_code 2 (.aload_n 2) 1 3 := ⟨by decide +kernel, rfl⟩
theorem d33_3 : Dc jdk_52_method_94_code 3 (.invokestatic 48) 3 6 := ⟨by decide +kernel, rfl⟩
theorem d33_6 : Dc jdk_52_method_94_code 6 (.invokestatic 419) 3 9 := ⟨by decide +kernel, rfl⟩
theorem d33_9 : Dc jdk_52_method_94_code 9 (.pop) 1 10 := ⟨by decide +kernel, rfl⟩
theorem d33_10 : Dc jdk_52_method_94_code 10 (.return_) 1 11 := ⟨by decide +kernel, rfl⟩
theorem d34_0 : Dc jdk_52_method_4_code 0 (.getstatic 44) 3 3 := ⟨by decide +kernel, rfl⟩
theorem d34_3 : Db jdk_52_method_4_code 3 (.ifCond .ne 25) 25 6 28 := ⟨by decide +kernel, rfl, by decide, by decide⟩
theorem d34_28 : Dc jdk_52_method_4_code 28 (.iload_n 1) 1 29 := ⟨by decide +kernel, rfl⟩
theorem d34_29 : Dc jdk_52_method_4_code 29 (.iconst 1) 1 30 := ⟨by decide +kernel, rfl⟩
theorem d34_30 : Dc jdk_52_method_4_code 30 (.ishl) 1 31 := ⟨by decide +kernel, rfl⟩
theorem d34_31 : Dc jdk_52_method_4_code 31 (.istore_n 1) 1 32 := ⟨by decide +kernel, rfl⟩
theorem d34_32 : Dc jdk_52_method_4_code 32 (.aload_n 0) 1 33 := ⟨by decide +kernel, rfl⟩
theorem d34_33 : Dc jdk_52_method_4_code 33 (.iload_n 1) 1 34 := ⟨by decide +kernel, rfl⟩
theorem d34_34 : Dc jdk_52_method_4_code 34 (.iinc 1 1) 3 37 := ⟨by decide +kernel, rfl⟩
theorem d34_37 : Dc jdk_52_method_4_code 37 (.iload_n 2) 1 38 := ⟨by decide +kernel, rfl⟩
theorem d34_38 : Dc jdk_52_method_4_code 38 (.getstatic 59) 3 41 := ⟨by decide +kernel, rfl⟩
theorem d34_41 : Dc jdk_52_method_4_code 41 (.ishr) 1 42 := ⟨by decide +kernel, rfl⟩
theorem d34_42 : Dc jdk_52_method_4_code 42 (.i2b) 1 43 := ⟨by decide +kernel, rfl⟩
theorem d34_43 : Dc jdk_52_method_4_code 43 (.bastore) 1 44 := ⟨by decide +kernel, rfl⟩
theorem d34_44 : Dc jdk_52_method_4_code 44 (.aload_n 0) 1 45 := ⟨by decide +kernel, rfl⟩
theorem d34_45 : Dc jdk_52_method_4_code 45 (.iload_n 1) 1 46 := ⟨by decide +kernel, rfl⟩
theorem d34_46 : Dc jdk_52_method_4_code 46 (.iload_n 2) 1 47 := ⟨by decide +kernel, rfl⟩
theorem d34_47 : Dc jdk_52_method_4_code 47 (.getstatic 63) 3 50 := ⟨by decide +kernel, rfl⟩
theorem d34_50 : Dc jdk_52_method_4_code 50 (.ishr) 1 51 := ⟨by decide +kernel, rfl⟩
theorem d34_51 : Dc jdk_52_method_4_code 51 (.i2b) 1 52 := ⟨by decide +kernel, rfl⟩
theorem d34_52 : Dc jdk_52_method_4_code 52 (.bastore) 1 53 := ⟨by decide +kernel, rfl⟩
theorem d34_53 : Dc jdk_52_method_4_code 53 (.return_) 1 54 := ⟨by decide +kernel, rfl⟩
theorem d35_0 : Dc jdk_52_method_86_code 0 (.iload_n 3) 1 1 := ⟨by decide +kernel, rfl⟩
theorem d35_1 : Dc jdk_52_method_86_code 1 (.iload 4) 2 3 := ⟨by decide +kernel, rfl⟩
theorem d35_3 : Dc jdk_52_method_86_code 3 (.aload_n 2) 1 4 := ⟨by decide +kernel, rfl⟩
theorem d35_4 : Dc jdk_52_method_86_code 4 (.invokestatic 173) 3 7 := ⟨by decide +kernel, rfl⟩
theorem d35_7 : Dc jdk_52_method_86_code 7 (.iconst 0) 1 8 := ⟨by decide +kernel, rfl⟩
theorem d35_8 : Dc jdk_52_method_86_code 8 (.istore 5) 2 10 := ⟨by decide +kernel, rfl⟩
theorem d35_10 : Dc jdk_52_method_86_code 10 (.iload 5) 2 12 := ⟨by decide +kernel, rfl⟩
theorem d35_12 : Dc jdk_52_method_86_code 12 (.iload 4) 2 14 := ⟨by decide +kernel, rfl⟩
theorem d35_14 : Db jdk_52_method_86_code 14 (.if_icmp .ge 27) 27 17 41 := ⟨by decide +kernel, rfl, by decide, by decide⟩
theorem d35_41 : Dc jdk_52_method_86_code 41 (.return_) 1 42 := ⟨by decide +kernel, rfl⟩
theorem d36_0 : Dc jdk_43_method_50_code 0 (.aload_n 0) 1 1 := ⟨by decide +kernel, rfl⟩
theorem d36_1 : Dc jdk_43_method_50_code 1 (.iload_n 1) 1 2 := ⟨by decide +kernel, rfl⟩
theorem d36_2 : Dc jdk_43_method_50_code 2 (.aload_n 2) 1 3 := ⟨by decide +kernel, rfl⟩
theorem d36_3 : Dc jdk_43_method_50_code 3 (.iload_n 3) 1 4 := ⟨by decide +kernel, rfl⟩
theorem d36_4 : Dc jdk_43_method_50_code 4 (.iload 4) 2 6 := ⟨by decide +kernel, rfl⟩
theorem d36_6 : Dc jdk_43_method_50_code 6 (.invokestatic 240) 3 9 := ⟨by decide +kernel, rfl⟩
theorem d36_9 : Dc jdk_43_method_50_code 9 (.return_) 1 10 := ⟨by decide +kernel, rfl⟩
theorem d35_17 : Dc jdk_52_method_86_code 17 (.aload_n 2) 1 18 := ⟨by decide +kernel, rfl⟩
theorem d35_18 : Dc jdk_52_method_86_code 18 (.iload_n 3) 1 19 := ⟨by decide +kernel, rfl⟩
theorem d35_19 : Dc jdk_52_method_86_code 19 (.iinc 3 1) 3 22 := ⟨by decide +kernel, rfl⟩
theorem d35_22 : Dc jdk_52_method_86_code 22 (.aload_n 0) 1 23 := ⟨by decide +kernel, rfl⟩
theorem d35_23 : Dc jdk_52_method_86_code 23 (.iload_n 1) 1 24 := ⟨by decide +kernel, rfl⟩
theorem d35_24 : Dc jdk_52_method_86_code 24 (.iinc 1 1) 3 27 := ⟨by decide +kernel, rfl⟩
theorem d35_27 : Dc jdk_52_method_86_code 27 (.baload) 1 28 := ⟨by decide +kernel, rfl⟩
theorem d35_28 : Dc jdk_52_method_86_code 28 (.sipush 255) 3 31 := ⟨by decide +kernel, rfl⟩
theorem d35_31 : Dc jdk_52_method_86_code 31 (.iand) 1 32 := ⟨by decide +kernel, rfl⟩
theorem d35_32 : Dc jdk_52_method_86_code 32 (.invokestatic 111) 3 35 := ⟨by decide +kernel, rfl⟩
theorem d35_35 : Dc jdk_52_method_86_code 35 (.iinc 5 1) 3 38 := ⟨by decide +kernel, rfl⟩
theorem d35_38 : Db jdk_52_method_86_code 38 (.goto (-28)) (-28) 41 10 := ⟨by decide +kernel, rfl, by decide, by decide⟩
theorem d37_0 : Dc jdk_68_method_11_code 0 (.aload_n 0) 1 1 := ⟨by decide +kernel, rfl⟩
theorem d37_1 : Dc jdk_68_method_11_code 1 (.invokevirtual 83) 3 4 := ⟨by decide +kernel, rfl⟩
theorem d37_4 : Db jdk_68_method_11_code 4 (.ifCond .ne 4) 4 7 8 := ⟨by decide +kernel, rfl, by decide, by decide⟩
theorem d37_8 : Dc jdk_68_method_11_code 8 (.aload_n 0) 1 9 := ⟨by decide +kernel, rfl⟩
theorem d37_9 : Dc jdk_68_method_11_code 9 (.getfield 15) 3 12 := ⟨by decide +kernel, rfl⟩
theorem d37_12 : Dc jdk_68_method_11_code 12 (.arraylength) 1 13 := ⟨by decide +kernel, rfl⟩
theorem d37_13 : Dc jdk_68_method_11_code 13 (.invokestatic 26) 3 16 := ⟨by decide +kernel, rfl⟩
theorem d37_16 : Dc jdk_68_method_11_code 16 (.astore_n 1) 1 17 := ⟨by decide +kernel, rfl⟩
theorem d37_17 : Dc jdk_68_method_11_code 17 (.aload_n 0) 1 18 := ⟨by decide +kernel, rfl⟩
theorem d37_18 : Dc jdk_68_method_11_code 18 (.getfield 15) 3 21 := ⟨by decide +kernel, rfl⟩
theorem d37_21 : Dc jdk_68_method_11_code 21 (.iconst 0) 1 22 := ⟨by decide +kernel, rfl⟩
theorem d37_22 : Dc jdk_68_method_11_code 22 (.aload_n 1) 1 23 := ⟨by decide +kernel, rfl⟩
theorem d37_23 : Dc jdk_68_method_11_code 23 (.iconst 0) 1 24 := ⟨by decide +kernel, rfl⟩
theorem d37_24 : Dc jdk_68_method_11_code 24 (.aload_n 0) 1 25 := ⟨by decide +kernel, rfl⟩
theorem d37_25 : Dc jdk_68_method_11_code 25 (.getfield 79) 3 28 := ⟨by decide +kernel, rfl⟩
theorem d37_28 : Dc jdk_68_method_11_code 28 (.invokestatic 125) 3 31 := ⟨by decide +kernel, rfl⟩
theorem d37_31 : Dc jdk_68_method_11_code 31 (.aload_n 0) 1 32 := ⟨by decide +kernel, rfl⟩
theorem d37_32 : Dc jdk_68_method_11_code 32 (.aload_n 1) 1 33 := ⟨by decide +kernel, rfl⟩
theorem d37_33 : Dc jdk_68_method_11_code 33 (.putfield 15) 3 36 := ⟨by decide +kernel, rfl⟩
theorem d37_36 : Dc jdk_68_method_11_code 36 (.aload_n 0) 1 37 := ⟨by decide +kernel, rfl⟩
theorem d37_37 : Dc jdk_68_method_11_code 37 (.iconst 1) 1 38 := ⟨by decide +kernel, rfl⟩
theorem d37_38 : Dc jdk_68_method_11_code 38 (.putfield 22) 3 41 := ⟨by decide +kernel, rfl⟩
theorem d37_41 : Dc jdk_68_method_11_code 41 (.return_) 1 42 := ⟨by decide +kernel, rfl⟩
theorem d3_17 : Dc jdk_68_method_71_code 17 (.aload_n 0) 1 18 := ⟨by decide +kernel, rfl⟩
theorem d3_18 : Dc jdk_68_method_71_code 18 (.invokevirtual 195) 3 21 := ⟨by decide +kernel, rfl⟩
theorem d37_7 : Dc jdk_68_method_11_code 7 (.return_) 1 8 := ⟨by decide +kernel, rfl⟩
theorem d4_28 : Dc jdk_42_method_147_code 28 (.aload_n 0) 1 29 := ⟨by decide +kernel, rfl⟩
theorem d4_29 : Dc jdk_42_method_147_code 29 (.getfield 9) 3 32 := ⟨by decide +kernel, rfl⟩
theorem d4_32 : Dc jdk_42_method_147_code 32 (.iconst 0) 1 33 := ⟨by decide +kernel, rfl⟩
theorem d4_33 : Dc jdk_42_method_147_code 33 (.aload_n 1) 1 34 := ⟨by decide +kernel, rfl⟩
theorem d4_34 : Dc jdk_42_method_147_code 34 (.iload_n 2) 1 35 := ⟨by decide +kernel, rfl⟩
theorem d4_35 : Dc jdk_42_method_147_code 35 (.aload_n 0) 1 36 := ⟨by decide +kernel, rfl⟩
theorem d4_36 : Dc jdk_42_method_147_code 36 (.getfield 9) 3 39 := ⟨by decide +kernel, rfl⟩
theorem d4_39 : Dc jdk_42_method_147_code 39 (.arraylength) 1 40 := ⟨by decide +kernel, rfl⟩
theorem d4_40 : Dc jdk_42_method_147_code 40 (.invokestatic 106) 3 43 := ⟨by decide +kernel, rfl⟩
theorem d16_41 : Dc jdk_42_method_150_code 41 (.getstatic 38) 3 44 := ⟨by decide +kernel, rfl⟩
theorem d16_44 : Db jdk_42_method_150_code 44 (.ifCond .eq 35) 35 47 79 := ⟨by decide +kernel, rfl, by decide, by decide⟩
theorem d16_47 : Dc jdk_42_method_150_code 47 (.aload_n 1) 1 48 := ⟨by decide +kernel, rfl⟩
theorem d16_48 : Dc jdk_42_method_150_code 48 (.getfield 1048) 3 51 := ⟨by decide +kernel, rfl⟩
theorem d16_51 : Db jdk_42_method_150_code 51 (.ifCond .eq 28) 28 54 79 := ⟨by decide +kernel, rfl, by decide, by decide⟩
theorem d16_79 : Dc jdk_42_method_150_code 79 (.aload_n 0) 1 80 := ⟨by decide +kernel, rfl⟩
theorem d16_80 : Dc jdk_42_method_150_code 80 (.iconst 1) 1 81 := ⟨by decide +kernel, rfl⟩
theorem d16_81 : Dc jdk_42_method_150_code 81 (.putfield 15) 3 84 := ⟨by decide +kernel, rfl⟩
theorem d16_84 : Dc jdk_42_method_150_code 84 (.aload_n 0) 1 85 := ⟨by decide +kernel, rfl⟩
theorem d16_85 : Dc jdk_42_method_150_code 85 (.aload_n 3) 1 86 := ⟨by decide +kernel, rfl⟩
theorem d16_86 : Dc jdk_42_method_150_code 86 (.iconst 0) 1 87 := ⟨by decide +kernel, rfl⟩
theorem d16_87 : Dc jdk_42_method_150_code 87 (.iload 4) 2 89 := ⟨by decide +kernel, rfl⟩
theorem d16_89 : Dc jdk_42_method_150_code 89 (.iconst 1) 1 90 := ⟨by decide +kernel, rfl⟩
theorem d16_90 : Dc jdk_42_method_150_code 90 (.ishl) 1 91 := ⟨by decide +kernel, rfl⟩
theorem d16_91 : Dc jdk_42_method_150_code 91 (.invokestatic 54) 3 94 := ⟨by decide +kernel, rfl⟩
theorem d16_94 : Dc jdk_42_method_150_code 94 (.putfield 9) 3 97 := ⟨by decide +kernel, rfl⟩
theorem d38_0 : Dc jdk_89_method_16_code 0 (.iload_n 0) 1 1 := ⟨by decide +kernel, rfl⟩
theorem d38_1 : Dc jdk_89_method_16_code 1 (.ldc 75) 2 3 := ⟨by decide +kernel, rfl⟩
theorem d38_3 : Db jdk_89_method_16_code 3 (.if_icmp .lt 13) 13 6 16 := ⟨by decide +kernel, rfl, by decide, by decide⟩
theorem d38_16 : Dc jdk_89_method_16_code 16 (.iconst 0) 1 17 := ⟨by decide +kernel, rfl⟩
theorem d38_17 : Dc jdk_89_method_16_code 17 (.ireturn) 1 18 := ⟨by decide +kernel, rfl⟩
theorem d38_6 : Dc jdk_89_method_16_code 6 (.iload_n 0) 1 7 := ⟨by decide +kernel, rfl⟩
theorem d38_7 : Dc jdk_89_method_16_code 7 (.ldc 77) 2 9 := ⟨by decide +kernel, rfl⟩
theorem d38_9 : Db jdk_89_method_16_code 9 (.if_icmp .ge 7) 7 12 16 := ⟨by decide +kernel, rfl, by decide, by decide⟩
theorem d39_0 : Dc jdk_52_method_5_code 0 (.getstatic 44) 3 3 := ⟨by decide +kernel, rfl⟩
theorem d39_3 : Db jdk_52_method_5_code 3 (.ifCond .ne 25) 25 6 28 := ⟨by decide +kernel, rfl, by decide, by decide⟩
theorem d39_28 : Dc jdk_52_method_5_code 28 (.iload_n 1) 1 29 := ⟨by decide +kernel, rfl⟩
theorem d39_29 : Dc jdk_52_method_5_code 29 (.iconst 1) 1 30 := ⟨by decide +kernel, rfl⟩
theorem d39_30 : Dc jdk_52_method_5_code 30 (.ishl) 1 31 := ⟨by decide +kernel, rfl⟩
theorem d39_31 : Dc jdk_52_method_5_code 31 (.istore_n 1) 1 32 := ⟨by decide +kernel, rfl⟩
theorem d39_32 : Dc jdk_52_method_5_code 32 (.aload_n 0) 1 33 := ⟨by decide +kernel, rfl⟩
theorem d39_33 : Dc jdk_52_method_5_code 33 (.iload_n 1) 1 34 := ⟨by decide +kernel, rfl⟩
theorem d39_34 : Dc jdk_52_method_5_code 34 (.iinc 1 1) 3 37 := ⟨by decide +kernel, rfl⟩
theorem d39_37 : Dc jdk_52_method_5_code 37 (.baload) 1 38 := ⟨by decide +kernel, rfl⟩
theorem d39_38 : Dc jdk_52_method_5_code 38 (.sipush 255) 3 41 := ⟨by decide +kernel, rfl⟩
theorem d39_41 : Dc jdk_52_method_5_code 41 (.iand) 1 42 := ⟨by decide +kernel, rfl⟩
theorem d39_42 : Dc jdk_52_method_5_code 42 (.getstatic 59) 3 45 := ⟨by decide +kernel, rfl⟩
theorem d39_45 : Dc jdk_52_method_5_code 45 (.ishl) 1 46 := ⟨by decide +kernel, rfl⟩
theorem d39_46 : Dc jdk_52_method_5_code 46 (.aload_n 0) 1 47 := ⟨by decide +kernel, rfl⟩
theorem d39_47 : Dc jdk_52_method_5_code 47 (.iload_n 1) 1 48 := ⟨by decide +kernel, rfl⟩
theorem d39_48 : Dc jdk_52_method_5_code 48 (.baload) 1 49 := ⟨by decide +kernel, rfl⟩
theorem d39_49 : Dc jdk_52_method_5_code 49 (.sipush 255) 3 52 := ⟨by decide +kernel, rfl⟩
theorem d39_52 : Dc jdk_52_method_5_code 52 (.iand) 1 53 := ⟨by decide +kernel, rfl⟩
theorem d39_53 : Dc jdk_52_method_5_code 53 (.getstatic 63) 3 56 := ⟨by decide +kernel, rfl⟩
theorem d39_56 : Dc jdk_52_method_5_code 56 (.ishl) 1 57 := ⟨by decide +kernel, rfl⟩
theorem d39_57 : Dc jdk_52_method_5_code 57 (.ior) 1 58 := ⟨by decide +kernel, rfl⟩
theorem d39_58 : Dc jdk_52_method_5_code 58 (.i2c) 1 59 := ⟨by decide +kernel, rfl⟩
theorem d39_59 : Dc jdk_52_method_5_code 59 (.ireturn) 1 60 := ⟨by decide +kernel, rfl⟩
theorem d40_0 : Dc jdk_42_method_47_code 0 (.iconst 0) 1 1 := ⟨by decide +kernel, rfl⟩
theorem d40_1 : Dc jdk_42_method_47_code 1 (.istore_n 2) 1 2 := ⟨by decide +kernel, rfl⟩
theorem d40_2 : Dc jdk_42_method_47_code 2 (.iconst 0) 1 3 := ⟨by decide +kernel, rfl⟩
theorem d40_3 : Dc jdk_42_method_47_code 3 (.istore_n 3) 1 4 := ⟨by decide +kernel, rfl⟩
theorem d40_4 : Dc jdk_42_method_47_code 4 (.aload_n 0) 1 5 := ⟨by decide +kernel, rfl⟩
theorem d40_5 : Dc jdk_42_method_47_code 5 (.arraylength) 1 6 := ⟨by decide +kernel, rfl⟩
theorem d40_6 : Dc jdk_42_method_47_code 6 (.iconst 1) 1 7 := ⟨by decide +kernel, rfl⟩
theorem d40_7 : Dc jdk_42_method_47_code 7 (.ishr) 1 8 := ⟨by decide +kernel, rfl⟩
theorem d40_8 : Dc jdk_42_method_47_code 8 (.istore 4) 2 10 := ⟨by decide +kernel, rfl⟩
theorem d40_10 : Dc jdk_42_method_47_code 10 (.iload 4) 2 12 := ⟨by decide +kernel, rfl⟩
theorem d40_12 : Dc jdk_42_method_47_code 12 (.iconst 3) 1 13 := ⟨by decide +kernel, rfl⟩
theorem d40_13 : Dc jdk_42_method_47_code 13 (.imul) 1 14 := ⟨by decide +kernel, rfl⟩
theorem d40_14 : Dc jdk_42_method_47_code 14 (.newarray .byte) 2 16 := ⟨by decide +kernel, rfl⟩
theorem d40_16 : Dc jdk_42_method_47_code 16 (.astore 5) 2 18 := ⟨by decide +kernel, rfl⟩
theorem d40_58 : Dc jdk_42_method_47_code 58 (.iload_n 3) 1 59 := ⟨by decide +kernel, rfl⟩
theorem d40_59 : Dc jdk_42_method_47_code 59 (.iload 4) 2 61 := ⟨by decide +kernel, rfl⟩
theorem d40_61 : Db jdk_42_method_47_code 61 (.if_icmp .ge 294) 294 64 355 := ⟨by decide +kernel, rfl, by decide, by decide⟩
theorem d40_355 : Dc jdk_42_method_47_code 355 (.iload_n 2) 1 356 := ⟨by decide +kernel, rfl⟩
theorem d40_356 : Dc jdk_42_method_47_code 356 (.aload 5) 2 358 := ⟨by decide +kernel, rfl⟩
theorem d40_358 : Dc jdk_42_method_47_code 358 (.arraylength) 1 359 := ⟨by decide +kernel, rfl⟩
theorem d40_359 : Db jdk_42_method_47_code 359 (.if_icmp .ne 6) 6 362 365 := ⟨by decide +kernel, rfl, by decide, by decide⟩
theorem d40_362 : Dc jdk_42_method_47_code 362 (.aload 5) 2 364 := ⟨by decide +kernel, rfl⟩
theorem d40_364 : Dc jdk_42_method_47_code 364 (.areturn) 1 365 := ⟨by decide +kernel, rfl⟩
theorem d40_365 : Dc jdk_42_method_47_code 365 (.aload 5) 2 367 := ⟨by decide +kernel, rfl⟩
theorem d40_367 : Dc jdk_42_method_47_code 367 (.iload_n 2) 1 368 := ⟨by decide +kernel, rfl⟩
theorem d40_368 : Dc jdk_42_method_47_code 368 (.invokestatic 102) 3 371 := ⟨by decide +kernel, rfl⟩
theorem d40_371 : Dc jdk_42_method_47_code 371 (.areturn) 1 372 := ⟨by decide +kernel, rfl⟩
theorem d40_64 : Dc jdk_42_method_47_code 64 (.aload_n 0) 1 65 := ⟨by decide +kernel, rfl⟩
theorem d40_65 : Dc jdk_42_method_47_code 65 (.iload_n 3) 1 66 := ⟨by decide +kernel, rfl⟩
theorem d40_66 : Dc jdk_42_method_47_code 66 (.iinc 3 1) 3 69 := ⟨by decide +kernel, rfl⟩
theorem d40_69 : Dc jdk_42_method_47_code 69 (.invokestatic 360) 3 72 := ⟨by decide +kernel, rfl⟩
theorem d40_72 : Dc jdk_42_method_47_code 72 (.istore 6) 2 74 := ⟨by decide +kernel, rfl⟩
theorem d40_74 : Dc jdk_42_method_47_code 74 (.iload 6) 2 76 := ⟨by decide +kernel, rfl⟩
theorem d40_76 : Dc jdk_42_method_47_code 76 (.sipush 128) 3 79 := ⟨by decide +kernel, rfl⟩
theorem d40_79 : Db jdk_42_method_47_code 79 (.if_icmp .ge 16) 16 82 95 := ⟨by decide +kernel, rfl, by decide, by decide⟩
theorem d40_82 : Dc jdk_42_method_47_code 82 (.aload 5) 2 84 := ⟨by decide +kernel, rfl⟩
theorem d40_84 : Dc jdk_42_method_47_code 84 (.iload_n 2) 1 85 := ⟨by decide +kernel, rfl⟩
theorem d40_85 : Dc jdk_42_method_47_code 85 (.iinc 2 1) 3 88 := ⟨by decide +kernel, rfl⟩
theorem d40_88 : Dc jdk_42_method_47_code 88 (.iload 6) 2 90 := ⟨by decide +kernel, rfl⟩
theorem d40_90 : Dc jdk_42_method_47_code 90 (.i2b) 1 91 := ⟨by decide +kernel, rfl⟩
theorem d40_91 : Dc jdk_42_method_47_code 91 (.bastore) 1 92 := ⟨by decide +kernel, rfl⟩
theorem d40_92 : Db jdk_42_method_47_code 92 (.goto 260) 260 95 352 := ⟨by decide +kernel, rfl, by decide, by decide⟩
theorem d40_352 : Db jdk_42_method_47_code 352 (.goto (-294)) (-294) 355 58 := ⟨by decide +kernel, rfl, by decide, by decide⟩
theorem d40_95 : Dc jdk_42_method_47_code 95 (.iload 6) 2 97 := ⟨by decide +kernel, rfl⟩
theorem d40_97 : Dc jdk_42_method_47_code 97 (.sipush 2048) 3 100 := ⟨by decide +kernel, rfl⟩
theorem d40_100 : Db jdk_42_method_47_code 100 (.if_icmp .ge 40) 40 103 140 := ⟨by decide +kernel, rfl, by decide, by decide⟩
theorem d40_103 : Dc jdk_42_method_47_code 103 (.aload 5) 2 105 := ⟨by decide +kernel, rfl⟩
theorem d40_105 : Dc jdk_42_method_47_code 105 (.iload_n 2) 1 106 := ⟨by decide +kernel, rfl⟩
theorem d40_106 : Dc jdk_42_method_47_code 106 (.iinc 2 1) 3 109 := ⟨by decide +kernel, rfl⟩
theorem d40_109 : Dc jdk_42_method_47_code 109 (.sipush 192) 3 112 := ⟨by decide +kernel, rfl⟩
theorem d40_112 : Dc jdk_42_method_47_code 112 (.iload 6) 2 114 := ⟨by decide +kernel, rfl⟩
theorem d40_114 : Dc jdk_42_method_47_code 114 (.bipush 6) 2 116 := ⟨by decide +kernel, rfl⟩
theorem d40_116 : Dc jdk_42_method_47_code 116 (.ishr) 1 117 := ⟨by decide +kernel, rfl⟩
theorem d40_117 : Dc jdk_42_method_47_code 117 (.ior) 1 118 := ⟨by decide +kernel, rfl⟩
theorem d40_118 : Dc jdk_42_method_47_code 118 (.i2b) 1 119 := ⟨by decide +kernel, rfl⟩
theorem d40_119 : Dc jdk_42_method_47_code 119 (.bastore) 1 120 := ⟨by decide +kernel, rfl⟩
theorem d40_120 : Dc jdk_42_method_47_code 120 (.aload 5) 2 122 := ⟨by decide +kernel, rfl⟩
theorem d40_122 : Dc jdk_42_method_47_code 122 (.iload_n 2) 1 123 := ⟨by decide +kernel, rfl⟩
theorem d40_123 : Dc jdk_42_method_47_code 123 (.iinc 2 1) 3 126 := ⟨by decide +kernel, rfl⟩
theorem d40_126 : Dc jdk_42_method_47_code 126 (.sipush 128) 3 129 := ⟨by decide +kernel, rfl⟩
theorem d40_129 : Dc jdk_42_method_47_code 129 (.iload 6) 2 131 := ⟨by decide +kernel, rfl⟩
theorem d40_131 : Dc jdk_42_method_47_code 131 (.bipush 63) 2 133 := ⟨by decide +kernel, rfl⟩
theorem d40_133 : Dc jdk_42_method_47_code 133 (.iand) 1 134 := ⟨by decide +kernel, rfl⟩
theorem d40_134 : Dc jdk_42_method_47_code 134 (.ior) 1 135 := ⟨by decide +kernel, rfl⟩
theorem d40_135 : Dc jdk_42_method_47_code 135 (.i2b) 1 136 := ⟨by decide +kernel, rfl⟩
theorem d40_136 : Dc jdk_42_method_47_code 136 (.bastore) 1 137 := ⟨by decide +kernel, rfl⟩
theorem d40_137 : Db jdk_42_method_47_code 137 (.goto 215) 215 140 352 := ⟨by decide +kernel, rfl, by decide, by decide⟩
theorem d40_140 : Dc jdk_42_method_47_code 140 (.iload 6) 2 142 := ⟨by decide +kernel, rfl⟩
theorem d40_142 : Dc jdk_42_method_47_code 142 (.invokestatic 404) 3 145 := ⟨by decide +kernel, rfl⟩
theorem d40_145 : Db jdk_42_method_47_code 145 (.ifCond .eq 153) 153 148 298 := ⟨by decide +kernel, rfl, by decide, by decide⟩
theorem d40_298 : Dc jdk_42_method_47_code 298 (.aload 5) 2 300 := ⟨by decide +kernel, rfl⟩
theorem d40_300 : Dc jdk_42_method_47_code 300 (.iload_n 2) 1 301 := ⟨by decide +kernel, rfl⟩
theorem d40_301 : Dc jdk_42_method_47_code 301 (.iinc 2 1) 3 304 := ⟨by decide +kernel, rfl⟩
theorem d40_304 : Dc jdk_42_method_47_code 304 (.sipush 224) 3 307 := ⟨by decide +kernel, rfl⟩
theorem d40_307 : Dc jdk_42_method_47_code 307 (.iload 6) 2 309 := ⟨by decide +kernel, rfl⟩
theorem d40_309 : Dc jdk_42_method_47_code 309 (.bipush 12) 2 311 := ⟨by decide +kernel, rfl⟩
theorem d40_311 : Dc jdk_42_method_47_code 311 (.ishr) 1 312 := ⟨by decide +kernel, rfl⟩
theorem d40_312 : Dc jdk_42_method_47_code 312 (.ior) 1 313 := ⟨by decide +kernel, rfl⟩
theorem d40_313 : Dc jdk_42_method_47_code 313 (.i2b) 1 314 := ⟨by decide +kernel, rfl⟩
theorem d40_314 : Dc jdk_42_method_47_code 314 (.bastore) 1 315 := ⟨by decide +kernel, rfl⟩
theorem d40_315 : Dc jdk_42_method_47_code 315 (.aload 5) 2 317 := ⟨by decide +kernel, rfl⟩
theorem d40_317 : Dc jdk_42_method_47_code 317 (.iload_n 2) 1 318 := ⟨by decide +kernel, rfl⟩
theorem d40_318 : Dc jdk_42_method_47_code 318 (.iinc 2 1) 3 321 := ⟨by decide +kernel, rfl⟩
theorem d40_321 : Dc jdk_42_method_47_code 321 (.sipush 128) 3 324 := ⟨by decide +kernel, rfl⟩
theorem d40_324 : Dc jdk_42_method_47_code 324 (.iload 6) 2 326 := ⟨by decide +kernel, rfl⟩
theorem d40_326 : Dc jdk_42_method_47_code 326 (.bipush 6) 2 328 := ⟨by decide +kernel, rfl⟩
theorem d40_328 : Dc jdk_42_method_47_code 328 (.ishr) 1 329 := ⟨by decide +kernel, rfl⟩
theorem d40_329 : Dc jdk_42_method_47_code 329 (.bipush 63) 2 331 := ⟨by decide +kernel, rfl⟩
theorem d40_331 : Dc jdk_42_method_47_code 331 (.iand) 1 332 := ⟨by decide +kernel, rfl⟩
theorem d40_332 : Dc jdk_42_method_47_code 332 (.ior) 1 333 := ⟨by decide +kernel, rfl⟩
theorem d40_333 : Dc jdk_42_method_47_code 333 (.i2b) 1 334 := ⟨by decide +kernel, rfl⟩
theorem d40_334 : Dc jdk_42_method_47_code 334 (.bastore) 1 335 := ⟨by decide +kernel, rfl⟩
theorem d40_335 : Dc jdk_42_method_47_code 335 (.aload 5) 2 337 := ⟨by decide +kernel, rfl⟩
theorem d40_337 : Dc jdk_42_method_47_code 337 (.iload_n 2) 1 338 := ⟨by decide +kernel, rfl⟩
theorem d40_338 : Dc jdk_42_method_47_code 338 (.iinc 2 1) 3 341 := ⟨by decide +kernel, rfl⟩
theorem d40_341 : Dc jdk_42_method_47_code 341 (.sipush 128) 3 344 := ⟨by decide +kernel, rfl⟩
theorem d40_344 : Dc jdk_42_method_47_code 344 (.iload 6) 2 346 := ⟨by decide +kernel, rfl⟩
theorem d40_346 : Dc jdk_42_method_47_code 346 (.bipush 63) 2 348 := ⟨by decide +kernel, rfl⟩
theorem d40_348 : Dc jdk_42_method_47_code 348 (.iand) 1 349 := ⟨by decide +kernel, rfl⟩
theorem d40_349 : Dc jdk_42_method_47_code 349 (.ior) 1 350 := ⟨by decide +kernel, rfl⟩
theorem d40_350 : Dc jdk_42_method_47_code 350 (.i2b) 1 351 := ⟨by decide +kernel, rfl⟩
theorem d40_351 : Dc jdk_42_method_47_code 351 (.bastore) 1 352 := ⟨by decide +kernel, rfl⟩
theorem d40_18 : Dc jdk_42_method_47_code 18 (.iload_n 3) 1 19 := ⟨by decide +kernel, rfl⟩
theorem d40_19 : Dc jdk_42_method_47_code 19 (.iload 4) 2 21 := ⟨by decide +kernel, rfl⟩
theorem d40_21 : Db jdk_42_method_47_code 21 (.if_icmp .ge 37) 37 24 58 := ⟨by decide +kernel, rfl, by decide, by decide⟩
theorem d40_24 : Dc jdk_42_method_47_code 24 (.aload_n 0) 1 25 := ⟨by decide +kernel, rfl⟩
theorem d40_25 : Dc jdk_42_method_47_code 25 (.iload_n 3) 1 26 := ⟨by decide +kernel, rfl⟩
theorem d40_26 : Dc jdk_42_method_47_code 26 (.invokestatic 360) 3 29 := ⟨by decide +kernel, rfl⟩
theorem d40_29 : Dc jdk_42_method_47_code 29 (.istore 6) 2 31 := ⟨by decide +kernel, rfl⟩
theorem d40_31 : Dc jdk_42_method_47_code 31 (.iload 6) 2 33 := ⟨by decide +kernel, rfl⟩
theorem d40_33 : Dc jdk_42_method_47_code 33 (.sipush 128) 3 36 := ⟨by decide +kernel, rfl⟩
theorem d40_36 : Db jdk_42_method_47_code 36 (.if_icmp .lt 6) 6 39 42 := ⟨by decide +kernel, rfl, by decide, by decide⟩
theorem d40_42 : Dc jdk_42_method_47_code 42 (.aload 5) 2 44 := ⟨by decide +kernel, rfl⟩
theorem d40_44 : Dc jdk_42_method_47_code 44 (.iload_n 2) 1 45 := ⟨by decide +kernel, rfl⟩
theorem d40_45 : Dc jdk_42_method_47_code 45 (.iinc 2 1) 3 48 := ⟨by decide +kernel, rfl⟩
theorem d40_48 : Dc jdk_42_method_47_code 48 (.iload 6) 2 50 := ⟨by decide +kernel, rfl⟩
theorem d40_50 : Dc jdk_42_method_47_code 50 (.i2b) 1 51 := ⟨by decide +kernel, rfl⟩
theorem d40_51 : Dc jdk_42_method_47_code 51 (.bastore) 1 52 := ⟨by decide +kernel, rfl⟩
theorem d40_52 : Dc jdk_42_method_47_code 52 (.iinc 3 1) 3 55 := ⟨by decide +kernel, rfl⟩
theorem d40_55 : Db jdk_42_method_47_code 55 (.goto (-37)) (-37) 58 18 := ⟨by decide +kernel, rfl, by decide, by decide⟩
theorem d40_39 : Db jdk_42_method_47_code 39 (.goto 19) 19 42 58 := ⟨by decide +kernel, rfl, by decide, by decide⟩
theorem d24_5 : Dc jdk_42_method_46_code 5 (.aload_n 1) 1 6 := ⟨by decide +kernel, rfl⟩
theorem d24_6 : Dc jdk_42_method_46_code 6 (.iload_n 2) 1 7 := ⟨by decide +kernel, rfl⟩
theorem d24_7 : Dc jdk_42_method_46_code 7 (.invokestatic 473) 3 10 := ⟨by decide +kernel, rfl⟩
theorem d24_10 : Dc jdk_42_method_46_code 10 (.areturn) 1 11 := ⟨by decide +kernel, rfl⟩
theorem d41_0 : Dc jdk_52_method_21_code 0 (.iconst 0) 1 1 := ⟨by decide +kernel, rfl⟩
theorem d41_1 : Dc jdk_52_method_21_code 1 (.istore 5) 2 3 := ⟨by decide +kernel, rfl⟩
theorem d41_3 : Dc jdk_52_method_21_code 3 (.iload 5) 2 5 := ⟨by decide +kernel, rfl⟩
theorem d41_5 : Dc jdk_52_method_21_code 5 (.iload 4) 2 7 := ⟨by decide +kernel, rfl⟩
theorem d41_7 : Db jdk_52_method_21_code 7 (.if_icmp .ge 37) 37 10 44 := ⟨by decide +kernel, rfl, by decide, by decide⟩
theorem d41_44 : Dc jdk_52_method_21_code 44 (.iload 4) 2 46 := ⟨by decide +kernel, rfl⟩
theorem d41_46 : Dc jdk_52_method_21_code 46 (.ireturn) 1 47 := ⟨by decide +kernel, rfl⟩
theorem d41_10 : Dc jdk_52_method_21_code 10 (.aload_n 0) 1 11 := ⟨by decide +kernel, rfl⟩
theorem d41_11 : Dc jdk_52_method_21_code 11 (.iload_n 1) 1 12 := ⟨by decide +kernel, rfl⟩
theorem d41_12 : Dc jdk_52_method_21_code 12 (.caload) 1 13 := ⟨by decide +kernel, rfl⟩
theorem d41_13 : Dc jdk_52_method_21_code 13 (.istore 6) 2 15 := ⟨by decide +kernel, rfl⟩
theorem d41_15 : Dc jdk_52_method_21_code 15 (.iload 6) 2 17 := ⟨by decide +kernel, rfl⟩
theorem d41_17 : Dc jdk_52_method_21_code 17 (.sipush 255) 3 20 := ⟨by decide +kernel, rfl⟩
theorem d41_20 : Db jdk_52_method_21_code 20 (.if_icmp .le 6) 6 23 26 := ⟨by decide +kernel, rfl, by decide, by decide⟩
theorem d41_23 : Dc jdk_52_method_21_code 23 (.iload 5) 2 25 := ⟨by decide +kernel, rfl⟩
theorem d41_25 : Dc jdk_52_method_21_code 25 (.ireturn) 1 26 := ⟨by decide +kernel, rfl⟩
theorem d41_26 : Dc jdk_52_method_21_code 26 (.aload_n 2) 1 27 := ⟨by decide +kernel, rfl⟩
theorem d41_27 : Dc jdk_52_method_21_code 27 (.iload_n 3) 1 28 := ⟨by decide +kernel, rfl⟩
theorem d41_28 : Dc jdk_52_method_21_code 28 (.iload 6) 2 30 := ⟨by decide +kernel, rfl⟩
theorem d41_30 : Dc jdk_52_method_21_code 30 (.i2b) 1 31 := ⟨by decide +kernel, rfl⟩
theorem d41_31 : Dc jdk_52_method_21_code 31 (.bastore) 1 32 := ⟨by decide +kernel, rfl⟩
theorem d41_32 : Dc jdk_52_method_21_code 32 (.iinc 1 1) 3 35 := ⟨by decide +kernel, rfl⟩
theorem d41_35 : Dc jdk_52_method_21_code 35 (.iinc 3 1) 3 38 := ⟨by decide +kernel, rfl⟩
theorem d41_38 : Dc jdk_52_method_21_code 38 (.iinc 5 1) 3 41 := ⟨by decide +kernel, rfl⟩
theorem d41_41 : Db jdk_52_method_21_code 41 (.goto (-38)) (-38) 44 3 := ⟨by decide +kernel, rfl, by decide, by decide⟩
theorem d42_0 : Dc jdk_52_method_14_code 0 (.iload_n 2) 1 1 := ⟨by decide +kernel, rfl⟩
theorem d42_1 : Dc jdk_52_method_14_code 1 (.invokestatic 107) 3 4 := ⟨by decide +kernel, rfl⟩
theorem d42_4 : Dc jdk_52_method_14_code 4 (.astore_n 3) 1 5 := ⟨by decide +kernel, rfl⟩
theorem d42_5 : Dc jdk_52_method_14_code 5 (.iconst 0) 1 6 := ⟨by decide +kernel, rfl⟩
theorem d42_6 : Dc jdk_52_method_14_code 6 (.istore 4) 2 8 := ⟨by decide +kernel, rfl⟩
theorem d42_8 : Dc jdk_52_method_14_code 8 (.iload 4) 2 10 := ⟨by decide +kernel, rfl⟩
theorem d42_10 : Dc jdk_52_method_14_code 10 (.iload_n 2) 1 11 := ⟨by decide +kernel, rfl⟩
theorem d42_11 : Db jdk_52_method_14_code 11 (.if_icmp .ge 21) 21 14 32 := ⟨by decide +kernel, rfl, by decide, by decide⟩
theorem d42_32 : Dc jdk_52_method_14_code 32 (.aload_n 3) 1 33 := ⟨by decide +kernel, rfl⟩
theorem d42_33 : Dc jdk_52_method_14_code 33 (.areturn) 1 34 := ⟨by decide +kernel, rfl⟩
theorem d42_14 : Dc jdk_52_method_14_code 14 (.aload_n 3) 1 15 := ⟨by decide +kernel, rfl⟩
theorem d42_15 : Dc jdk_52_method_14_code 15 (.iload 4) 2 17 := ⟨by decide +kernel, rfl⟩
theorem d42_17 : Dc jdk_52_method_14_code 17 (.aload_n 0) 1 18 := ⟨by decide +kernel, rfl⟩
theorem d42_18 : Dc jdk_52_method_14_code 18 (.iload_n 1) 1 19 := ⟨by decide +kernel, rfl⟩
theorem d42_19 : Dc jdk_52_method_14_code 19 (.caload) 1 20 := ⟨by decide +kernel, rfl⟩
theorem d42_20 : Dc jdk_52_method_14_code 20 (.invokestatic 111) 3 23 := ⟨by decide +kernel, rfl⟩
theorem d42_23 : Dc jdk_52_method_14_code 23 (.iinc 1 1) 3 26 := ⟨by decide +kernel, rfl⟩
theorem d42_26 : Dc jdk_52_method_14_code 26 (.iinc 4 1) 3 29 := ⟨by decide +kernel, rfl⟩
theorem d42_29 : Db jdk_52_method_14_code 29 (.goto (-21)) (-21) 32 8 := ⟨by decide +kernel, rfl, by decide, by decide⟩
theorem d43_0 : Dc jdk_52_method_16_code 0 (.iload_n 2) 1 1 := ⟨by decide +kernel, rfl⟩
theorem d43_1 : Dc jdk_52_method_16_code 1 (.newarray .byte) 2 3 := ⟨by decide +kernel, rfl⟩
theorem d43_3 : Dc jdk_52_method_16_code 3 (.astore_n 3) 1 4 := ⟨by decide +kernel, rfl⟩
theorem d43_4 : Dc jdk_52_method_16_code 4 (.aload_n 0) 1 5 := ⟨by decide +kernel, rfl⟩
theorem d43_5 : Dc jdk_52_method_16_code 5 (.iload_n 1) 1 6 := ⟨by decide +kernel, rfl⟩
theorem d43_6 : Dc jdk_52_method_16_code 6 (.aload_n 3) 1 7 := ⟨by decide +kernel, rfl⟩
theorem d43_7 : Dc jdk_52_method_16_code 7 (.iconst 0) 1 8 := ⟨by decide +kernel, rfl⟩
theorem d43_8 : Dc jdk_52_method_16_code 8 (.iload_n 2) 1 9 := ⟨by decide +kernel, rfl⟩
theorem d43_9 : Dc jdk_52_method_16_code 9 (.invokestatic 115) 3 12 := ⟨by decide +kernel, rfl⟩
theorem d43_12 : Dc jdk_52_method_16_code 12 (.istore 4) 2 14 := ⟨by decide +kernel, rfl⟩
theorem d43_14 : Dc jdk_52_method_16_code 14 (.iload 4) 2 16 := ⟨by decide +kernel, rfl⟩
theorem d43_16 : Dc jdk_52_method_16_code 16 (.iload_n 2) 1 17 := ⟨by decide +kernel, rfl⟩
theorem d43_17 : Db jdk_52_method_16_code 17 (.if_icmp .eq 40) 40 20 57 := ⟨by decide +kernel, rfl, by decide, by decide⟩
theorem d43_57 : Dc jdk_52_method_16_code 57 (.aload_n 3) 1 58 := ⟨by decide +kernel, rfl⟩
theorem d43_58 : Dc jdk_52_method_16_code 58 (.areturn) 1 59 := ⟨by decide +kernel, rfl⟩
theorem d43_20 : Dc jdk_52_method_16_code 20 (.aload_n 0) 1 21 := ⟨by decide +kernel, rfl⟩
theorem d43_21 : Dc jdk_52_method_16_code 21 (.iload_n 1) 1 22 := ⟨by decide +kernel, rfl⟩
theorem d43_22 : Dc jdk_52_method_16_code 22 (.iload_n 2) 1 23 := ⟨by decide +kernel, rfl⟩
theorem d43_23 : Dc jdk_52_method_16_code 23 (.invokestatic 119) 3 26 := ⟨by decide +kernel, rfl⟩
theorem d43_26 : Dc jdk_52_method_16_code 26 (.astore 5) 2 28 := ⟨by decide +kernel, rfl⟩
theorem d43_28 : Dc jdk_52_method_16_code 28 (.aload 5) 2 30 := ⟨by decide +kernel, rfl⟩
theorem d43_30 : Dc jdk_52_method_16_code 30 (.iload 4) 2 32 := ⟨by decide +kernel, rfl⟩
theorem d43_32 : Dc jdk_52_method_16_code 32 (.invokestatic 71) 3 35 := ⟨by decide +kernel, rfl⟩
theorem d43_35 : Dc jdk_52_method_16_code 35 (.sipush 255) 3 38 := ⟨by decide +kernel, rfl⟩
theorem d43_38 : Db jdk_52_method_16_code 38 (.if_icmp .gt 16) 16 41 54 := ⟨by decide +kernel, rfl, by decide, by decide⟩
theorem d43_54 : Dc jdk_52_method_16_code 54 (.aload 5) 2 56 := ⟨by decide +kernel, rfl⟩
theorem d43_56 : Dc jdk_52_method_16_code 56 (.areturn) 1 57 := ⟨by decide +kernel, rfl⟩
theorem d44_0 : Dc jdk_52_method_15_code 0 (.iload_n 1) 1 1 := ⟨by decide +kernel, rfl⟩
theorem d44_1 : Dc jdk_52_method_15_code 1 (.aload_n 0) 1 2 := ⟨by decide +kernel, rfl⟩
theorem d44_2 : Dc jdk_52_method_15_code 2 (.arraylength) 1 3 := ⟨by decide +kernel, rfl⟩
theorem d44_3 : Dc jdk_52_method_15_code 3 (.isub) 1 4 := ⟨by decide +kernel, rfl⟩
theorem d44_4 : Dc jdk_52_method_15_code 4 (.bipush 31) 2 6 := ⟨by decide +kernel, rfl⟩
theorem d44_6 : Dc jdk_52_method_15_code 6 (.iushr) 1 7 := ⟨by decide +kernel, rfl⟩
theorem d44_7 : Dc jdk_52_method_15_code 7 (.i2b) 1 8 := ⟨by decide +kernel, rfl⟩
theorem d44_8 : Dc jdk_52_method_15_code 8 (.ireturn) 1 9 := ⟨by decide +kernel, rfl⟩
theorem d45_0 : Dc jdk_42_method_149_code 0 (.aload_n 0) 1 1 := ⟨by decide +kernel, rfl⟩
theorem d45_1 : Dc jdk_42_method_149_code 1 (.invokespecial 1) 3 4 := ⟨by decide +kernel, rfl⟩
theorem d45_4 : Dc jdk_42_method_149_code 4 (.iload_n 3) 1 5 := ⟨by decide +kernel, rfl⟩
theorem d45_5 : Db jdk_42_method_149_code 5 (.ifCond .ne 22) 22 8 27 := ⟨by decide +kernel, rfl, by decide, by decide⟩
theorem d45_27 : Dc jdk_42_method_149_code 27 (.getstatic 38) 3 30 := ⟨by decide +kernel, rfl⟩
theorem d45_30 : Db jdk_42_method_149_code 30 (.ifCond .eq 28) 28 33 58 := ⟨by decide +kernel, rfl, by decide, by decide⟩
theorem d45_33 : Dc jdk_42_method_149_code 33 (.aload_n 1) 1 34 := ⟨by decide +kernel, rfl⟩
theorem d45_34 : Dc jdk_42_method_149_code 34 (.iload_n 2) 1 35 := ⟨by decide +kernel, rfl⟩
theorem d45_35 : Dc jdk_42_method_149_code 35 (.iload_n 3) 1 36 := ⟨by decide +kernel, rfl⟩
theorem d45_36 : Dc jdk_42_method_149_code 36 (.invokestatic 177) 3 39 := ⟨by decide +kernel, rfl⟩
theorem d45_39 : Dc jdk_42_method_149_code 39 (.astore 5) 2 41 := ⟨by decide +kernel, rfl⟩
theorem d45_41 : Dc jdk_42_method_149_code 41 (.aload_n 0) 1 42 := ⟨by decide +kernel, rfl⟩
theorem d45_42 : Dc jdk_42_method_149_code 42 (.aload 5) 2 44 := ⟨by decide +kernel, rfl⟩
theorem d45_44 : Dc jdk_42_method_149_code 44 (.iload_n 3) 1 45 := ⟨by decide +kernel, rfl⟩
theorem d45_45 : Dc jdk_42_method_149_code 45 (.invokestatic 47) 3 48 := ⟨by decide +kernel, rfl⟩
theorem d45_48 : Dc jdk_42_method_149_code 48 (.putfield 15) 3 51 := ⟨by decide +kernel, rfl⟩
theorem d45_51 : Dc jdk_42_method_149_code 51 (.aload_n 0) 1 52 := ⟨by decide +kernel, rfl⟩
theorem d45_52 : Dc jdk_42_method_149_code 52 (.aload 5) 2 54 := ⟨by decide +kernel, rfl⟩
theorem d45_54 : Dc jdk_42_method_149_code 54 (.putfield 9) 3 57 := ⟨by decide +kernel, rfl⟩
theorem d45_57 : Dc jdk_42_method_149_code 57 (.return_) 1 58 := ⟨by decide +kernel, rfl⟩
theorem d46_0 : Dc jdk_42_method_3_code 0 (.aload_n 0) 1 1 := ⟨by decide +kernel, rfl⟩
theorem d46_1 : Dc jdk_42_method_3_code 1 (.aload_n 1) 1 2 := ⟨by decide +kernel, rfl⟩
theorem d46_2 : Dc jdk_42_method_3_code 2 (.iconst 0) 1 3 := ⟨by decide +kernel, rfl⟩
theorem d46_3 : Dc jdk_42_method_3_code 3 (.aload_n 1) 1 4 := ⟨by decide +kernel, rfl⟩
theorem d46_4 : Dc jdk_42_method_3_code 4 (.arraylength) 1 5 := ⟨by decide +kernel, rfl⟩
theorem d46_5 : Dc jdk_42_method_3_code 5 (.aconst_null) 1 6 := ⟨by decide +kernel, rfl⟩
theorem d46_6 : Dc jdk_42_method_3_code 6 (.invokespecial 27) 3 9 := ⟨by decide +kernel, rfl⟩
theorem d46_9 : Dc jdk_42_method_3_code 9 (.return_) 1 10 := ⟨by decide +kernel, rfl⟩
theorem d45_8 : Dc jdk_42_method_149_code 8 (.aload_n 0) 1 9 := ⟨by decide +kernel, rfl⟩
theorem d45_9 : Dc jdk_42_method_149_code 9 (.ldc 7) 2 11 := ⟨by decide +kernel, rfl⟩
theorem d45_11 : Dc jdk_42_method_149_code 11 (.getfield 9) 3 14 := ⟨by decide +kernel, rfl⟩
theorem d45_14 : Dc jdk_42_method_149_code 14 (.putfield 9) 3 17 := ⟨by decide +kernel, rfl⟩
theorem d45_17 : Dc jdk_42_method_149_code 17 (.aload_n 0) 1 18 := ⟨by decide +kernel, rfl⟩
theorem d45_18 : Dc jdk_42_method_149_code 18 (.ldc 7) 2 20 := ⟨by decide +kernel, rfl⟩
theorem d45_20 : Dc jdk_42_method_149_code 20 (.getfield 15) 3 23 := ⟨by decide +kernel, rfl⟩
theorem d45_23 : Dc jdk_42_method_149_code 23 (.putfield 15) 3 26 := ⟨by decide +kernel, rfl⟩
theorem d45_26 : Dc jdk_42_method_149_code 26 (.return_) 1 27 := ⟨by decide +kernel, rfl⟩
theorem d47_0 : Dc method_3_code 0 (.iload_n 0) 1 1 := ⟨by decide +kernel, rfl⟩
theorem d47_1 : Dc method_3_code 1 (.ldc 35) 2 3 := ⟨by decide +kernel, rfl⟩
theorem d47_3 : Dc method_3_code 3 (.iand) 1 4 := ⟨by decide +kernel, rfl⟩
theorem d47_4 : Dc method_3_code 4 (.istore_n 1) 1 5 := ⟨by decide +kernel, rfl⟩
theorem d47_5 : Dc method_3_code 5 (.iload_n 1) 1 6 := ⟨by decide +kernel, rfl⟩
theorem d47_6 : Dc method_3_code 6 (.ldc 36) 2 8 := ⟨by decide +kernel, rfl⟩
theorem d47_8 : Db method_3_code 8 (.if_icmp .lt 15) 15 11 23 := ⟨by decide +kernel, rfl, by decide, by decide⟩
theorem d47_23 : Dc method_3_code 23 (.iload_n 1) 1 24 := ⟨by decide +kernel, rfl⟩
theorem d47_24 : Dc method_3_code 24 (.i2c) 1 25 := ⟨by decide +kernel, rfl⟩
theorem d47_25 : Dc method_3_code 25 (.ireturn) 1 26 := ⟨by decide +kernel, rfl⟩
theorem d47_11 : Dc method_3_code 11 (.iload_n 1) 1 12 := ⟨by decide +kernel, rfl⟩
theorem d47_12 : Dc method_3_code 12 (.ldc 37) 2 14 := ⟨by decide +kernel, rfl⟩
theorem d47_14 : Db method_3_code 14 (.if_icmp .gt 9) 9 17 23 := ⟨by decide +kernel, rfl, by decide, by decide⟩
theorem d47_17 : Dc method_3_code 17 (.iload_n 1) 1 18 := ⟨by decide +kernel, rfl⟩
theorem d47_18 : Dc method_3_code 18 (.sipush 2047) 3 21 := ⟨by decide +kernel, rfl⟩
theorem d47_21 : Dc method_3_code 21 (.iand) 1 22 := ⟨by decide +kernel, rfl⟩
theorem d47_22 : Dc method_3_code 22 (.istore_n 1) 1 23 := ⟨by decide +kernel, rfl⟩
theorem d48_0 : Dc method_4_code 0 (.iload_n 0) 1 1 := ⟨by decide +kernel, rfl⟩
theorem d48_1 : Dc method_4_code 1 (.istore_n 3) 1 2 := ⟨by decide +kernel, rfl⟩
theorem d48_2 : Dc method_4_code 2 (.iload_n 3) 1 3 := ⟨by decide +kernel, rfl⟩
theorem d48_3 : Dc method_4_code 3 (.sipush 128) 3 6 := ⟨by decide +kernel, rfl⟩
theorem d48_6 : Db method_4_code 6 (.if_icmp .ge 12) 12 9 18 := ⟨by decide +kernel, rfl, by decide, by decide⟩
theorem d48_9 : Dc method_4_code 9 (.aload_n 1) 1 10 := ⟨by decide +kernel, rfl⟩
theorem d48_10 : Dc method_4_code 10 (.iload_n 2) 1 11 := ⟨by decide +kernel, rfl⟩
theorem d48_11 : Dc method_4_code 11 (.iload_n 3) 1 12 := ⟨by decide +kernel, rfl⟩
theorem d48_12 : Dc method_4_code 12 (.i2b) 1 13 := ⟨by decide +kernel, rfl⟩
theorem d48_13 : Dc method_4_code 13 (.bastore) 1 14 := ⟨by decide +kernel, rfl⟩
theorem d48_14 : Dc method_4_code 14 (.iload_n 2) 1 15 := ⟨by decide +kernel, rfl⟩
theorem d48_15 : Dc method_4_code 15 (.iconst 1) 1 16 := ⟨by decide +kernel, rfl⟩
theorem d48_16 : Dc method_4_code 16 (.iadd) 1 17 := ⟨by decide +kernel, rfl⟩
theorem d48_17 : Dc method_4_code 17 (.ireturn) 1 18 := ⟨by decide +kernel, rfl⟩
theorem d48_18 : Dc method_4_code 18 (.iload_n 3) 1 19 := ⟨by decide +kernel, rfl⟩
theorem d48_19 : Dc method_4_code 19 (.sipush 2048) 3 22 := ⟨by decide +kernel, rfl⟩
theorem d48_22 : Db method_4_code 22 (.if_icmp .ge 33) 33 25 55 := ⟨by decide +kernel, rfl, by decide, by decide⟩
theorem d48_25 : Dc method_4_code 25 (.aload_n 1) 1 26 := ⟨by decide +kernel, rfl⟩
theorem d48_26 : Dc method_4_code 26 (.iload_n 2) 1 27 := ⟨by decide +kernel, rfl⟩
theorem d48_27 : Dc method_4_code 27 (.sipush 192) 3 30 := ⟨by decide +kernel, rfl⟩
theorem d48_30 : Dc method_4_code 30 (.iload_n 3) 1 31 := ⟨by decide +kernel, rfl⟩
theorem d48_31 : Dc method_4_code 31 (.bipush 6) 2 33 := ⟨by decide +kernel, rfl⟩
theorem d48_33 : Dc method_4_code 33 (.ishr) 1 34 := ⟨by decide +kernel, rfl⟩
theorem d48_34 : Dc method_4_code 34 (.ior) 1 35 := ⟨by decide +kernel, rfl⟩
theorem d48_35 : Dc method_4_code 35 (.i2b) 1 36 := ⟨by decide +kernel, rfl⟩
theorem d48_36 : Dc method_4_code 36 (.bastore) 1 37 := ⟨by decide +kernel, rfl⟩
theorem d48_37 : Dc method_4_code 37 (.aload_n 1) 1 38 := ⟨by decide +kernel, rfl⟩
theorem d48_38 : Dc method_4_code 38 (.iload_n 2) 1 39 := ⟨by decide +kernel, rfl⟩
theorem d48_39 : Dc method_4_code 39 (.iconst 1) 1 40 := ⟨by decide +kernel, rfl⟩
theorem d48_40 : Dc method_4_code 40 (.iadd) 1 41 := ⟨by decide +kernel, rfl⟩
theorem d48_41 : Dc method_4_code 41 (.sipush 128) 3 44 := ⟨by decide +kernel, rfl⟩
theorem d48_44 : Dc method_4_code 44 (.iload_n 3) 1 45 := ⟨by decide +kernel, rfl⟩
theorem d48_45 : Dc method_4_code 45 (.bipush 63) 2 47 := ⟨by decide +kernel, rfl⟩
theorem d48_47 : Dc method_4_code 47 (.iand) 1 48 := ⟨by decide +kernel, rfl⟩
theorem d48_48 : Dc method_4_code 48 (.ior) 1 49 := ⟨by decide +kernel, rfl⟩
theorem d48_49 : Dc method_4_code 49 (.i2b) 1 50 := ⟨by decide +kernel, rfl⟩
theorem d48_50 : Dc method_4_code 50 (.bastore) 1 51 := ⟨by decide +kernel, rfl⟩
theorem d48_51 : Dc method_4_code 51 (.iload_n 2) 1 52 := ⟨by decide +kernel, rfl⟩
theorem d48_52 : Dc method_4_code 52 (.iconst 2) 1 53 := ⟨by decide +kernel, rfl⟩
theorem d48_53 : Dc method_4_code 53 (.iadd) 1 54 := ⟨by decide +kernel, rfl⟩
theorem d48_54 : Dc method_4_code 54 (.ireturn) 1 55 := ⟨by decide +kernel, rfl⟩
theorem d48_55 : Dc method_4_code 55 (.aload_n 1) 1 56 := ⟨by decide +kernel, rfl⟩
theorem d48_56 : Dc method_4_code 56 (.iload_n 2) 1 57 := ⟨by decide +kernel, rfl⟩
theorem d48_57 : Dc method_4_code 57 (.sipush 224) 3 60 := ⟨by decide +kernel, rfl⟩
theorem d48_60 : Dc method_4_code 60 (.iload_n 3) 1 61 := ⟨by decide +kernel, rfl⟩
theorem d48_61 : Dc method_4_code 61 (.bipush 12) 2 63 := ⟨by decide +kernel, rfl⟩
theorem d48_63 : Dc method_4_code 63 (.ishr) 1 64 := ⟨by decide +kernel, rfl⟩
theorem d48_64 : Dc method_4_code 64 (.ior) 1 65 := ⟨by decide +kernel, rfl⟩
theorem d48_65 : Dc method_4_code 65 (.i2b) 1 66 := ⟨by decide +kernel, rfl⟩
theorem d48_66 : Dc method_4_code 66 (.bastore) 1 67 := ⟨by decide +kernel, rfl⟩
theorem d48_67 : Dc method_4_code 67 (.aload_n 1) 1 68 := ⟨by decide +kernel, rfl⟩
theorem d48_68 : Dc method_4_code 68 (.iload_n 2) 1 69 := ⟨by decide +kernel, rfl⟩
theorem d48_69 : Dc method_4_code 69 (.iconst 1) 1 70 := ⟨by decide +kernel, rfl⟩
theorem d48_70 : Dc method_4_code 70 (.iadd) 1 71 := ⟨by decide +kernel, rfl⟩
theorem d48_71 : Dc method_4_code 71 (.sipush 128) 3 74 := ⟨by decide +kernel, rfl⟩
theorem d48_74 : Dc method_4_code 74 (.iload_n 3) 1 75 := ⟨by decide +kernel, rfl⟩
theorem d48_75 : Dc method_4_code 75 (.bipush 6) 2 77 := ⟨by decide +kernel, rfl⟩
theorem d48_77 : Dc method_4_code 77 (.ishr) 1 78 := ⟨by decide +kernel, rfl⟩
theorem d48_78 : Dc method_4_code 78 (.bipush 63) 2 80 := ⟨by decide +kernel, rfl⟩
theorem d48_80 : Dc method_4_code 80 (.iand) 1 81 := ⟨by decide +kernel, rfl⟩
theorem d48_81 : Dc method_4_code 81 (.ior) 1 82 := ⟨by decide +kernel, rfl⟩
theorem d48_82 : Dc method_4_code 82 (.i2b) 1 83 := ⟨by decide +kernel, rfl⟩
theorem d48_83 : Dc method_4_code 83 (.bastore) 1 84 := ⟨by decide +kernel, rfl⟩
theorem d48_84 : Dc method_4_code 84 (.aload_n 1) 1 85 := ⟨by decide +kernel, rfl⟩
theorem d48_85 : Dc method_4_code 85 (.iload_n 2) 1 86 := ⟨by decide +kernel, rfl⟩
theorem d48_86 : Dc method_4_code 86 (.iconst 2) 1 87 := ⟨by decide +kernel, rfl⟩
theorem d48_87 : Dc method_4_code 87 (.iadd) 1 88 := ⟨by decide +kernel, rfl⟩
theorem d48_88 : Dc method_4_code 88 (.sipush 128) 3 91 := ⟨by decide +kernel, rfl⟩
theorem d48_91 : Dc method_4_code 91 (.iload_n 3) 1 92 := ⟨by decide +kernel, rfl⟩
theorem d48_92 : Dc method_4_code 92 (.bipush 63) 2 94 := ⟨by decide +kernel, rfl⟩
theorem d48_94 : Dc method_4_code 94 (.iand) 1 95 := ⟨by decide +kernel, rfl⟩
theorem d48_95 : Dc method_4_code 95 (.ior) 1 96 := ⟨by decide +kernel, rfl⟩
theorem d48_96 : Dc method_4_code 96 (.i2b) 1 97 := ⟨by decide +kernel, rfl⟩
theorem d48_97 : Dc method_4_code 97 (.bastore) 1 98 := ⟨by decide +kernel, rfl⟩
theorem d48_98 : Dc method_4_code 98 (.iload_n 2) 1 99 := ⟨by decide +kernel, rfl⟩
theorem d48_99 : Dc method_4_code 99 (.iconst 3) 1 100 := ⟨by decide +kernel, rfl⟩
theorem d48_100 : Dc method_4_code 100 (.iadd) 1 101 := ⟨by decide +kernel, rfl⟩
theorem d48_101 : Dc method_4_code 101 (.ireturn) 1 102 := ⟨by decide +kernel, rfl⟩
theorem d49_171 : Dc method_5_code 171 (.iconst 1) 1 172 := ⟨by decide +kernel, rfl⟩
theorem d49_172 : Dc method_5_code 172 (.ireturn) 1 173 := ⟨by decide +kernel, rfl⟩
theorem d49_152 : Dc method_5_code 152 (.iload_n 2) 1 153 := ⟨by decide +kernel, rfl⟩
theorem d49_153 : Dc method_5_code 153 (.bipush 9) 2 155 := ⟨by decide +kernel, rfl⟩
theorem d49_155 : Db method_5_code 155 (.if_icmp .le 16) 16 158 171 := ⟨by decide +kernel, rfl, by decide, by decide⟩
theorem d49_158 : Dc method_5_code 158 (.aload_n 0) 1 159 := ⟨by decide +kernel, rfl⟩
theorem d49_159 : Dc method_5_code 159 (.bipush 9) 2 161 := ⟨by decide +kernel, rfl⟩
theorem d49_161 : Dc method_5_code 161 (.baload) 1 162 := ⟨by decide +kernel, rfl⟩
theorem d49_162 : Dc method_5_code 162 (.aload_n 1) 1 163 := ⟨by decide +kernel, rfl⟩
theorem d49_163 : Dc method_5_code 163 (.bipush 9) 2 165 := ⟨by decide +kernel, rfl⟩
theorem d49_165 : Dc method_5_code 165 (.baload) 1 166 := ⟨by decide +kernel, rfl⟩
theorem d49_166 : Db method_5_code 166 (.if_icmp .eq 5) 5 169 171 := ⟨by decide +kernel, rfl, by decide, by decide⟩
theorem d49_133 : Dc method_5_code 133 (.iload_n 2) 1 134 := ⟨by decide +kernel, rfl⟩
theorem d49_134 : Dc method_5_code 134 (.bipush 8) 2 136 := ⟨by decide +kernel, rfl⟩
theorem d49_136 : Db method_5_code 136 (.if_icmp .le 16) 16 139 152 := ⟨by decide +kernel, rfl, by decide, by decide⟩
theorem d49_139 : Dc method_5_code 139 (.aload_n 0) 1 140 := ⟨by decide +kernel, rfl⟩
theorem d49_140 : Dc method_5_code 140 (.bipush 8) 2 142 := ⟨by decide +kernel, rfl⟩
theorem d49_142 : Dc method_5_code 142 (.baload) 1 143 := ⟨by decide +kernel, rfl⟩
theorem d49_143 : Dc method_5_code 143 (.aload_n 1) 1 144 := ⟨by decide +kernel, rfl⟩
theorem d49_144 : Dc method_5_code 144 (.bipush 8) 2 146 := ⟨by decide +kernel, rfl⟩
theorem d49_146 : Dc method_5_code 146 (.baload) 1 147 := ⟨by decide +kernel, rfl⟩
theorem d49_147 : Db method_5_code 147 (.if_icmp .eq 5) 5 150 152 := ⟨by decide +kernel, rfl, by decide, by decide⟩
theorem d49_114 : Dc method_5_code 114 (.iload_n 2) 1 115 := ⟨by decide +kernel, rfl⟩
theorem d49_115 : Dc method_5_code 115 (.bipush 7) 2 117 := ⟨by decide +kernel, rfl⟩
theorem d49_117 : Db method_5_code 117 (.if_icmp .le 16) 16 120 133 := ⟨by decide +kernel, rfl, by decide, by decide⟩
theorem d49_120 : Dc method_5_code 120 (.aload_n 0) 1 121 := ⟨by decide +kernel, rfl⟩
theorem d49_121 : Dc method_5_code 121 (.bipush 7) 2 123 := ⟨by decide +kernel, rfl⟩
theorem d49_123 : Dc method_5_code 123 (.baload) 1 124 := ⟨by decide +kernel, rfl⟩
theorem d49_124 : Dc method_5_code 124 (.aload_n 1) 1 125 := ⟨by decide +kernel, rfl⟩
theorem d49_125 : Dc method_5_code 125 (.bipush 7) 2 127 := ⟨by decide +kernel, rfl⟩
theorem d49_127 : Dc method_5_code 127 (.baload) 1 128 := ⟨by decide +kernel, rfl⟩
theorem d49_128 : Db method_5_code 128 (.if_icmp .eq 5) 5 131 133 := ⟨by decide +kernel, rfl, by decide, by decide⟩
theorem d49_95 : Dc method_5_code 95 (.iload_n 2) 1 96 := ⟨by decide +kernel, rfl⟩
theorem d49_96 : Dc method_5_code 96 (.bipush 6) 2 98 := ⟨by decide +kernel, rfl⟩
theorem d49_98 : Db method_5_code 98 (.if_icmp .le 16) 16 101 114 := ⟨by decide +kernel, rfl, by decide, by decide⟩
theorem d49_101 : Dc method_5_code 101 (.aload_n 0) 1 102 := ⟨by decide +kernel, rfl⟩
theorem d49_102 : Dc method_5_code 102 (.bipush 6) 2 104 := ⟨by decide +kernel, rfl⟩
theorem d49_104 : Dc method_5_code 104 (.baload) 1 105 := ⟨by decide +kernel, rfl⟩
theorem d49_105 : Dc method_5_code 105 (.aload_n 1) 1 106 := ⟨by decide +kernel, rfl⟩
theorem d49_106 : Dc method_5_code 106 (.bipush 6) 2 108 := ⟨by decide +kernel, rfl⟩
theorem d49_108 : Dc method_5_code 108 (.baload) 1 109 := ⟨by decide +kernel, rfl⟩
theorem d49_109 : Db method_5_code 109 (.if_icmp .eq 5) 5 112 114 := ⟨by decide +kernel, rfl, by decide, by decide⟩
theorem d49_79 : Dc method_5_code 79 (.iload_n 2) 1 80 := ⟨by decide +kernel, rfl⟩
theorem d49_80 : Dc method_5_code 80 (.iconst 5) 1 81 := ⟨by decide +kernel, rfl⟩
theorem d49_81 : Db method_5_code 81 (.if_icmp .le 14) 14 84 95 := ⟨by decide +kernel, rfl, by decide, by decide⟩
theorem d49_84 : Dc method_5_code 84 (.aload_n 0) 1 85 := ⟨by decide +kernel, rfl⟩
theorem d49_85 : Dc method_5_code 85 (.iconst 5) 1 86 := ⟨by decide +kernel, rfl⟩
theorem d49_86 : Dc method_5_code 86 (.baload) 1 87 := ⟨by decide +kernel, rfl⟩
theorem d49_87 : Dc method_5_code 87 (.aload_n 1) 1 88 := ⟨by decide +kernel, rfl⟩
theorem d49_88 : Dc method_5_code 88 (.iconst 5) 1 89 := ⟨by decide +kernel, rfl⟩
theorem d49_89 : Dc method_5_code 89 (.baload) 1 90 := ⟨by decide +kernel, rfl⟩
theorem d49_90 : Db method_5_code 90 (.if_icmp .eq 5) 5 93 95 := ⟨by decide +kernel, rfl, by decide, by decide⟩
theorem d49_63 : Dc method_5_code 63 (.iload_n 2) 1 64 := ⟨by decide +kernel, rfl⟩
theorem d49_64 : Dc method_5_code 64 (.iconst 4) 1 65 := ⟨by decide +kernel, rfl⟩
theorem d49_65 : Db method_5_code 65 (.if_icmp .le 14) 14 68 79 := ⟨by decide +kernel, rfl, by decide, by decide⟩
theorem d49_68 : Dc method_5_code 68 (.aload_n 0) 1 69 := ⟨by decide +kernel, rfl⟩
theorem d49_69 : Dc method_5_code 69 (.iconst 4) 1 70 := ⟨by decide +kernel, rfl⟩
theorem d49_70 : Dc method_5_code 70 (.baload) 1 71 := ⟨by decide +kernel, rfl⟩
theorem d49_71 : Dc method_5_code 71 (.aload_n 1) 1 72 := ⟨by decide +kernel, rfl⟩
theorem d49_72 : Dc method_5_code 72 (.iconst 4) 1 73 := ⟨by decide +kernel, rfl⟩
theorem d49_73 : Dc method_5_code 73 (.baload) 1 74 := ⟨by decide +kernel, rfl⟩
theorem d49_74 : Db method_5_code 74 (.if_icmp .eq 5) 5 77 79 := ⟨by decide +kernel, rfl, by decide, by decide⟩
theorem d49_47 : Dc method_5_code 47 (.iload_n 2) 1 48 := ⟨by decide +kernel, rfl⟩
theorem d49_48 : Dc method_5_code 48 (.iconst 3) 1 49 := ⟨by decide +kernel, rfl⟩
theorem d49_49 : Db method_5_code 49 (.if_icmp .le 14) 14 52 63 := ⟨by decide +kernel, rfl, by decide, by decide⟩
theorem d49_52 : Dc method_5_code 52 (.aload_n 0) 1 53 := ⟨by decide +kernel, rfl⟩
theorem d49_53 : Dc method_5_code 53 (.iconst 3) 1 54 := ⟨by decide +kernel, rfl⟩
theorem d49_54 : Dc method_5_code 54 (.baload) 1 55 := ⟨by decide +kernel, rfl⟩
theorem d49_55 : Dc method_5_code 55 (.aload_n 1) 1 56 := ⟨by decide +kernel, rfl⟩
theorem d49_56 : Dc method_5_code 56 (.iconst 3) 1 57 := ⟨by decide +kernel, rfl⟩
theorem d49_57 : Dc method_5_code 57 (.baload) 1 58 := ⟨by decide +kernel, rfl⟩
theorem d49_58 : Db method_5_code 58 (.if_icmp .eq 5) 5 61 63 := ⟨by decide +kernel, rfl, by decide, by decide⟩
theorem d49_31 : Dc method_5_code 31 (.iload_n 2) 1 32 := ⟨by decide +kernel, rfl⟩
theorem d49_32 : Dc method_5_code 32 (.iconst 2) 1 33 := ⟨by decide +kernel, rfl⟩
theorem d49_33 : Db method_5_code 33 (.if_icmp .le 14) 14 36 47 := ⟨by decide +kernel, rfl, by decide, by decide⟩
theorem d49_36 : Dc method_5_code 36 (.aload_n 0) 1 37 := ⟨by decide +kernel, rfl⟩
theorem d49_37 : Dc method_5_code 37 (.iconst 2) 1 38 := ⟨by decide +kernel, rfl⟩
theorem d49_38 : Dc method_5_code 38 (.baload) 1 39 := ⟨by decide +kernel, rfl⟩
theorem d49_39 : Dc method_5_code 39 (.aload_n 1) 1 40 := ⟨by decide +kernel, rfl⟩
theorem d49_40 : Dc method_5_code 40 (.iconst 2) 1 41 := ⟨by decide +kernel, rfl⟩
theorem d49_41 : Dc method_5_code 41 (.baload) 1 42 := ⟨by decide +kernel, rfl⟩
theorem d49_42 : Db method_5_code 42 (.if_icmp .eq 5) 5 45 47 := ⟨by decide +kernel, rfl, by decide, by decide⟩
theorem d49_15 : Dc method_5_code 15 (.iload_n 2) 1 16 := ⟨by decide +kernel, rfl⟩
theorem d49_16 : Dc method_5_code 16 (.iconst 1) 1 17 := ⟨by decide +kernel, rfl⟩
theorem d49_17 : Db method_5_code 17 (.if_icmp .le 14) 14 20 31 := ⟨by decide +kernel, rfl, by decide, by decide⟩
theorem d49_20 : Dc method_5_code 20 (.aload_n 0) 1 21 := ⟨by decide +kernel, rfl⟩
theorem d49_21 : Dc method_5_code 21 (.iconst 1) 1 22 := ⟨by decide +kernel, rfl⟩
theorem d49_22 : Dc method_5_code 22 (.baload) 1 23 := ⟨by decide +kernel, rfl⟩
theorem d49_23 : Dc method_5_code 23 (.aload_n 1) 1 24 := ⟨by decide +kernel, rfl⟩
theorem d49_24 : Dc method_5_code 24 (.iconst 1) 1 25 := ⟨by decide +kernel, rfl⟩
theorem d49_25 : Dc method_5_code 25 (.baload) 1 26 := ⟨by decide +kernel, rfl⟩
theorem d49_26 : Db method_5_code 26 (.if_icmp .eq 5) 5 29 31 := ⟨by decide +kernel, rfl, by decide, by decide⟩
theorem d49_0 : Dc method_5_code 0 (.iload_n 2) 1 1 := ⟨by decide +kernel, rfl⟩
theorem d49_1 : Db method_5_code 1 (.ifCond .le 14) 14 4 15 := ⟨by decide +kernel, rfl, by decide, by decide⟩
theorem d49_4 : Dc method_5_code 4 (.aload_n 0) 1 5 := ⟨by decide +kernel, rfl⟩
theorem d49_5 : Dc method_5_code 5 (.iconst 0) 1 6 := ⟨by decide +kernel, rfl⟩
theorem d49_6 : Dc method_5_code 6 (.baload) 1 7 := ⟨by decide +kernel, rfl⟩
theorem d49_7 : Dc method_5_code 7 (.aload_n 1) 1 8 := ⟨by decide +kernel, rfl⟩
theorem d49_8 : Dc method_5_code 8 (.iconst 0) 1 9 := ⟨by decide +kernel, rfl⟩
theorem d49_9 : Dc method_5_code 9 (.baload) 1 10 := ⟨by decide +kernel, rfl⟩
theorem d49_10 : Db method_5_code 10 (.if_icmp .eq 5) 5 13 15 := ⟨by decide +kernel, rfl, by decide, by decide⟩
theorem d50_0 : Dc jdk_78_method_5_code 0 (.aload_n 0) 1 1 := ⟨by decide +kernel, rfl⟩
theorem d50_1 : Dc jdk_78_method_5_code 1 (.invokespecial 1) 3 4 := ⟨by decide +kernel, rfl⟩
theorem d50_4 : Dc jdk_78_method_5_code 4 (.aload_n 0) 1 5 := ⟨by decide +kernel, rfl⟩
theorem d50_5 : Dc jdk_78_method_5_code 5 (.aload_n 0) 1 6 := ⟨by decide +kernel, rfl⟩
theorem d50_6 : Dc jdk_78_method_5_code 6 (.putfield 7) 3 9 := ⟨by decide +kernel, rfl⟩
theorem d50_9 : Dc jdk_78_method_5_code 9 (.aload_n 0) 1 10 := ⟨by decide +kernel, rfl⟩
theorem d50_10 : Dc jdk_78_method_5_code 10 (.getstatic 13) 3 13 := ⟨by decide +kernel, rfl⟩
theorem d50_13 : Dc jdk_78_method_5_code 13 (.putfield 17) 3 16 := ⟨by decide +kernel, rfl⟩
theorem d50_16 : Dc jdk_78_method_5_code 16 (.aload_n 0) 1 17 := ⟨by decide +kernel, rfl⟩
theorem d50_17 : Dc jdk_78_method_5_code 17 (.getstatic 20) 3 20 := ⟨by decide +kernel, rfl⟩
theorem d50_20 : Dc jdk_78_method_5_code 20 (.putfield 24) 3 23 := ⟨by decide +kernel, rfl⟩
theorem d50_23 : Dc jdk_78_method_5_code 23 (.iload 4) 2 25 := ⟨by decide +kernel, rfl⟩
theorem d50_25 : Db jdk_78_method_5_code 25 (.ifCond .eq 11) 11 28 36 := ⟨by decide +kernel, rfl, by decide, by decide⟩
theorem d50_36 : Dc jdk_78_method_5_code 36 (.aload_n 0) 1 37 := ⟨by decide +kernel, rfl⟩
theorem d50_37 : Dc jdk_78_method_5_code 37 (.aconst_null) 1 38 := ⟨by decide +kernel, rfl⟩
theorem d50_38 : Dc jdk_78_method_5_code 38 (.putfield 17) 3 41 := ⟨by decide +kernel, rfl⟩
theorem d50_41 : Dc jdk_78_method_5_code 41 (.aload_n 0) 1 42 := ⟨by decide +kernel, rfl⟩
theorem d50_42 : Dc jdk_78_method_5_code 42 (.aload_n 1) 1 43 := ⟨by decide +kernel, rfl⟩
theorem d50_43 : Dc jdk_78_method_5_code 43 (.putfield 31) 3 46 := ⟨by decide +kernel, rfl⟩
theorem d50_46 : Dc jdk_78_method_5_code 46 (.aload_n 0) 1 47 := ⟨by decide +kernel, rfl⟩
theorem d50_47 : Dc jdk_78_method_5_code 47 (.aload_n 2) 1 48 := ⟨by decide +kernel, rfl⟩
theorem d50_48 : Dc jdk_78_method_5_code 48 (.putfield 7) 3 51 := ⟨by decide +kernel, rfl⟩
theorem d50_51 : Dc jdk_78_method_5_code 51 (.iload_n 3) 1 52 := ⟨by decide +kernel, rfl⟩
theorem d50_52 : Db jdk_78_method_5_code 52 (.ifCond .ne 8) 8 55 60 := ⟨by decide +kernel, rfl, by decide, by decide⟩
theorem d50_55 : Dc jdk_78_method_5_code 55 (.aload_n 0) 1 56 := ⟨by decide +kernel, rfl⟩
theorem d50_56 : Dc jdk_78_method_5_code 56 (.aconst_null) 1 57 := ⟨by decide +kernel, rfl⟩
theorem d50_57 : Dc jdk_78_method_5_code 57 (.putfield 24) 3 60 := ⟨by decide +kernel, rfl⟩
theorem d50_60 : Dc jdk_78_method_5_code 60 (.return_) 1 61 := ⟨by decide +kernel, rfl⟩
theorem d51_0 : Dc jdk_59_method_5_code 0 (.aload_n 0) 1 1 := ⟨by decide +kernel, rfl⟩
theorem d51_1 : Dc jdk_59_method_5_code 1 (.aload_n 1) 1 2 := ⟨by decide +kernel, rfl⟩
theorem d51_2 : Dc jdk_59_method_5_code 2 (.aload_n 2) 1 3 := ⟨by decide +kernel, rfl⟩
theorem d51_3 : Dc jdk_59_method_5_code 3 (.iload_n 3) 1 4 := ⟨by decide +kernel, rfl⟩
theorem d51_4 : Dc jdk_59_method_5_code 4 (.iload 4) 2 6 := ⟨by decide +kernel, rfl⟩
theorem d51_6 : Dc jdk_59_method_5_code 6 (.invokespecial 16) 3 9 := ⟨by decide +kernel, rfl⟩
theorem d51_9 : Dc jdk_59_method_5_code 9 (.return_) 1 10 := ⟨by decide +kernel, rfl⟩
theorem d52_0 : Dc prog_15_method_1_code 0 (.aload_n 0) 1 1 := ⟨by decide +kernel, rfl⟩
theorem d52_1 : Dc prog_15_method_1_code 1 (.aload_n 2) 1 2 := ⟨by decide +kernel, rfl⟩
theorem d52_2 : Dc prog_15_method_1_code 2 (.aconst_null) 1 3 := ⟨by decide +kernel, rfl⟩
theorem d52_3 : Dc prog_15_method_1_code 3 (.iconst 0) 1 4 := ⟨by decide +kernel, rfl⟩
theorem d52_4 : Dc prog_15_method_1_code 4 (.iconst 0) 1 5 := ⟨by decide +kernel, rfl⟩
theorem d52_5 : Dc prog_15_method_1_code 5 (.invokespecial 1) 3 8 := ⟨by decide +kernel, rfl⟩
theorem d52_8 : Dc prog_15_method_1_code 8 (.aload_n 0) 1 9 := ⟨by decide +kernel, rfl⟩
theorem d52_9 : Dc prog_15_method_1_code 9 (.iload_n 1) 1 10 := ⟨by decide +kernel, rfl⟩
theorem d52_10 : Dc prog_15_method_1_code 10 (.putfield 7) 3 13 := ⟨by decide +kernel, rfl⟩
theorem d52_13 : Dc prog_15_method_1_code 13 (.return_) 1 14 := ⟨by decide +kernel, rfl⟩
theorem d53_0 : Dc jdk_78_method_6_code 0 (.aload_n 0) 1 1 := ⟨by decide +kernel, rfl⟩
theorem d53_1 : Dc jdk_78_method_6_code 1 (.getfield 31) 3 4 := ⟨by decide +kernel, rfl⟩
theorem d53_4 : Dc jdk_78_method_6_code 4 (.areturn) 1 5 := ⟨by decide +kernel, rfl⟩
theorem d54_0 : Dc prog_15_method_5_code 0 (.new 32) 3 3 := ⟨by decide +kernel, rfl⟩
theorem d54_3 : Dc prog_15_method_5_code 3 (.dup) 1 4 := ⟨by decide +kernel, rfl⟩
theorem d54_4 : Dc prog_15_method_5_code 4 (.invokespecial 34) 3 7 := ⟨by decide +kernel, rfl⟩
theorem d54_7 : Dc prog_15_method_5_code 7 (.aload_n 0) 1 8 := ⟨by decide +kernel, rfl⟩
theorem d54_8 : Dc prog_15_method_5_code 8 (.invokevirtual 47) 3 11 := ⟨by decide +kernel, rfl⟩
theorem d54_11 : Dc prog_15_method_5_code 11 (.invokevirtual 39) 3 14 := ⟨by decide +kernel, rfl⟩
theorem d54_14 : Dc prog_15_method_5_code 14 (.ldc 50) 2 16 := ⟨by decide +kernel, rfl⟩
theorem d54_16 : Dc prog_15_method_5_code 16 (.invokevirtual 39) 3 19 := ⟨by decide +kernel, rfl⟩
theorem d54_19 : Dc prog_15_method_5_code 19 (.invokevirtual 43) 3 22 := ⟨by decide +kernel, rfl⟩
theorem d54_22 : Dc prog_15_method_5_code 22 (.getstatic 52) 3 25 := ⟨by decide +kernel, rfl⟩
theorem d54_25 : Dc prog_15_method_5_code 25 (.invokevirtual 58) 3 28 := ⟨by decide +kernel, rfl⟩
theorem d54_28 : Dc prog_15_method_5_code 28 (.areturn) 1 29 := ⟨by decide +kernel, rfl⟩
theorem d55_0 : Dc code 0 (.iload_n 1) 1 1 := ⟨by decide +kernel, rfl⟩
theorem d55_1 : Dc code 1 (.iconst 3) 1 2 := ⟨by decide +kernel, rfl⟩
theorem d55_2 : Dc code 2 (.iand) 1 3 := ⟨by decide +kernel, rfl⟩
theorem d55_3 : Dc code 3 (.istore 5) 2 5 := ⟨by decide +kernel, rfl⟩
theorem d55_5 : Dc code 5 (.iload_n 1) 1 6 := ⟨by decide +kernel, rfl⟩
theorem d55_6 : Dc code 6 (.iconst 2) 1 7 := ⟨by decide +kernel, rfl⟩
theorem d55_7 : Dc code 7 (.iushr) 1 8 := ⟨by decide +kernel, rfl⟩
theorem d55_8 : Dc code 8 (.bipush 7) 2 10 := ⟨by decide +kernel, rfl⟩
theorem d55_10 : Dc code 10 (.iand) 1 11 := ⟨by decide +kernel, rfl⟩
theorem d55_172 : Dc code 172 (.aload 10) 2 174 := ⟨by decide +kernel, rfl⟩
theorem d55_174 : Dc code 174 (.iload 12) 2 176 := ⟨by decide +kernel, rfl⟩
theorem d55_176 : Dc code 176 (.bipush 10) 2 178 := ⟨by decide +kernel, rfl⟩
theorem d55_178 : Dc code 178 (.bastore) 1 179 := ⟨by decide +kernel, rfl⟩
theorem d55_179 : Dc code 179 (.iload 12) 2 181 := ⟨by decide +kernel, rfl⟩
theorem d55_181 : Dc code 181 (.iconst 1) 1 182 := ⟨by decide +kernel, rfl⟩
theorem d55_182 : Dc code 182 (.iadd) 1 183 := ⟨by decide +kernel, rfl⟩
theorem d55_183 : Dc code 183 (.istore 12) 2 185 := ⟨by decide +kernel, rfl⟩
theorem d55_185 : Dc code 185 (.new 22) 3 188 := ⟨by decide +kernel, rfl⟩
theorem d55_188 : Dc code 188 (.dup) 1 189 := ⟨by decide +kernel, rfl⟩
theorem d55_189 : Dc code 189 (.iload_n 0) 1 190 := ⟨by decide +kernel, rfl⟩
theorem d55_190 : Dc code 190 (.aload 13) 2 192 := ⟨by decide +kernel, rfl⟩
theorem d55_192 : Dc code 192 (.invokespecial 24) 3 195 := ⟨by decide +kernel, rfl⟩
theorem d55_195 : Dc code 195 (.invokevirtual 27) 3 198 := ⟨by decide +kernel, rfl⟩
theorem d55_198 : Dc code 198 (.astore 14) 2 200 := ⟨by decide +kernel, rfl⟩
theorem d55_200 : Dc code 200 (.aload 14) 2 202 := ⟨by decide +kernel, rfl⟩
theorem d55_202 : Db code 202 (.ifnull 11) 11 205 213 := ⟨by decide +kernel, rfl, by decide, by decide⟩
theorem d55_205 : Dc code 205 (.aload 14) 2 207 := ⟨by decide +kernel, rfl⟩
theorem d55_207 : Dc code 207 (.arraylength) 1 208 := ⟨by decide +kernel, rfl⟩
theorem d55_208 : Dc code 208 (.iload 12) 2 210 := ⟨by decide +kernel, rfl⟩
theorem d55_210 : Db code 210 (.if_icmp .eq 5) 5 213 215 := ⟨by decide +kernel, rfl, by decide, by decide⟩
theorem d55_215 : Dc code 215 (.aload 14) 2 217 := ⟨by decide +kernel, rfl⟩
theorem d55_217 : Dc code 217 (.aload 10) 2 219 := ⟨by decide +kernel, rfl⟩
theorem d55_219 : Dc code 219 (.iload 12) 2 221 := ⟨by decide +kernel, rfl⟩
theorem d55_221 : Dc code 221 (.invokestatic 31) 3 224 := ⟨by decide +kernel, rfl⟩
theorem d55_224 : Dc code 224 (.ireturn) 1 225 := ⟨by decide +kernel, rfl⟩
theorem d55_19 : Dc code 19 (.istore 6) 2 21 := ⟨by decide +kernel, rfl⟩
theorem d55_21 : Dc code 21 (.iload_n 2) 1 22 := ⟨by decide +kernel, rfl⟩
theorem d55_22 : Dc code 22 (.invokestatic 7) 3 25 := ⟨by decide +kernel, rfl⟩
theorem d55_25 : Dc code 25 (.istore 7) 2 27 := ⟨by decide +kernel, rfl⟩
theorem d55_27 : Dc code 27 (.iload_n 3) 1 28 := ⟨by decide +kernel, rfl⟩
theorem d55_28 : Dc code 28 (.invokestatic 7) 3 31 := ⟨by decide +kernel, rfl⟩
theorem d55_31 : Dc code 31 (.istore 8) 2 33 := ⟨by decide +kernel, rfl⟩
theorem d55_33 : Dc code 33 (.iload 4) 2 35 := ⟨by decide +kernel, rfl⟩
theorem d55_35 : Dc code 35 (.invokestatic 7) 3 38 := ⟨by decide +kernel, rfl⟩
theorem d55_38 : Dc code 38 (.istore 9) 2 40 := ⟨by decide +kernel, rfl⟩
theorem d55_40 : Dc code 40 (.bipush 10) 2 42 := ⟨by decide +kernel, rfl⟩
theorem d55_42 : Dc code 42 (.newarray .byte) 2 44 := ⟨by decide +kernel, rfl⟩
theorem d55_44 : Dc code 44 (.astore 10) 2 46 := ⟨by decide +kernel, rfl⟩
theorem d55_46 : Dc code 46 (.iload 5) 2 48 := ⟨by decide +kernel, rfl⟩
theorem d55_48 : Dc code 48 (.newarray .char) 2 50 := ⟨by decide +kernel, rfl⟩
theorem d55_50 : Dc code 50 (.astore 11) 2 52 := ⟨by decide +kernel, rfl⟩
theorem d55_52 : Dc code 52 (.iconst 0) 1 53 := ⟨by decide +kernel, rfl⟩
theorem d55_53 : Dc code 53 (.istore 12) 2 55 := ⟨by decide +kernel, rfl⟩
theorem d55_55 : Dc code 55 (.iload 6) 2 57 := ⟨by decide +kernel, rfl⟩
theorem d55_57 : Db code 57 (.ifCond .eq 36) 36 60 93 := ⟨by decide +kernel, rfl, by decide, by decide⟩
theorem d55_93 : Dc code 93 (.iload 5) 2 95 := ⟨by decide +kernel, rfl⟩
theorem d55_95 : Db code 95 (.ifCond .le 20) 20 98 115 := ⟨by decide +kernel, rfl, by decide, by decide⟩
theorem d55_115 : Dc code 115 (.iload 5) 2 117 := ⟨by decide +kernel, rfl⟩
theorem d55_117 : Dc code 117 (.iconst 1) 1 118 := ⟨by decide +kernel, rfl⟩
theorem d55_118 : Db code 118 (.if_icmp .le 20) 20 121 138 := ⟨by decide +kernel, rfl, by decide, by decide⟩
theorem d55_138 : Dc code 138 (.iload 5) 2 140 := ⟨by decide +kernel, rfl⟩
theorem d55_140 : Dc code 140 (.iconst 2) 1 141 := ⟨by decide +kernel, rfl⟩
theorem d55_141 : Db code 141 (.if_icmp .le 20) 20 144 161 := ⟨by decide +kernel, rfl, by decide, by decide⟩
theorem d55_161 : Dc code 161 (.new 17) 3 164 := ⟨by decide +kernel, rfl⟩
theorem d55_164 : Dc code 164 (.dup) 1 165 := ⟨by decide +kernel, rfl⟩
theorem d55_165 : Dc code 165 (.aload 11) 2 167 := ⟨by decide +kernel, rfl⟩
theorem d55_167 : Dc code 167 (.invokespecial 19) 3 170 := ⟨by decide +kernel, rfl⟩
theorem d55_170 : Dc code 170 (.astore 13) 2 172 := ⟨by decide +kernel, rfl⟩
theorem d55_98 : Dc code 98 (.aload 11) 2 100 := ⟨by decide +kernel, rfl⟩
theorem d55_100 : Dc code 100 (.iconst 0) 1 101 := ⟨by decide +kernel, rfl⟩
theorem d55_101 : Dc code 101 (.iload 7) 2 103 := ⟨by decide +kernel, rfl⟩
theorem d55_103 : Dc code 103 (.castore) 1 104 := ⟨by decide +kernel, rfl⟩
theorem d55_104 : Dc code 104 (.iload 7) 2 106 := ⟨by decide +kernel, rfl⟩
theorem d55_106 : Dc code 106 (.aload 10) 2 108 := ⟨by decide +kernel, rfl⟩
theorem d55_108 : Dc code 108 (.iload 12) 2 110 := ⟨by decide +kernel, rfl⟩
theorem d55_110 : Dc code 110 (.invokestatic 13) 3 113 := ⟨by decide +kernel, rfl⟩
theorem d55_113 : Dc code 113 (.istore 12) 2 115 := ⟨by decide +kernel, rfl⟩
theorem d55_121 : Dc code 121 (.aload 11) 2 123 := ⟨by decide +kernel, rfl⟩
theorem d55_123 : Dc code 123 (.iconst 1) 1 124 := ⟨by decide +kernel, rfl⟩
theorem d55_124 : Dc code 124 (.iload 8) 2 126 := ⟨by decide +kernel, rfl⟩
theorem d55_126 : Dc code 126 (.castore) 1 127 := ⟨by decide +kernel, rfl⟩
theorem d55_127 : Dc code 127 (.iload 8) 2 129 := ⟨by decide +kernel, rfl⟩
theorem d55_129 : Dc code 129 (.aload 10) 2 131 := ⟨by decide +kernel, rfl⟩
theorem d55_131 : Dc code 131 (.iload 12) 2 133 := ⟨by decide +kernel, rfl⟩
theorem d55_133 : Dc code 133 (.invokestatic 13) 3 136 := ⟨by decide +kernel, rfl⟩
theorem d55_136 : Dc code 136 (.istore 12) 2 138 := ⟨by decide +kernel, rfl⟩
theorem d55_144 : Dc code 144 (.aload 11) 2 146 := ⟨by decide +kernel, rfl⟩
theorem d55_146 : Dc code 146 (.iconst 2) 1 147 := ⟨by decide +kernel, rfl⟩
theorem d55_147 : Dc code 147 (.iload 9) 2 149 := ⟨by decide +kernel, rfl⟩
theorem d55_149 : Dc code 149 (.castore) 1 150 := ⟨by decide +kernel, rfl⟩
theorem d55_150 : Dc code 150 (.iload 9) 2 152 := ⟨by decide +kernel, rfl⟩
theorem d55_152 : Dc code 152 (.aload 10) 2 154 := ⟨by decide +kernel, rfl⟩
theorem d55_154 : Dc code 154 (.iload 12) 2 156 := ⟨by decide +kernel, rfl⟩
theorem d55_156 : Dc code 156 (.invokestatic 13) 3 159 := ⟨by decide +kernel, rfl⟩
theorem d55_159 : Dc code 159 (.istore 12) 2 161 := ⟨by decide +kernel, rfl⟩
theorem d55_60 : Dc code 60 (.aconst_null) 1 61 := ⟨by decide +kernel, rfl⟩
theorem d55_61 : Dc code 61 (.astore 13) 2 63 := ⟨by decide +kernel, rfl⟩
theorem d55_63 : Dc code 63 (.aload 10) 2 65 := ⟨by decide +kernel, rfl⟩
theorem d55_65 : Dc code 65 (.iconst 0) 1 66 := ⟨by decide +kernel, rfl⟩
theorem d55_66 : Dc code 66 (.bipush 110) 2 68 := ⟨by decide +kernel, rfl⟩
theorem d55_68 : Dc code 68 (.bastore) 1 69 := ⟨by decide +kernel, rfl⟩
theorem d55_69 : Dc code 69 (.aload 10) 2 71 := ⟨by decide +kernel, rfl⟩
theorem d55_71 : Dc code 71 (.iconst 1) 1 72 := ⟨by decide +kernel, rfl⟩
theorem d55_72 : Dc code 72 (.bipush 117) 2 74 := ⟨by decide +kernel, rfl⟩
theorem d55_74 : Dc code 74 (.bastore) 1 75 := ⟨by decide +kernel, rfl⟩
theorem d55_75 : Dc code 75 (.aload 10) 2 77 := ⟨by decide +kernel, rfl⟩
theorem d55_77 : Dc code 77 (.iconst 2) 1 78 := ⟨by decide +kernel, rfl⟩
theorem d55_78 : Dc code 78 (.bipush 108) 2 80 := ⟨by decide +kernel, rfl⟩
theorem d55_80 : Dc code 80 (.bastore) 1 81 := ⟨by decide +kernel, rfl⟩
theorem d55_81 : Dc code 81 (.aload 10) 2 83 := ⟨by decide +kernel, rfl⟩
theorem d55_83 : Dc code 83 (.iconst 3) 1 84 := ⟨by decide +kernel, rfl⟩
theorem d55_84 : Dc code 84 (.bipush 108) 2 86 := ⟨by decide +kernel, rfl⟩
theorem d55_86 : Dc code 86 (.bastore) 1 87 := ⟨by decide +kernel, rfl⟩
theorem d55_87 : Dc code 87 (.iconst 4) 1 88 := ⟨by decide +kernel, rfl⟩
theorem d55_88 : Dc code 88 (.istore 12) 2 90 := ⟨by decide +kernel, rfl⟩
theorem d55_90 : Db code 90 (.goto 82) 82 93 172 := ⟨by decide +kernel, rfl, by decide, by decide⟩
theorem d55_11 : Db code 11 (.ifCond .ne 7) 7 14 18 := ⟨by decide +kernel, rfl, by decide, by decide⟩
theorem d55_14 : Dc code 14 (.iconst 1) 1 15 := ⟨by decide +kernel, rfl⟩
theorem d55_15 : Db code 15 (.goto 4) 4 18 19 := ⟨by decide +kernel, rfl, by decide, by decide⟩
theorem d55_18 : Dc code 18 (.iconst 0) 1 19 := ⟨by decide +kernel, rfl⟩
theorem strAtoms {Z : State} {a0 : Array Value} (hw : HW Z a0) : ∀ a ∈ Bundle.stringAtoms, a.before a0 Z = true := fun d hd => by
  simp only [Bundle.stringAtoms, List.mem_cons, List.not_mem_nil, or_false] at hd
  rcases hd with rfl | rfl | rfl | rfl | rfl | rfl | rfl
  · first | exact (w59 hw) | exact (w98 hw) | exact (w6 hw) | exact (w99 hw) | exact (w100 hw) | exact (w101 hw) | exact (w102 hw)
  · first | exact (w59 hw) | exact (w98 hw) | exact (w6 hw) | exact (w99 hw) | exact (w100 hw) | exact (w101 hw) | exact (w102 hw)
  · first | exact (w59 hw) | exact (w98 hw) | exact (w6 hw) | exact (w99 hw) | exact (w100 hw) | exact (w101 hw) | exact (w102 hw)
  · first | exact (w59 hw) | exact (w98 hw) | exact (w6 hw) | exact (w99 hw) | exact (w100 hw) | exact (w101 hw) | exact (w102 hw)
  · first | exact (w59 hw) | exact (w98 hw) | exact (w6 hw) | exact (w99 hw) | exact (w100 hw) | exact (w101 hw) | exact (w102 hw)
  · first | exact (w59 hw) | exact (w98 hw) | exact (w6 hw) | exact (w99 hw) | exact (w100 hw) | exact (w101 hw) | exact (w102 hw)
  · first | exact (w59 hw) | exact (w98 hw) | exact (w6 hw) | exact (w99 hw) | exact (w100 hw) | exact (w101 hw) | exact (w102 hw)

def Sts (Z : State) : Prop := (∃ cv : Int32, Sta Z Z.heap "java/lang/String" "COMPACT_STRINGS" "Z" (.int cv) ∧ ¬ cv = 0) ∧ (∃ fv : Value, Sta Z Z.heap "jdk/internal/util/Preconditions" "SIOOBE_FORMATTER" "Ljava/util/function/BiFunction;" fv ∧ fv.isRef = true) ∧ (Sta Z Z.heap "java/lang/StringUTF16" "$assertionsDisabled" "Z" (.int 1) ∧ Sta Z Z.heap "java/lang/StringUTF16" "HI_BYTE_SHIFT" "I" (.int 0) ∧ Sta Z Z.heap "java/lang/StringUTF16" "LO_BYTE_SHIFT" "I" (.int 8)) ∧ (∃ u : Addr, Sta Z Z.heap "java/nio/charset/StandardCharsets" "UTF_8" "Ljava/nio/charset/Charset;" (.ref u) ∧ Sta Z Z.heap "sun/nio/cs/UTF_8" "INSTANCE" "Lsun/nio/cs/UTF_8;" (.ref u)) ∧ (∃ us ss : Value, Sta Z Z.heap "java/lang/Throwable" "UNASSIGNED_STACK" "[Ljava/lang/StackTraceElement;" us ∧ us.isRef = true ∧ Sta Z Z.heap "java/lang/Throwable" "SUPPRESSED_SENTINEL" "Ljava/util/List;" ss ∧ ss.isRef = true) ∧ True
/-! own kit, part 7: private calls, calls upward, another method selected, clone, arrays of references -/
theorem k_notFace {args : Array Value} {s : State} {C : String} {y y' : MethodName} (h : (Cond.selects C y' y').before args s = true) (hc : y'.cls = y.cls) : NotFace s y := fun r0 h0 => by
  obtain ⟨c2, r2, m2, -, -, q3, -, kP, hkP, hkPi⟩ := Cond.selects_spec h
  have e1 := findClass_of_methodNamed q3
  have e2 := findClass_of_methodNamed h0
  rw [hc] at e1
  have e3 := Option.some.inj (e1.symm.trans e2)
  exact ⟨kP, by rw [← e3]; exact hkP, hkPi⟩
theorem k_declares {Z : State} {a0 : Array Value} {y : MethodName} {bytes : ByteArray} {n : Nat} {r : Option FieldType} (w4 : (Cond.instanceMethod y).before a0 Z = true) (w6 : (Cond.code y bytes n r).before a0 Z = true) : (Cond.declares y).before a0 Z = true := by
  obtain ⟨mk, methM, hnamed, hmethM, hstM, habM⟩ := Cond.instanceMethod_spec w4
  obtain ⟨m2, cM, q1, -, -, -, -, -, -, hsig⟩ := Cond.code_spec hnamed w6
  cases hmethM.symm.trans q1
  simp [Cond.before, Cond.holds, Cond.value, hnamed, hmethM, hstM, hsig]
theorem k_same {Z : State} {a0 : Array Value} {y y' : MethodName} {C : String} (w4 : (Cond.instanceMethod y).before a0 Z = true) (w3 : (Cond.selects C y' y').before a0 Z = true) (hc : y'.cls = y.cls) (hy : noHandle y) : (Cond.sameMethod y.cls y.cls y.name y.desc).before a0 Z = true := by
  obtain ⟨mk, methM, hnamed, hmethM, hstM, habM⟩ := Cond.instanceMethod_spec w4
  obtain ⟨kr, h1, h2⟩ := k_notFace w3 hc mk hnamed
  have e := findClass_of_methodNamed hnamed
  have f := State.methodFound?_of_named hnamed hy
  simp [Cond.before, Cond.holds, Cond.value, e, f, hnamed, h1, h2]
theorem k_selects {Z : State} {a0 : Array Value} {y : MethodName} {n : Nat} (wp : (Cond.privateMethod y).before a0 Z = true) (w4 : (Cond.instanceMethod y).before a0 Z = true) (wi : (Cond.instantiable y.cls n).before a0 Z = true) (hy : noHandle y) : (Cond.selects y.cls y y).before a0 Z = true := by
  obtain ⟨mk, methM, hnamed, hmethM, hstM, habM⟩ := Cond.instanceMethod_spec w4
  obtain ⟨c, k, g1, g2, g3, g4, -⟩ := Cond.instantiable_spec wi
  have e := findClass_of_methodNamed hnamed
  cases g1.symm.trans e
  have f := State.methodFound?_of_named hnamed hy
  have hs : selectMethod {} Z.vm mk.cls mk = .method mk := selectMethod_private hmethM (Cond.privateMethod_at wp mk methM hnamed hmethM)
  have hi : k.isInterface = false := (Bool.or_eq_false_iff.mp g4).1
  simp [Cond.before, Cond.holds, Cond.value, e, f, hnamed, hs, g2, hi]
section Calls7
variable {nw : Bool} {l : Launch} {Z : State} {EL : List (String × Nat)} {own : String} {bytes : ByteArray} {maxL : Nat} {ret : Option FieldType} {mnm : String} {R : Room} {h0 : Heap} {B0 : BP} {ws : List Addr} {Q : QT} {x : Cx} {T : State} {h : Heap} {B : BP} {k n : Nat} {a0 : Array Value} {pc pc' : Nat} {Ls : Array Slot} {st : List Value}
theorem g_callW (X : Wk nw l Z EL own bytes maxL ret mnm R h0 B0 ws Q x T h B k n) {D : String} {y z y' : MethodName} {C' : String} {idx : Nat} {bytes' : ByteArray} {maxL' : Nat} {ret' : Option FieldType} {rm : Room} {ws' : List Addr} {Q' : QT} {ps : List FieldType} {rt : Option FieldType} (hd : Dc bytes pc (.invokevirtual idx) 3 pc')
    (w1 : (Cond.methodLink own idx y).before a0 Z = true) (w2 : (Cond.declares y).before a0 Z = true) (w3 : (Cond.selects D y z).before a0 Z = true) (w4 : (Cond.instanceMethod z).before a0 Z = true) (w5 : (Cond.initialized z.cls).before a0 Z = true) (w6 : (Cond.code z bytes' maxL' ret').before a0 Z = true) (wf : (Cond.selects C' y' y').before a0 Z = true) (hcf : y'.cls = y.cls) (hy : noHandle y) (hpd : parseMethodDescriptor y.desc = some ⟨ps, rt⟩)
    (a : Addr) (argsL rest : List Value) (W : Nat) (E : Exa Z h a D) (C : Con nw l Z EL z bytes' maxL' ret' [] rm (.ref a :: argsL).toArray h B ws' Q') (hlen : argsL.length = ps.length) (hst : st = argsL.reverse ++ .ref a :: rest) (hsz : Ls.size = maxL) (hW : (rest.map fun v => v.category).sum ≤ W) (hf : rm.frames + 1 ≤ R.frames) (hl : W + (maxL' + 11) + rm.locals ≤ R.locals) (k' n' : Nat) (ek : k + rm.cells = k') (en : n + rm.slots = n') (hc : k' ≤ R.cells) (hs : n' ≤ R.slots)
    (hws : ∀ z ∈ ws', ¬ B z ∧ Z.heap.size ≤ z ∧ (z ∈ ws ∨ h0.size ≤ z))
    (K : ∀ v T' h' B', Wk nw l Z EL own bytes maxL ret mnm R h0 B0 ws Q x T' h' B' k' n' → Keep h h' ws' → k_more B B' h.size → Q' v h' B' → Go x (T'.setTop (mkF x.m pc' Ls (v.toList ++ rest)))) : Go x (T.setTop (mkF x.m pc Ls st)) := by
  subst ek en
  obtain ⟨S, vm0, k0, locs, X, eT, hS, hk, hZ, hown, hI, hFr, hK, hM, hN⟩ := X
  obtain ⟨hd, rfl⟩ := hd
  obtain ⟨cq, kq, qa, qb, qc⟩ := isOf (s := x.s.setVm vm0) hZ eT E
  obtain ⟨v, vm₁, ⟨T', L', k'', n''⟩, -, X', hS', hgr, ⟨L, B', q1, q2, q3, q4, e1, e2, e3, q5, q6⟩, stp⟩ := X.virtualBackS S.1 (y := y) (z := z) hown (mvT (s := x.s.setVm vm0) hZ w1) (mvT (s := x.s.setVm vm0) hZ w2) (k_notFace (args := #[]) (mvT (s := x.s.setVm vm0) hZ wf) hcf) (mvT (s := x.s.setVm vm0) hZ w3) (mvT (s := x.s.setVm vm0) hZ w4) hy (conBack (W := W) C hZ w6 w5 hf hl hI) qa qc (g := mkF x.m pc Ls st) rfl (by rw [S.2.2.1]; exact hsz) (Steps.refl _) (lenOf hpd hlen) hst (by show 2 * 0 + _ ≤ _; omega) (S.2.1 ▸ hd) (fun _ _ => ⟨rfl, eT, hc, hs⟩)
  dsimp only [Pt.U, Pt.locs, Pt.cells, Pt.slots] at X' hS' hgr q1 q2 q5 q6 e1 e2 e3 stp
  subst e1 e2 e3
  exact (K v T' _ B' (Wk.called q2 hws q3 q4 q5 S X' rfl hS hk hS' hZ hown hFr hK hM hN q6) q2 q3 q1).from fun t q => stp.trans q
theorem g_callP (X : Wk nw l Z EL own bytes maxL ret mnm R h0 B0 ws Q x T h B k n) {D : String} {y : MethodName} {idx : Nat} {bytes' : ByteArray} {maxL' : Nat} {ret' : Option FieldType} {rm : Room} {ws' : List Addr} {Q' : QT} {ps : List FieldType} {rt : Option FieldType} (hd : Dc bytes pc (.invokevirtual idx) 3 pc')
    (w1 : (Cond.methodLink own idx y).before a0 Z = true) (w3 : (Cond.selects D y y).before a0 Z = true) (w4 : (Cond.instanceMethod y).before a0 Z = true) (w5 : (Cond.initialized y.cls).before a0 Z = true) (w6 : (Cond.code y bytes' maxL' ret').before a0 Z = true) (hy : noHandle y) (hpd : parseMethodDescriptor y.desc = some ⟨ps, rt⟩)
    (a : Addr) (argsL rest : List Value) (W : Nat) (E : Exa Z h a D) (C : Con nw l Z EL y bytes' maxL' ret' [] rm (.ref a :: argsL).toArray h B ws' Q') (hlen : argsL.length = ps.length) (hst : st = argsL.reverse ++ .ref a :: rest) (hsz : Ls.size = maxL) (hW : (rest.map fun v => v.category).sum ≤ W) (hf : rm.frames + 1 ≤ R.frames) (hl : W + (maxL' + 11) + rm.locals ≤ R.locals) (k' n' : Nat) (ek : k + rm.cells = k') (en : n + rm.slots = n') (hc : k' ≤ R.cells) (hs : n' ≤ R.slots)
    (hws : ∀ z ∈ ws', ¬ B z ∧ Z.heap.size ≤ z ∧ (z ∈ ws ∨ h0.size ≤ z))
    (K : ∀ v T' h' B', Wk nw l Z EL own bytes maxL ret mnm R h0 B0 ws Q x T' h' B' k' n' → Keep h h' ws' → k_more B B' h.size → Q' v h' B' → Go x (T'.setTop (mkF x.m pc' Ls (v.toList ++ rest)))) : Go x (T.setTop (mkF x.m pc Ls st)) :=
  g_callV X hd w1 (k_declares w4 w6) w3 w4 w5 w6 hy hpd a argsL rest W E C hlen hst hsz hW hf hl k' n' ek en hc hs hws K
theorem g_callU (X : Wk nw l Z EL own bytes maxL ret mnm R h0 B0 ws Q x T h B k n) {D : String} {y y' : MethodName} {C' : String} {idx : Nat} {bytes' : ByteArray} {maxL' : Nat} {ret' : Option FieldType} {rm : Room} {ws' : List Addr} {Q' : QT} {ps : List FieldType} {rt : Option FieldType} (hd : Dc bytes pc (.invokespecial idx) 3 pc')
    (w1 : (Cond.methodLink own idx y).before a0 Z = true) (w2 : (Cond.superclass own y.cls).before a0 Z = true) (w3 : (Cond.selects C' y' y').before a0 Z = true) (hcf : y'.cls = y.cls) (hni : y.name ≠ "<init>") (w4 : (Cond.instanceMethod y).before a0 Z = true) (w5 : (Cond.initialized y.cls).before a0 Z = true) (w6 : (Cond.code y bytes' maxL' ret').before a0 Z = true) (hy : noHandle y) (hpd : parseMethodDescriptor y.desc = some ⟨ps, rt⟩)
    (a : Addr) (argsL rest : List Value) (W : Nat) (E : Exa Z h a D) (C : Con nw l Z EL y bytes' maxL' ret' [] rm (.ref a :: argsL).toArray h B ws' Q') (hlen : argsL.length = ps.length) (hst : st = argsL.reverse ++ .ref a :: rest) (hsz : Ls.size = maxL) (hW : (rest.map fun v => v.category).sum ≤ W) (hf : rm.frames + 1 ≤ R.frames) (hl : W + (maxL' + 11) + rm.locals ≤ R.locals) (k' n' : Nat) (ek : k + rm.cells = k') (en : n + rm.slots = n') (hc : k' ≤ R.cells) (hs : n' ≤ R.slots)
    (hws : ∀ z ∈ ws', ¬ B z ∧ Z.heap.size ≤ z ∧ (z ∈ ws ∨ h0.size ≤ z))
    (K : ∀ v T' h' B', Wk nw l Z EL own bytes maxL ret mnm R h0 B0 ws Q x T' h' B' k' n' → Keep h h' ws' → k_more B B' h.size → Q' v h' B' → Go x (T'.setTop (mkF x.m pc' Ls (v.toList ++ rest)))) : Go x (T.setTop (mkF x.m pc Ls st)) := by
  subst ek en
  obtain ⟨S, vm0, k0, locs, X, eT, hS, hk, hZ, hown, hI, hFr, hK, hM, hN⟩ := X
  obtain ⟨hd, rfl⟩ := hd
  obtain ⟨v, vm₁, ⟨T', L', k'', n''⟩, -, X', hS', hgr, ⟨L, B', q1, q2, q3, q4, e1, e2, e3, q5, q6⟩, stp⟩ := RoadKit.superBackS X S.1 hZ hown w1 (k_same w4 w3 hcf hy) w4 w2 hni (conBack (W := W) C hZ w6 w5 hf hl hI) eT (Ins.self E) (g := mkF x.m pc Ls st) rfl (by rw [S.2.2.1]; exact hsz) w6 (lenOf hpd hlen) hst (by show 2 * 0 + _ ≤ _; omega) (S.2.1 ▸ hd) (fun _ _ => ⟨rfl, eT, hc, hs⟩)
  dsimp only [Pt.U, Pt.locs, Pt.cells, Pt.slots] at X' hS' hgr q1 q2 q5 q6 e1 e2 e3 stp
  subst e1 e2 e3
  exact (K v T' _ B' (Wk.called q2 hws q3 q4 q5 S X' rfl hS hk hS' hZ hown hFr hK hM hN q6) q2 q3 q1).from fun t q => stp.trans q

theorem g_clone (X : Wk nw l Z EL own bytes maxL ret mnm R h0 B0 ws Q x T h B k n) {ad : String} {idx : Nat} {ty : FieldType} {vs : List Value} (hd : Dc bytes pc (.invokevirtual idx) 3 pc')
    (w1 : (Cond.methodLink own idx ⟨ad, "clone", "()Ljava/lang/Object;"⟩).before a0 Z = true) (w2 : (Cond.sameMethod ad "java/lang/Object" "clone" "()Ljava/lang/Object;").before a0 Z = true) (w3 : (Cond.native ⟨"java/lang/Object", "clone", "()Ljava/lang/Object;"⟩).before a0 Z = true)
    (w4 : (Cond.instanceMethod ⟨"java/lang/Object", "clone", "()Ljava/lang/Object;"⟩).before a0 Z = true) (w5 : (Cond.selects ad ⟨ad, "clone", "()Ljava/lang/Object;"⟩ ⟨"java/lang/Object", "clone", "()Ljava/lang/Object;"⟩).before a0 Z = true) (w6 : (Cond.castable ad "java/lang/Cloneable").before a0 Z = true)
    {a : Addr} (A : Ay Z h a ty vs) (E : Exa Z h a ad) (W cap : Nat) (hsz : Ls.size = maxL) (hW : (st.map fun v => v.category).sum ≤ W) (hf : 1 ≤ R.frames) (hl : W + 14 ≤ R.locals) (hcap : vs.length ≤ cap) (k' n' : Nat) (ek : k + 1 = k') (en : n + cap = n') (hc : k' ≤ R.cells) (hs : n' ≤ R.slots)
    (K : ∀ T' h' b, Wk nw l Z EL own bytes maxL ret mnm R h0 B0 ws Q x T' h' B k' n' → Ext h h' → b = h.size → ¬ B b → Ay Z h' b ty vs → Exa Z h' b ad → Go x (T'.setTop (mkF x.m pc' Ls (.ref b :: st)))) : Go x (T.setTop (mkF x.m pc Ls (.ref a :: st))) := by
  have hB := X.fresh
  subst ek en
  obtain ⟨S, vm0, k0, locs, X, eT, hS, hk, hZ, hown, hI, hFr, hK, hM, hN⟩ := X
  obtain ⟨hd, rfl⟩ := hd
  obtain ⟨c, A, e, hlen, hfit⟩ := A
  subst e
  have FC : FitC Z c := fitC_of A fun i hi v hv => hfit v (by obtain ⟨_, e⟩ := Array.getElem?_eq_some_iff.mp hv; rw [← e]; exact Array.getElem_mem_toList _)
  obtain ⟨T', h', X', e', Ex, A', E', stp⟩ := cloneA X S.1 hZ hown w1 w2 w3 w4 w5 w6 eT A E FC (g := mkF x.m pc Ls (.ref a :: st)) rfl (by rw [S.2.2.1]; exact hsz) rfl (S.2.1 ▸ hd) hf (W := W) (by show 2 * 0 + _ ≤ _; omega) hl (cap := cap) (by simpa using hcap) hc hs
  exact (K T' h' _ ⟨S, vm0, k0, locs, X', e', hS, Nat.le_trans hk Ex.1, hZ, hown, hI.ext Ex, hFr, hK.ext Ex, hM, hN⟩ Ex rfl hB ⟨_, A', rfl, hlen, hfit⟩ E').from stp
theorem g_newarrayE (X : Wk nw l Z EL own bytes maxL ret mnm R h0 B0 ws Q x T h B k n) {aty : ArrayType} {ty : FieldType} (hd : Dc bytes pc (.newarray aty) 2 pc') (hty : newarray.typeOf aty = ty) {ad : String} (had : "[" ++ (newarray.typeOf aty).toString = ad) (w : (Cond.arrayClass ty).before a0 Z = true) {j : Int32} (len cap : Nat) (hj : j = Int32.ofNat len) (hcap : len ≤ cap) (hbig : cap * 8 ≤ 536870912) (k' n' : Nat) (ek : k + 1 = k') (en : n + cap = n') (hc : k' ≤ R.cells) (hs : n' ≤ R.slots)
    (K : ∀ T' h' a, Wk nw l Z EL own bytes maxL ret mnm R h0 B0 ws Q x T' h' B k' n' → Ext h h' → a = h.size → ¬ B a → Ay Z h' a ty (List.replicate len (defaultValue ty)) → Exa Z h' a ad → Go x (T'.setTop (mkF x.m pc' Ls (.ref a :: st)))) : Go x (T.setTop (mkF x.m pc Ls (.int j :: st))) := by
  have hB := X.fresh
  subst hty hj ek en
  obtain ⟨S, vm0, k0, locs, X, eT, hS, hk, hZ, hown, hI, hFr, hK, hM, hN⟩ := X
  obtain ⟨hd, rfl⟩ := hd
  have hlt : len < 2 ^ 31 := by omega
  obtain ⟨q1, q2⟩ := i32_nat hlt
  obtain ⟨T', h', cA, X', e', E, A, Ea, stp⟩ := newPE X S.1 hZ w eT (g := mkF x.m pc Ls (.int (Int32.ofNat len) :: st)) rfl (S.2.1 ▸ hd) rfl q2 (cap := cap) (by rw [q1]; exact hcap) hbig hc hs had
  refine (K T' h' _ ⟨S, vm0, k0, locs, X', e', hS, Nat.le_trans hk E.1, hZ, hown, hI.ext E, hFr, hK.ext E, hM, hN⟩ E rfl hB ⟨_, A, ?_, by simpa using hlt, ?_⟩ Ea).from stp
  · simp [newA, q1]
  · intro v hv
    rw [(List.mem_replicate.mp hv).2]
    cases aty <;> rfl
theorem g_anewarray (X : Wk nw l Z EL own bytes maxL ret mnm R h0 B0 ws Q x T h B k n) {C : String} {idx : Nat} (hd : Dc bytes pc (.anewarray idx) 3 pc') {ad : String} (had : "[" ++ (FieldType.object C).toString = ad) (w1 : (Cond.classLink own idx C).before a0 Z = true) (w2 : (Cond.arrayOver (.object C)).before a0 Z = true) {j : Int32} (len cap : Nat) (hj : j = Int32.ofNat len) (hcap : len ≤ cap) (hbig : cap * 8 ≤ 536870912) (k' n' : Nat) (ek : k + 1 = k') (en : n + cap = n') (hc : k' ≤ R.cells) (hs : n' ≤ R.slots)
    (K : ∀ T' h' a, Wk nw l Z EL own bytes maxL ret mnm R h0 B0 ws Q x T' h' B k' n' → Ext h h' → a = h.size → ¬ B a → Ay Z h' a (.object C) (List.replicate len Value.null) → Exa Z h' a ad → Go x (T'.setTop (mkF x.m pc' Ls (.ref a :: st)))) : Go x (T.setTop (mkF x.m pc Ls (.int j :: st))) := by
  have hB := X.fresh
  subst hj ek en
  obtain ⟨S, vm0, k0, locs, X, eT, hS, hk, hZ, hown, hI, hFr, hK, hM, hN⟩ := X
  obtain ⟨hd, rfl⟩ := hd
  have hlt : len < 2 ^ 31 := by omega
  obtain ⟨q1, q2⟩ := i32_nat hlt
  obtain ⟨T', h', cA, X', e', E, A, Ea, -, stp⟩ := newRE X S.1 hZ hown w1 w2 eT (g := mkF x.m pc Ls (.int (Int32.ofNat len) :: st)) rfl (S.2.1 ▸ hd) rfl q2 (cap := cap) (by rw [q1]; exact hcap) hbig hc hs had
  refine (K T' h' _ ⟨S, vm0, k0, locs, X', e', hS, Nat.le_trans hk E.1, hZ, hown, hI.ext E, hFr, hK.ext E, hM, hN⟩ E rfl hB ⟨_, A, ?_, by simpa using hlt, ?_⟩ Ea).from stp
  · simp [newA, q1]; exact Or.inr rfl
  · intro v hv
    rw [(List.mem_replicate.mp hv).2]
    rfl
theorem k_ovr {Z : State} {a0 : Array Value} {h : Heap} {a : Addr} {C ad : String} {cell : Cell} (E : Exa Z h a ad) (had : "[" ++ (FieldType.object C).toString = ad) (w2 : (Cond.arrayOver (.object C)).before a0 Z = true) (hc : h[a]? = some cell) : Ovr Z cell.cls C := by
  obtain ⟨comp, c, k, q1, -, q3, q4, q5⟩ := Cond.arrayOver_spec w2
  obtain ⟨cell', k', e1, e2, -⟩ := E
  cases hc.symm.trans e1
  rw [had] at q5
  have := Option.some.inj (e2.symm.trans q5)
  exact ⟨k, comp, by rw [this]; exact q3, q4, q1⟩
theorem g_aastore (X : Wk nw l Z EL own bytes maxL ret mnm R h0 B0 ws Q x T h B k n) (hd : Dc bytes pc .aastore 1 pc') {a y : Addr} {C ad : String} {vs : List Value} (A : Ay Z h a (.object C) vs) (E : Exa Z h a ad) (had : "[" ++ (FieldType.object C).toString = ad) (w2 : (Cond.arrayOver (.object C)).before a0 Z = true) (I : Ins Z h y C true) {j : Int32} (i : Nat) (hj : j = Int32.ofNat i) (hi : i < vs.length) (hB : ¬ B a) (hz : Z.heap.size ≤ a) (hw : a ∈ ws ∨ h0.size ≤ a)
    (K : ∀ T' h', Wk nw l Z EL own bytes maxL ret mnm R h0 B0 ws Q x T' h' B k n → Keep h h' [a] → Ay Z h' a (.object C) (vs.set i (.ref y)) → Go x (T'.setTop (mkF x.m pc' Ls st))) : Go x (T.setTop (mkF x.m pc Ls (.ref y :: .int j :: .ref a :: st))) := by
  subst hj
  obtain ⟨S, vm0, k0, locs, X, eT, hS, hk, hZ, hown, hI, hFr, hK, hM, hN⟩ := X
  obtain ⟨hd, rfl⟩ := hd
  obtain ⟨c, A, h1, h2⟩ := A.set hi (v := .ref y) rfl
  obtain ⟨T', h', X', e', Wr', stp⟩ := stR X S.1 hZ eT A h1 rfl (Sto.of A (k_ovr E had w2 A.1) I) (g := mkF x.m pc Ls (.ref y :: .int (Int32.ofNat i) :: .ref a :: st)) rfl rfl (S.2.1 ▸ hd)
  exact (K T' h' (Wk.wrote Wr' hB hz hw S X' e' hS hk hZ hown hI hFr hK hM hN) (Keep.of_wr Wr') (h2 h' Wr')).from stp
end Calls7
/-! own kit, part 8: a call whose method is inherited by the class that the entry names -/
section Calls8
variable {nw : Bool} {l : Launch} {Z : State} {EL : List (String × Nat)} {own : String} {bytes : ByteArray} {maxL : Nat} {ret : Option FieldType} {mnm : String} {R : Room} {h0 : Heap} {B0 : BP} {ws : List Addr} {Q : QT} {x : Cx} {T : State} {h : Heap} {B : BP} {k n : Nat} {a0 : Array Value} {pc pc' : Nat} {Ls : Array Slot} {st : List Value}
theorem g_callM (X : Wk nw l Z EL own bytes maxL ret mnm R h0 B0 ws Q x T h B k n) {D owner : String} {y z : MethodName} {idx : Nat} {bytes' : ByteArray} {maxL' : Nat} {ret' : Option FieldType} {rm : Room} {ws' : List Addr} {Q' : QT} {ps : List FieldType} {rt : Option FieldType} (hd : Dc bytes pc (.invokevirtual idx) 3 pc')
    (w1 : (Cond.methodLink own idx y).before a0 Z = true) (wsm : (Cond.sameMethod y.cls owner y.name y.desc).before a0 Z = true) (wd : (Cond.declares ⟨owner, y.name, y.desc⟩).before a0 Z = true) (w3 : (Cond.selects D y z).before a0 Z = true) (w4 : (Cond.instanceMethod z).before a0 Z = true) (w5 : (Cond.initialized z.cls).before a0 Z = true) (w6 : (Cond.code z bytes' maxL' ret').before a0 Z = true) (ho : owner ≠ "java/lang/invoke/MethodHandle" ∧ owner ≠ "java/lang/invoke/VarHandle") (hpd : parseMethodDescriptor y.desc = some ⟨ps, rt⟩)
    (a : Addr) (argsL rest : List Value) (W : Nat) (E : Exa Z h a D) (C : Con nw l Z EL z bytes' maxL' ret' [] rm (.ref a :: argsL).toArray h B ws' Q') (hlen : argsL.length = ps.length) (hst : st = argsL.reverse ++ .ref a :: rest) (hsz : Ls.size = maxL) (hW : (rest.map fun v => v.category).sum ≤ W) (hf : rm.frames + 1 ≤ R.frames) (hl : W + (maxL' + 11) + rm.locals ≤ R.locals) (k' n' : Nat) (ek : k + rm.cells = k') (en : n + rm.slots = n') (hc : k' ≤ R.cells) (hs : n' ≤ R.slots)
    (hws : ∀ z ∈ ws', ¬ B z ∧ Z.heap.size ≤ z ∧ (z ∈ ws ∨ h0.size ≤ z))
    (K : ∀ v T' h' B', Wk nw l Z EL own bytes maxL ret mnm R h0 B0 ws Q x T' h' B' k' n' → Keep h h' ws' → k_more B B' h.size → Q' v h' B' → Go x (T'.setTop (mkF x.m pc' Ls (v.toList ++ rest)))) : Go x (T.setTop (mkF x.m pc Ls st)) := by
  subst ek en
  obtain ⟨S, vm0, k0, locs, X, eT, hS, hk, hZ, hown, hI, hFr, hK, hM, hN⟩ := X
  obtain ⟨hd, rfl⟩ := hd
  obtain ⟨cq, kq, qa, qb, qc⟩ := isOf (s := x.s.setVm vm0) hZ eT E
  obtain ⟨v, vm₁, ⟨T', L', k'', n''⟩, -, X', hS', hgr, ⟨L, B', q1, q2, q3, q4, e1, e2, e3, q5, q6⟩, stp⟩ := X.virtualBackUpS S.1 (x := y) (y := z) (owner := owner) hown (mvT (s := x.s.setVm vm0) hZ w1) (mvT (s := x.s.setVm vm0) hZ wsm) (mvT (s := x.s.setVm vm0) hZ wd) ho (mvT (s := x.s.setVm vm0) hZ w3) (mvT (s := x.s.setVm vm0) hZ w4) (conBack (W := W) C hZ w6 w5 hf hl hI) qa qc (g := mkF x.m pc Ls st) rfl (by rw [S.2.2.1]; exact hsz) (Steps.refl _) (lenOf hpd hlen) hst (by show 2 * 0 + _ ≤ _; omega) (S.2.1 ▸ hd) (fun _ _ => ⟨rfl, eT, hc, hs⟩)
  dsimp only [Pt.U, Pt.locs, Pt.cells, Pt.slots] at X' hS' hgr q1 q2 q5 q6 e1 e2 e3 stp
  subst e1 e2 e3
  exact (K v T' _ B' (Wk.called q2 hws q3 q4 q5 S X' rfl hS hk hS' hZ hown hFr hK hM hN q6) q2 q3 q1).from fun t q => stp.trans q
end Calls8
/-- a sign from 0 to 255 -/
def C8 (c : Int32) : Prop := ¬ 255 < c ∧ ¬ c < 0
theorem k_and255 (p : Int32) : 0 ≤ (p &&& 255).toInt ∧ (p &&& 255).toInt ≤ 255 := by
  have h2 : (p.toBitVec &&& 255#32).toNat ≤ 255 := by rw [BitVec.toNat_and]; exact Nat.and_le_right
  have e : (p &&& 255).toInt = ((p.toBitVec &&& 255#32).toNat : Int) := by
    have h1 : (p &&& 255).toBitVec = p.toBitVec &&& 255#32 := by simp
    rw [← Int32.toInt_toBitVec, h1, BitVec.toInt_eq_toNat_of_lt (by omega)]
  omega
theorem c8_int {c : Int32} : C8 c ↔ 0 ≤ c.toInt ∧ c.toInt ≤ 255 := by
  rw [C8, Int32.lt_iff_toInt_lt, Int32.lt_iff_toInt_lt, show (255 : Int32).toInt = 255 from by decide, show (0 : Int32).toInt = 0 from by decide]; omega
theorem c8_and (p : Int32) : C8 (p &&& 255) := c8_int.mpr (k_and255 p)
theorem k_le255 (p : Int32) : ¬ (255 : Int32) < p &&& 255 := (c8_and p).1
theorem k_c255' (p : Int32) : (p &&& 255).toUInt32.toUInt16.toUInt32.toInt32 = p &&& 255 := i2c_mask p
theorem k_c255 (p : Int32) : RoadKit.nar .char (p &&& 255).toUInt32.toUInt16.toUInt32.toInt32 = p &&& 255 := by rw [i2c_mask]; exact i2c_mask p
theorem c8_nat {c : Int32} (h : C8 c) : ∃ m : Nat, m < 256 ∧ c = Int32.ofNat m := by
  have h := c8_int.mp h
  exact ⟨c.toInt.toNat, by omega, by rw [← Int32.toInt_inj, k_ofNat (by omega)]; omega⟩
theorem c8_all : ∀ m, m < 256 → Int32.ofNat m &&& 255 = Int32.ofNat m ∧ lo8 (Int32.ofNat m) &&& 255 = Int32.ofNat m := by decide +kernel
theorem c8_and_self {c : Int32} (h : C8 c) : c &&& 255 = c := by
  obtain ⟨m, hm, rfl⟩ := c8_nat h
  exact (c8_all m hm).1
theorem nar_c8 {c : Int32} (h : C8 c) : RoadKit.nar .char c = c := by
  rw [← c8_and_self h]; exact i2c_mask c
theorem b8_inj {c d : Int32} (h : C8 c) (h' : C8 d) : lo8 c = lo8 d ↔ c = d := by
  refine ⟨fun q => ?_, fun q => by rw [q]⟩
  obtain ⟨m, hm, rfl⟩ := c8_nat h
  obtain ⟨m', hm', rfl⟩ := c8_nat h'
  have := congrArg (· &&& 255) q
  rwa [(c8_all m hm).2, (c8_all m' hm').2] at this
/-! own kit, part 6: Strings of two bytes a sign -/
def C16 (c : Int32) : Prop := ¬ 65535 < c ∧ ¬ c < 0
def hi8 (c : Int32) : Int32 := lo8 (c >>> ((8 : Int32) &&& 31))
def u16 (cs : List Int32) : List Int32 := cs.flatMap fun c => [lo8 c, hi8 c]
theorem u16_nil : u16 [] = [] := rfl
theorem u16_cons (c : Int32) (cs : List Int32) : u16 (c :: cs) = lo8 c :: hi8 c :: u16 cs := rfl
theorem u16_append (cs ds : List Int32) : u16 (cs ++ ds) = u16 cs ++ u16 ds := by simp [u16]
theorem u16_len (cs : List Int32) : (u16 cs).length = 2 * cs.length := by
  induction cs with
  | nil => rfl
  | cons c cs ih => rw [u16_cons]; simp [ih]; omega
theorem u16_lo : ∀ (cs : List Int32) (i : Nat) (hi : i < cs.length), (u16 cs)[2 * i]? = some (lo8 cs[i])
  | [], i, hi => absurd hi (Nat.not_lt_zero _)
  | c :: cs, 0, hi => rfl
  | c :: cs, i + 1, hi => by
    rw [u16_cons, show 2 * (i + 1) = 2 * i + 1 + 1 by omega, List.getElem?_cons_succ, List.getElem?_cons_succ]
    exact u16_lo cs i (by simpa using hi)
theorem u16_hi : ∀ (cs : List Int32) (i : Nat) (hi : i < cs.length), (u16 cs)[2 * i + 1]? = some (hi8 cs[i])
  | [], i, hi => absurd hi (Nat.not_lt_zero _)
  | c :: cs, 0, hi => rfl
  | c :: cs, i + 1, hi => by
    rw [u16_cons, show 2 * (i + 1) + 1 = 2 * i + 1 + 1 + 1 by omega, List.getElem?_cons_succ, List.getElem?_cons_succ]
    exact u16_hi cs i (by simpa using hi)
theorem k_fill16 (cs : List Int32) (i : Nat) (hi : i < cs.length) :
    ((((u16 (cs.take i)).map Value.int ++ List.replicate (2 * (cs.length - i)) (Value.int 0)).set (2 * i) (.int (lo8 cs[i]))).set (2 * i + 1) (.int (hi8 cs[i]))) = (u16 (cs.take (i + 1))).map Value.int ++ List.replicate (2 * (cs.length - (i + 1))) (Value.int 0) := by
  have e1 : ((u16 (cs.take i)).map Value.int).length = 2 * i := by simp [u16_len]; omega
  have e2 : 2 * (cs.length - i) = 2 * (cs.length - (i + 1)) + 1 + 1 := by omega
  rw [e2, List.replicate_succ, List.replicate_succ, List.take_succ_eq_append_getElem hi, u16_append, List.map_append]
  generalize (u16 (cs.take i)).map Value.int = P at e1
  rw [List.set_append_right _ _ (by omega), List.set_append_right _ _ (by omega)]
  simp [e1, u16]
theorem k_shl1 {i : Nat} (h : 2 * i < 2 ^ 31) : Int32.ofNat i <<< ((1 : Int32) &&& 31) = Int32.ofNat (2 * i) := by
  have e : ((1 : Int32) &&& 31) = 1 := by decide
  rw [e]
  apply Int32.toBitVec_inj.mp
  apply BitVec.eq_of_toNat_eq
  rw [Int32.toBitVec_shiftLeft, show ((1 : Int32).toBitVec.smod 32) = 1#32 from by decide]
  simp only [Int32.toBitVec_ofNat', BitVec.shiftLeft_eq', BitVec.toNat_shiftLeft, BitVec.toNat_ofNat]
  rw [Nat.shiftLeft_eq, show (2 ^ (1 % 2 ^ 32)) = 2 from rfl]
  omega
theorem k_shr1 {i : Nat} (h : 2 * i < 2 ^ 31) : Int32.ofNat (2 * i) >>> ((1 : Int32) &&& 31) = Int32.ofNat i := by
  have e : ((1 : Int32) &&& 31) = 1 := by decide
  rw [e]
  apply Int32.toBitVec_inj.mp
  apply BitVec.eq_of_toNat_eq
  rw [Int32.toBitVec_shiftRight, show ((1 : Int32).toBitVec.smod 32) = 1#32 from by decide]
  have hm : (BitVec.ofNat 32 (2 * i)).msb = false := by rw [BitVec.msb_eq_false_iff_two_mul_lt, BitVec.toNat_ofNat]; omega
  simp only [Int32.toBitVec_ofNat', BitVec.sshiftRight_eq', BitVec.sshiftRight_eq_of_msb_false hm, BitVec.toNat_ushiftRight, BitVec.toNat_ofNat, Nat.shiftRight_eq_div_pow]
  rw [show (2 ^ (1 % 2 ^ 32)) = 2 from rfl]
  omega
theorem c16_int {c : Int32} : C16 c ↔ 0 ≤ c.toInt ∧ c.toInt ≤ 65535 := by
  rw [C16, Int32.lt_iff_toInt_lt, Int32.lt_iff_toInt_lt, show (65535 : Int32).toInt = 65535 from by decide, show (0 : Int32).toInt = 0 from by decide]; omega
theorem c16_nat {c : Int32} (h : C16 c) : ∃ m : Nat, m < 65536 ∧ c = Int32.ofNat m := by
  have h := c16_int.mp h
  exact ⟨c.toInt.toNat, by omega, by rw [← Int32.toInt_inj, k_ofNat (by omega)]; omega⟩
theorem nar_c16 {c : Int32} (h : C16 c) : RoadKit.nar .char c = c := by
  obtain ⟨m, hm, rfl⟩ := c16_nat h
  apply Int32.toBitVec_inj.mp
  apply BitVec.eq_of_toNat_eq
  show (Int32.ofNat m).toUInt32.toUInt16.toUInt32.toNat = _
  rw [UInt16.toNat_toUInt32, UInt32.toNat_toUInt16]
  show (BitVec.ofNat 32 m).toNat % 2 ^ 16 = (BitVec.ofNat 32 m).toNat
  rw [BitVec.toNat_ofNat]
  omega
theorem lo8_and (c : Int32) : lo8 c &&& 255 = c &&& 255 := by
  apply Int32.toBitVec_inj.mp
  simp only [lo8, Int32.toBitVec_and, Int8.toBitVec_toInt32, Int32.toBitVec_toInt8]
  apply BitVec.eq_of_getLsbD_eq
  intro i hi
  have : i < 8 ∨ 8 ≤ i := by omega
  rcases this with q | q
  · rw [BitVec.getLsbD_and, BitVec.getLsbD_and, BitVec.getLsbD_signExtend, BitVec.getLsbD_signExtend]
    simp [q, hi, show i < 32 by omega]
  · have e : ((255 : Int32).toBitVec).getLsbD i = false := by
      have : ∀ j, j < 32 → 8 ≤ j → ((255 : Int32).toBitVec).getLsbD j = false := by decide
      exact this i hi q
    rw [BitVec.getLsbD_and, BitVec.getLsbD_and, e]; simp
theorem and255_nat (m : Nat) (h : m < 65536) : Int32.ofNat m &&& 255 = Int32.ofNat (m % 256) := by
  apply Int32.toBitVec_inj.mp
  apply BitVec.eq_of_toNat_eq
  simp only [Int32.toBitVec_and, BitVec.toNat_and, Int32.toBitVec_ofNat', BitVec.toNat_ofNat]
  rw [show ((255 : Int32).toBitVec).toNat = 2 ^ 8 - 1 from by decide, Nat.and_two_pow_sub_one_eq_mod]
  omega
theorem shr8_nat {m : Nat} (h : m < 65536) : Int32.ofNat m >>> ((8 : Int32) &&& 31) = Int32.ofNat (m / 256) := by
  have e : ((8 : Int32) &&& 31) = 8 := by decide
  rw [e]
  apply Int32.toBitVec_inj.mp
  apply BitVec.eq_of_toNat_eq
  rw [Int32.toBitVec_shiftRight, show ((8 : Int32).toBitVec.smod 32) = 8#32 from by decide]
  have hm : (BitVec.ofNat 32 m).msb = false := by rw [BitVec.msb_eq_false_iff_two_mul_lt, BitVec.toNat_ofNat]; omega
  simp only [Int32.toBitVec_ofNat', BitVec.sshiftRight_eq', BitVec.sshiftRight_eq_of_msb_false hm, BitVec.toNat_ushiftRight, BitVec.toNat_ofNat, Nat.shiftRight_eq_div_pow]
  rw [show (2 ^ (8 % 2 ^ 32)) = 256 from rfl]
  omega
theorem k_get16 {c : Int32} (h : C16 c) : (((lo8 c &&& 255) <<< ((0 : Int32) &&& 31)) ||| ((hi8 c &&& 255) <<< ((8 : Int32) &&& 31))).toUInt32.toUInt16.toUInt32.toInt32 = c := by
  have e : (((lo8 c &&& 255) <<< ((0 : Int32) &&& 31)) ||| ((hi8 c &&& 255) <<< ((8 : Int32) &&& 31))) = c := by
    obtain ⟨m, hm, rfl⟩ := c16_nat h
    rw [hi8, lo8_and, lo8_and, shr8_nat hm, and255_nat m hm, and255_nat _ (by omega)]
    apply Int32.toBitVec_inj.mp
    apply BitVec.eq_of_toNat_eq
    rw [show ((0 : Int32) &&& 31) = 0 from by decide, show ((8 : Int32) &&& 31) = 8 from by decide]
    simp only [Int32.toBitVec_or, Int32.toBitVec_shiftLeft, show ((8 : Int32).toBitVec.smod 32) = 8#32 from by decide, show ((0 : Int32).toBitVec.smod 32) = 0#32 from by decide, Int32.toBitVec_ofNat', BitVec.shiftLeft_eq', BitVec.toNat_or, BitVec.toNat_shiftLeft, BitVec.toNat_ofNat]
    rw [show (8 % 2 ^ 32) = 8 from rfl, show (0 % 2 ^ 32) = 0 from rfl, Nat.shiftLeft_zero, Nat.shiftLeft_eq]
    rw [show m % 256 % 2 ^ 32 % 2 ^ 32 = m % 256 by omega, show (m / 256 % 256 % 2 ^ 32 * 2 ^ 8) % 2 ^ 32 = 2 ^ 8 * (m / 256) by omega, Nat.or_comm, ← Nat.two_pow_add_eq_or_of_lt (by omega)]
    omega
  rw [e]
  exact nar_c16 h
theorem k_b8_255 {c : Int32} (h1 : C16 c) (h2 : ¬ 255 < c) : lo8 c &&& 255 = c := by
  rw [lo8_and]; exact c8_and_self ⟨h2, h1.2⟩
/-- a String of these signs, in the one form or the other -/
def StrC (Z : State) (h : Heap) (N : Nat) (a : Addr) (cs : List Int32) : Prop :=
  (∀ c ∈ cs, C16 c) ∧ (((∀ c ∈ cs, ¬ 255 < c) ∧ Str Z h N a 0 (cs.map lo8)) ∨ Str Z h N a 1 (u16 cs))
theorem StrC.keep {Z : State} {h h' : Heap} {N : Nat} {a : Addr} {cs : List Int32} {ws : List Addr} (S : StrC Z h N a cs) (K : Keep h h' ws) (q : ∀ z ∈ ws, N ≤ z) : StrC Z h' N a cs := ⟨S.1, S.2.imp (fun r => ⟨r.1, r.2.keep K q⟩) (fun r => r.keep K q)⟩
theorem StrC.ext {Z : State} {h h' : Heap} {N : Nat} {a : Addr} {cs : List Int32} (S : StrC Z h N a cs) (E : Ext h h') : StrC Z h' N a cs := ⟨S.1, S.2.imp (fun r => ⟨r.1, r.2.ext E⟩) (fun r => r.ext E)⟩
theorem StrC.mono {Z : State} {h : Heap} {N N' : Nat} {a : Addr} {cs : List Int32} (S : StrC Z h N a cs) (q : N ≤ N') : StrC Z h N' a cs := ⟨S.1, S.2.imp (fun r => ⟨r.1, r.2.mono q⟩) (fun r => r.mono q)⟩
theorem StrC.exa {Z : State} {h : Heap} {N : Nat} {a : Addr} {cs : List Int32} (S : StrC Z h N a cs) : Exa Z h a "java/lang/String" := by rcases S.2 with r | r <;> first | exact r.2.exa | exact r.exa
theorem StrC.lt {Z : State} {h : Heap} {N : Nat} {a : Addr} {cs : List Int32} (S : StrC Z h N a cs) : @LT.lt Nat _ a N := by rcases S.2 with r | r <;> first | exact r.2.lt | exact r.lt
theorem StrC.len {Z : State} {h : Heap} {N : Nat} {a : Addr} {cs : List Int32} (S : StrC Z h N a cs) : cs.length < 2 ^ 31 := by
  rcases S.2 with r | r
  · simpa using r.2.len
  · have := r.len; rw [u16_len] at this; omega
theorem c16_and (p : Int32) : C16 (p &&& 65535) := by
  have h2 : (p.toBitVec &&& 65535#32).toNat ≤ 65535 := by rw [BitVec.toNat_and]; exact Nat.and_le_right
  have e : (p &&& 65535).toInt = ((p.toBitVec &&& 65535#32).toNat : Int) := by
    have h1 : (p &&& 65535).toBitVec = p.toBitVec &&& 65535#32 := by simp
    rw [← Int32.toInt_toBitVec, h1, BitVec.toInt_eq_toNat_of_lt (by omega)]
  exact c16_int.mpr (by omega)
theorem k_and3 (x : Int32) : x &&& 3 = 0 ∨ x &&& 3 = 1 ∨ x &&& 3 = 2 ∨ x &&& 3 = 3 := by
  have h2 : (x.toBitVec &&& 3#32).toNat ≤ 3 := by rw [BitVec.toNat_and]; exact Nat.and_le_right
  have e : x &&& 3 = Int32.ofNat (x.toBitVec &&& 3#32).toNat := by
    apply Int32.toBitVec_inj.mp
    simp
  rw [e]
  generalize (x.toBitVec &&& 3#32).toNat = m at h2
  have : m = 0 ∨ m = 1 ∨ m = 2 ∨ m = 3 := by omega
  rcases this with rfl | rfl | rfl | rfl <;> decide
theorem k_sign_all : ∀ m, m < 1000 → 0 < m → Jvm.Free.XT.ushr (Int32.ofNat m - Int32.ofNat (2 * m)) 31 = 1 := by decide +kernel
theorem k_sign {m : Nat} (hp : 0 < m) (hm : m < 1000) : Jvm.Free.XT.ushr (Int32.ofNat m - Int32.ofNat (2 * m)) 31 = 1 := k_sign_all m hm hp
theorem u16_drop : ∀ (cs : List Int32) (f : Nat), (u16 cs).drop (2 * f) = u16 (cs.drop f)
  | [], f => by simp [u16]
  | c :: cs, 0 => rfl
  | c :: cs, f + 1 => by
    rw [u16_cons, show 2 * (f + 1) = 2 * f + 1 + 1 by omega]
    simpa using u16_drop cs f
theorem u16_take : ∀ (cs : List Int32) (m : Nat), (u16 cs).take (2 * m) = u16 (cs.take m)
  | [], m => by simp [u16]
  | c :: cs, 0 => rfl
  | c :: cs, m + 1 => by
    rw [u16_cons, show 2 * (m + 1) = 2 * m + 1 + 1 by omega, List.take_succ_cons, List.take_succ_cons, u16_take cs m]
    rfl
theorem k_or3 {f m n : Nat} (hf : f < 2 ^ 31) (hm : m < 2 ^ 31) (hn : n < 2 ^ 31) : ¬ (Int32.ofNat n ||| Int32.ofNat f ||| Int32.ofNat m) < 0 := by
  have e : (Int32.ofNat n ||| Int32.ofNat f ||| Int32.ofNat m) = Int32.ofNat (n ||| f ||| m) := by
    apply Int32.toBitVec_inj.mp
    simp [Int32.toBitVec_ofNat', BitVec.ofNat_or]
  have : n ||| f ||| m < 2 ^ 31 := Nat.or_lt_two_pow (Nat.or_lt_two_pow hn hf) hm
  rw [e, Int32.lt_iff_toInt_lt, k_ofNat this, show (0 : Int32).toInt = 0 from by decide]
  omega
theorem c8_lt {c : Int32} (h : C8 c) : c < 65536 := by
  have h := c8_int.mp h
  rw [Int32.lt_iff_toInt_lt, show (65536 : Int32).toInt = 65536 from by decide]; omega
/-- where ch is found first, from f on; -1 where it isn't -/
def idxV (cs : List Int32) (ch : Int32) (f : Nat) : Int32 := ((cs.drop f).findIdx? (fun c => c == ch)).elim (-1) fun k => Int32.ofNat (f + k)
theorem idxV_hit {cs : List Int32} {ch : Int32} {i : Nat} (hi : i < cs.length) (h : cs[i] = ch) : idxV cs ch i = Int32.ofNat i := by
  rw [idxV, List.drop_eq_getElem_cons hi, List.findIdx?_cons]; simp [h]
theorem idxV_miss {cs : List Int32} {ch : Int32} {i : Nat} (hi : i < cs.length) (h : ¬ cs[i] = ch) : idxV cs ch i = idxV cs ch (i + 1) := by
  rw [idxV, List.drop_eq_getElem_cons hi, List.findIdx?_cons, idxV]
  simp only [beq_iff_eq, h, if_false]
  cases (cs.drop (i + 1)).findIdx? (fun c => c == ch) with
  | none => rfl
  | some k => exact congrArg Int32.ofNat (show i + (k + 1) = i + 1 + k by omega)
theorem idxV_end {cs : List Int32} {ch : Int32} {i : Nat} (hi : cs.length ≤ i) : idxV cs ch i = -1 := by
  rw [idxV, List.drop_eq_nil_of_le hi]; rfl
theorem idxV_cases (cs : List Int32) (ch : Int32) (f : Nat) : idxV cs ch f = -1 ∨ ∃ k, f ≤ k ∧ k < cs.length ∧ idxV cs ch f = Int32.ofNat k := by
  rw [idxV]
  cases h : (cs.drop f).findIdx? (fun c => c == ch) with
  | none => exact Or.inl rfl
  | some k =>
    have := (List.findIdx?_eq_some_iff_getElem.mp h).1
    simp at this
    exact Or.inr ⟨f + k, by omega, by omega, rfl⟩
theorem k_litlt {j f : Nat} (hj : j < 2 ^ 31) (hf : f < 2 ^ 31) : Int32.ofNat j < Int32.ofNat f ↔ j < f := by
  constructor
  · intro q
    rcases Nat.lt_or_ge j f with r | r
    · exact r
    · exact absurd q (k_nlt r hj)
  · intro q; exact k_lt q hf
/-- one test of 'find': nothing is found from f up to j -/
theorem find_skip {ds : List Int32} {ch : Int32} {f j : Nat} (he : idxV ds ch (max f j) = idxV ds ch f) (h : j < f ∨ ds.length ≤ j) : idxV ds ch (max f (j + 1)) = idxV ds ch f := by
  rcases h with h | h
  · rw [Nat.max_eq_left (by omega)]
  · rw [← he, idxV_end (by omega), idxV_end (by omega)]
theorem find_hit {cs : List Int32} {ch : Int32} {f j k : Nat} (he : idxV (cs.take k) ch (max f j) = idxV (cs.take k) ch f) (hf : f ≤ j) (hk : j < k) (hc : j < cs.length) (h : cs[j] = ch) : Int32.ofNat j = idxV (cs.take k) ch f := by
  rw [← he, Nat.max_eq_right hf, idxV_hit (by simp; omega) (by simpa using h)]
theorem find_miss {cs : List Int32} {ch : Int32} {f j k : Nat} (he : idxV (cs.take k) ch (max f j) = idxV (cs.take k) ch f) (hf : f ≤ j) (hk : j < k) (hc : j < cs.length) (h : ¬ cs[j] = ch) : idxV (cs.take k) ch (max f (j + 1)) = idxV (cs.take k) ch f := by
  rw [← he, Nat.max_eq_right hf, Nat.max_eq_right (by omega), ← idxV_miss (by simp; omega) (by simpa using h)]

def SBS (Z : State) (h : Heap) (s t : Addr) (bs pd : List Int32) : Prop :=
  Exa Z h s "java/lang/StringBuilder" ∧ Fld Z h s "java/lang/AbstractStringBuilder" "value" "[B" (.ref t) ∧ Fld Z h s "java/lang/AbstractStringBuilder" "coder" "B" (.int 0) ∧ Fld Z h s "java/lang/AbstractStringBuilder" "count" "I" (.int (Int32.ofNat bs.length)) ∧ Ay Z h t .byte ((bs ++ pd).map Value.int)
theorem SBS.op {Z : State} {h : Heap} {s t : Addr} {bs pd : List Int32} (S : SBS Z h s t bs pd) : Exa Z h s "java/lang/StringBuilder" ∧ Fld Z h s "java/lang/AbstractStringBuilder" "value" "[B" (.ref t) ∧ Fld Z h s "java/lang/AbstractStringBuilder" "coder" "B" (.int 0) ∧ Fld Z h s "java/lang/AbstractStringBuilder" "count" "I" (.int (Int32.ofNat bs.length)) ∧ Ay Z h t .byte ((bs ++ pd).map Value.int) := S
theorem SBS.ext {Z : State} {h h' : Heap} {s t : Addr} {bs pd : List Int32} (S : SBS Z h s t bs pd) (E : Ext h h') : SBS Z h' s t bs pd := ⟨S.1.ext E, S.2.1.ext E, S.2.2.1.ext E, S.2.2.2.1.ext E, S.2.2.2.2.ext E⟩
theorem StrV.exa' {Z : State} {h : Heap} {a : Addr} {cd : Int32} {bs : List Int32} (S : StrV Z h a cd bs) : Exa Z h a "java/lang/String" := by obtain ⟨t, e, -⟩ := S; exact e
theorem k_sbapp {Z : State} {h : Heap} {t : Addr} {bs cs pd : List Int32} (A : Ay Z h t .byte (((bs ++ pd).map Value.int).take bs.length ++ cs.map Value.int ++ ((bs ++ pd).map Value.int).drop (bs.length + cs.length))) : Ay Z h t .byte (((bs ++ cs) ++ pd.drop cs.length).map Value.int) := by
  have e : ((bs ++ pd).map Value.int).take bs.length ++ cs.map Value.int ++ ((bs ++ pd).map Value.int).drop (bs.length + cs.length) = ((bs ++ cs) ++ pd.drop cs.length).map Value.int := by
    rw [← List.map_take, ← List.map_drop, List.take_left', List.drop_append]
    · simp
    · rfl
  rw [e] at A; exact A
def u8a (b : Int32) : Int32 := lo8 (192 ||| ((b &&& 255) >>> ((6 : Int32) &&& 31)))
def u8b (b : Int32) : Int32 := lo8 (128 ||| (b &&& 63))
def u8 (b : Int32) : List Int32 := if b < 0 then [u8a b, u8b b] else [b]
def utf8 (bs : List Int32) : List Int32 := bs.flatMap u8
theorem utf8_app (a b : List Int32) : utf8 (a ++ b) = utf8 a ++ utf8 b := by simp [utf8]
theorem utf8_one (b : Int32) : utf8 [b] = u8 b := by simp [utf8]
theorem utf8_neg {bs : List Int32} {i : Nat} (hi : i < bs.length) (h : bs[i] < 0) : utf8 (bs.take (i + 1)) = utf8 (bs.take i) ++ [u8a bs[i], u8b bs[i]] := by
  rw [List.take_succ_eq_append_getElem hi, utf8_app, utf8_one, u8, if_pos h]
theorem utf8_nn {bs : List Int32} {i : Nat} (hi : i < bs.length) (h : ¬ bs[i] < 0) : utf8 (bs.take (i + 1)) = utf8 (bs.take i) ++ [bs[i]] := by
  rw [List.take_succ_eq_append_getElem hi, utf8_app, utf8_one, u8, if_neg h]
theorem utf8_len (bs : List Int32) : (utf8 bs).length ≤ 2 * bs.length := by
  induction bs with
  | nil => simp [utf8]
  | cons b bs ih =>
    rw [show b :: bs = [b] ++ bs from rfl, utf8_app, utf8_one, List.length_append, List.length_append]
    have : (u8 b).length ≤ 2 := by rw [u8]; split <;> simp
    simp only [List.length_singleton]
    omega
theorem utf8_pos {bs : List Int32} (h : ∀ b ∈ bs, ¬ b < 0) : utf8 bs = bs := by
  induction bs with
  | nil => rfl
  | cons b bs ih =>
    rw [show b :: bs = [b] ++ bs from rfl, utf8_app, utf8_one, u8, if_neg (h b (List.mem_cons_self ..)), ih (fun c hc => h c (List.mem_cons_of_mem _ hc))]
theorem k_put {P : List Int32} {n : Nat} {v : Int32} (h : P.length < n) : (P.map Value.int ++ List.replicate (n - P.length) (Value.int 0)).set P.length (.int v) = (P ++ [v]).map Value.int ++ List.replicate (n - (P ++ [v]).length) (Value.int 0) := by
  have e : n - P.length = (n - (P ++ [v]).length) + 1 := by simp; omega
  rw [e, List.replicate_succ, List.set_append_right _ _ (by simp)]
  simp
theorem c16_of8 {c : Int32} (h : C8 c) : C16 c := c16_int.mpr (by have := c8_int.mp h; omega)
theorem k_takeall (cs : List Int32) : (cs.map Value.int).take cs.length = cs.map Value.int := List.take_of_length_le (by simp)
theorem k_shl0 (x : Int32) : x <<< ((0 : Int32) &&& 31) = x := by
  have : ((0 : Int32) &&& 31) = 0 := by decide
  rw [this]
  apply Int32.toBitVec_inj.mp
  simp
theorem k_le16 {m : Nat} (h : m ≤ 16) : ¬ 0 < Int32.ofNat m - (16 : Int32) := by
  have : ∀ m, m ≤ 16 → ¬ 0 < Int32.ofNat m - (16 : Int32) := by decide
  exact this m h

def SBU (Z : State) (h : Heap) (s t : Addr) (cs : List Int32) : Prop :=
  Exa Z h s "java/lang/StringBuilder" ∧ Fld Z h s "java/lang/AbstractStringBuilder" "value" "[B" (.ref t) ∧ Fld Z h s "java/lang/AbstractStringBuilder" "coder" "B" (.int 1) ∧ Fld Z h s "java/lang/AbstractStringBuilder" "count" "I" (.int (Int32.ofNat cs.length)) ∧ Fld Z h s "java/lang/AbstractStringBuilder" "maybeLatin1" "Z" (.int 0) ∧ Ay Z h t .byte ((u16 cs).map Value.int ++ List.replicate (32 - 2 * cs.length) (Value.int 0))
theorem SBU.op {Z : State} {h : Heap} {s t : Addr} {cs : List Int32} (S : SBU Z h s t cs) : Exa Z h s "java/lang/StringBuilder" ∧ Fld Z h s "java/lang/AbstractStringBuilder" "value" "[B" (.ref t) ∧ Fld Z h s "java/lang/AbstractStringBuilder" "coder" "B" (.int 1) ∧ Fld Z h s "java/lang/AbstractStringBuilder" "count" "I" (.int (Int32.ofNat cs.length)) ∧ Fld Z h s "java/lang/AbstractStringBuilder" "maybeLatin1" "Z" (.int 0) ∧ Ay Z h t .byte ((u16 cs).map Value.int ++ List.replicate (32 - 2 * cs.length) (Value.int 0)) := S
theorem SBU.ext {Z : State} {h h' : Heap} {s t : Addr} {cs : List Int32} (S : SBU Z h s t cs) (E : Ext h h') : SBU Z h' s t cs := ⟨S.1.ext E, S.2.1.ext E, S.2.2.1.ext E, S.2.2.2.1.ext E, S.2.2.2.2.1.ext E, S.2.2.2.2.2.ext E⟩
theorem k_r32 {Z : State} {h : Heap} {t : Addr} {cs : List Int32} (A : Ay Z h t .byte ((u16 cs).map Value.int ++ (List.replicate 32 (Value.int 0)).drop (u16 cs).length)) : Ay Z h t .byte ((u16 cs).map Value.int ++ List.replicate (32 - 2 * cs.length) (Value.int 0)) := by
  rw [List.drop_replicate, u16_len] at A; exact A
theorem k_app16 {cs : List Int32} (hi : cs.length ≤ 15) :
    ((((u16 cs).map Value.int ++ List.replicate (32 - 2 * cs.length) (Value.int 0)).set (2 * cs.length) (.int (lo8 10))).set (2 * cs.length + 1) (.int (hi8 10))) = (u16 (cs ++ [10])).map Value.int ++ List.replicate (32 - 2 * (cs ++ [10]).length) (Value.int 0) := by
  have e1 : ((u16 cs).map Value.int).length = 2 * cs.length := by simp [u16_len]
  have e2 : 32 - 2 * cs.length = (32 - 2 * (cs ++ [10]).length) + 1 + 1 := by simp; omega
  rw [e2, List.replicate_succ, List.replicate_succ, u16_append, List.map_append]
  generalize (u16 cs).map Value.int = P at e1
  rw [List.set_append_right _ _ (by omega), List.set_append_right _ _ (by omega)]
  simp [e1, u16]
theorem k_take16 {cs : List Int32} {X : List Value} : ((u16 cs).map Value.int ++ X).take (2 * cs.length) = (u16 cs).map Value.int := List.take_left' (by simp [u16_len])
def NS (c : Int32) : Prop := c < 55296 ∨ ¬ c < 57344
def n2a (c : Int32) : Int32 := lo8 ((192 : Int32) ||| (c >>> ((6 : Int32) &&& 31)))
def n2b (c : Int32) : Int32 := lo8 ((128 : Int32) ||| (c &&& (63 : Int32)))
def n3a (c : Int32) : Int32 := lo8 ((224 : Int32) ||| (c >>> ((12 : Int32) &&& 31)))
def n3b (c : Int32) : Int32 := lo8 ((128 : Int32) ||| ((c >>> ((6 : Int32) &&& 31)) &&& (63 : Int32)))
def n8 (c : Int32) : List Int32 := if c < 128 then [lo8 c] else if c < 2048 then [n2a c, n2b c] else [n3a c, n3b c, n2b c]
theorem n8_one (c : Int32) : (n8 c).length ≤ 3 := by
  rw [n8]; split
  · simp
  · split <;> simp
theorem n8_len (cs : List Int32) : (cs.flatMap n8).length ≤ 3 * cs.length := by
  induction cs with
  | nil => simp
  | cons c cs ih => have := n8_one c; rw [List.flatMap_cons, List.length_append, List.length_cons]; omega
theorem n8_take {cs : List Int32} {i : Nat} (hi : i < cs.length) : (cs.take (i + 1)).flatMap n8 = (cs.take i).flatMap n8 ++ n8 cs[i] := by
  rw [List.take_succ_eq_append_getElem hi, List.flatMap_append]; simp
theorem k_mul3 : ∀ i : Nat, i ≤ 4 → Int32.ofNat i * (3 : Int32) = Int32.ofNat (3 * i) := by decide +kernel
theorem k_n8all : ∀ m, m < 256 → u8 (lo8 (Int32.ofNat m)) = n8 (Int32.ofNat m) := by decide +kernel
theorem k_l1 {cs : List Int32} (h : ∀ c ∈ cs, C8 c) : utf8 (cs.map lo8) = cs.flatMap n8 := by
  induction cs with
  | nil => rfl
  | cons c cs ih =>
    have e : u8 (lo8 c) = n8 c := by
      obtain ⟨m, hm, rfl⟩ := c8_nat (h c (List.mem_cons_self ..))
      exact k_n8all m hm
    rw [List.map_cons, show lo8 c :: cs.map lo8 = [lo8 c] ++ cs.map lo8 from rfl, utf8_app, utf8_one, e, ih (fun d hd => h d (List.mem_cons_of_mem _ hd)), List.flatMap_cons]
theorem k_hb {pb cs : List Int32} (h : ∀ b ∈ pb, lo8 b = b) (h2 : ∀ b ∈ cs, lo8 b = b) : ∀ b ∈ pb ++ cs, lo8 b = b := fun b hb => (List.mem_append.mp hb).elim (h b) (h2 b)
theorem k_lolo {cs : List Int32} : ∀ b ∈ cs.map lo8, lo8 b = b := fun b hb => by obtain ⟨c, -, rfl⟩ := List.mem_map.mp hb; exact nar_b8 c
theorem k_allapp {p : Int32 → Prop} {cs : List Int32} {d : Int32} (h : ∀ c ∈ cs, p c) (h2 : p d) : ∀ c ∈ cs ++ [d], p c := fun c hc => (List.mem_append.mp hc).elim (h c) (fun q => by rw [List.mem_singleton.mp q]; exact h2)

theorem k_maskn {p : Int32} (m : Nat) (hm : m < 2 ^ 31) : ∃ n : Nat, n ≤ m ∧ p &&& Int32.ofNat m = Int32.ofNat n := by
  refine ⟨(p.toBitVec &&& BitVec.ofNat 32 m).toNat, ?_, ?_⟩
  · rw [BitVec.toNat_and]
    refine Nat.le_trans Nat.and_le_right ?_
    rw [BitVec.toNat_ofNat]; exact Nat.mod_le _ _
  · apply Int32.toBitVec_inj.mp
    rw [Int32.toBitVec_and, Int32.toBitVec_ofNat', Int32.toBitVec_ofNat', BitVec.ofNat_toNat, BitVec.setWidth_eq]
theorem k_and3n (p : Int32) : ∃ n : Nat, n ≤ 3 ∧ p &&& 3 = Int32.ofNat n := k_maskn 3 (by decide)
theorem and11 (q : Int32) : ∃ n : Nat, n ≤ 2047 ∧ q &&& 2047 = Int32.ofNat n := k_maskn 2047 (by decide)
theorem c16_and11 (q : Int32) : C16 (q &&& 2047) := by
  obtain ⟨n, h, e⟩ := and11 q
  rw [e]; exact c16_int.mpr (by rw [k_ofNat (by omega)]; omega)
def chF (p : Int32) : Int32 := if p &&& 65535 < 55296 then p &&& 65535 else if 57343 < p &&& 65535 then p &&& 65535 else p &&& 65535 &&& 2047
theorem chF_c16 (p : Int32) : C16 (chF p) := by
  rw [chF]; split
  · exact c16_and p
  · split
    · exact c16_and p
    · exact c16_and11 _
theorem chF_ns (p : Int32) : NS (chF p) := by
  rw [chF]; split
  · rename_i h; exact Or.inl h
  · split
    · rename_i h; refine Or.inr ?_
      rw [Int32.lt_iff_toInt_lt, show (57343 : Int32).toInt = 57343 from by decide] at h
      rw [Int32.lt_iff_toInt_lt, show (57344 : Int32).toInt = 57344 from by decide]; omega
    · refine Or.inl ?_
      obtain ⟨n, h, e⟩ := and11 (p &&& 65535)
      rw [e, Int32.lt_iff_toInt_lt, k_ofNat (by omega), show (55296 : Int32).toInt = 55296 from by decide]; omega
theorem Str.keepB {Z : State} {a0 : Array Value} {h h' : Heap} {N n : Nat} {a bb : Addr} {cd : Int32} {bs : List Int32} {vs : List Value} (S : Str Z h N a cd bs) (hl : bs.length < 10) (A : Ay Z h bb .byte vs) (hv : vs.length = 10) (K : Keep h h' [bb]) (w : (Cond.instantiable "java/lang/String" n).before a0 Z = true) : Str Z h' N a cd bs := by
  obtain ⟨t, l1, l2, e, f, g, At⟩ := S
  have n1 : a ∉ [bb] := fun q => Ay.ne e w A (List.mem_singleton.mp q)
  have n2 : t ∉ [bb] := fun q => by
    have q := List.mem_singleton.mp q
    subst q
    have := congrArg List.length (At.uniq A)
    simp at this
    omega
  exact ⟨t, l1, l2, e.keep K, f.keep K n1, g.keep K n1, At.keep K n2⟩
def Rsn (Z : State) (h : Heap) (N : Nat) (rv : Value) (P : List Int32) : Prop :=
  (rv = .null ∧ P = [110, 117, 108, 108]) ∨ ∃ (a : Addr) (cs : List Int32), rv = .ref a ∧ StrC Z h N a cs ∧ (∀ c ∈ cs, NS c) ∧ cs.length ≤ 3 ∧ P = cs.flatMap n8
theorem Rsn.keep {Z : State} {h h' : Heap} {N : Nat} {rv : Value} {P : List Int32} {ws : List Addr} (S : Rsn Z h N rv P) (K : Keep h h' ws) (q : ∀ z ∈ ws, N ≤ z) : Rsn Z h' N rv P := by
  rcases S with p | ⟨a, cs, e, s, r⟩
  · exact Or.inl p
  · exact Or.inr ⟨a, cs, e, s.keep K q, r⟩
theorem Rsn.ext {Z : State} {h h' : Heap} {N : Nat} {rv : Value} {P : List Int32} (S : Rsn Z h N rv P) (E : Ext h h') : Rsn Z h' N rv P := by
  rcases S with p | ⟨a, cs, e, s, r⟩
  · exact Or.inl p
  · exact Or.inr ⟨a, cs, e, s.ext E, r⟩
theorem Rsn.mono {Z : State} {h : Heap} {N N' : Nat} {rv : Value} {P : List Int32} (S : Rsn Z h N rv P) (q : N ≤ N') : Rsn Z h N' rv P := by
  rcases S with p | ⟨a, cs, e, s, r⟩
  · exact Or.inl p
  · exact Or.inr ⟨a, cs, e, s.mono q, r⟩
theorem Rsn.keepB {Z : State} {a0 : Array Value} {h h' : Heap} {N n : Nat} {rv : Value} {P : List Int32} {bb : Addr} {vs : List Value} (S : Rsn Z h N rv P) (A : Ay Z h bb .byte vs) (hv : vs.length = 10) (K : Keep h h' [bb]) (w : (Cond.instantiable "java/lang/String" n).before a0 Z = true) : Rsn Z h' N rv P := by
  rcases S with p | ⟨a, cs, e, ⟨s1, s2⟩, r1, r2, r3⟩
  · exact Or.inl p
  · refine Or.inr ⟨a, cs, e, ⟨s1, ?_⟩, r1, r2, r3⟩
    rcases s2 with ⟨q1, q2⟩ | q2
    · exact Or.inl ⟨q1, q2.keepB (by simp; omega) A hv K w⟩
    · exact Or.inr (q2.keepB (by rw [u16_len]; omega) A hv K w)
set_option maxRecDepth 65536 in
set_option maxHeartbeats 40000000 in
theorem c_coder {nw : Bool} {l : Launch} {Z : State} {EL : List (String × Nat)} {a0 : Array Value} (hw : HW Z a0) (hs : Sts Z) {h0 : Heap} {B0 : BP} (a : Addr) (cd : Int32) (bs : List Int32) (hcd : cd = 0 ∨ cd = 1) (S : StrV Z h0 a cd bs) :
    Con nw l Z EL (⟨"java/lang/String", "coder", "()B"⟩ : MethodName) jdk_42_method_152_code 1 (some .byte) [] ({ frames := 0, cells := 0, slots := 0, locals := 0 } : Room) #[(.ref a)] h0 B0 [] (PQ (some (.int cd)) h0 B0) := by
  refine k_intro (Ls := #[.val (.ref a)]) (by decide +kernel) rfl fun x T0 X0 => ?_
  obtain ⟨cv, sCS, ncv⟩ := hs.1
  obtain ⟨t_a, E_a, Fc_a, Fv_a, A_a⟩ := S.op
  refine g_getstatic X0 d0_0 (w114 hw) Via.refl sCS fun T1 X1 => ?_
  refine g_ifF X1 d0_3 (XT.i0_eq_f ncv) ?_
  refine g_aloadN X1 d0_6 rfl rfl ?_
  refine g_getfield X1 d0_7 (w115 hw) Via.refl Fc_a fun T2 X2 => ?_
  refine g_goto X2 d0_10 ?_
  exact g_ireturn (w' := cd) X2 d0_14 (Or.inr (Or.inl rfl)) (by rcases hcd with rfl | rfl <;> decide) (by decide) (by decide) ⟨rfl, rfl, rfl⟩
set_option maxRecDepth 65536 in
set_option maxHeartbeats 40000000 in
theorem c_lengthL {nw : Bool} {l : Launch} {Z : State} {EL : List (String × Nat)} {a0 : Array Value} (hw : HW Z a0) (hs : Sts Z) {h0 : Heap} {B0 : BP} (a : Addr) (bs : List Int32) (S : StrV Z h0 a 0 bs) :
    Con nw l Z EL (⟨"java/lang/String", "length", "()I"⟩ : MethodName) jdk_42_method_54_code 1 (some .int) [] ({ frames := 1, cells := 0, slots := 0, locals := 13 } : Room) #[(.ref a)] h0 B0 [] (PQ (some (.int (Int32.ofNat bs.length))) h0 B0) := by
  refine k_intro (Ls := #[.val (.ref a)]) (by decide +kernel) rfl fun x T0 X0 => ?_
  obtain ⟨t_a, E_a, Fc_a, Fv_a, A_a⟩ := S.op
  refine g_aloadN X0 d1_0 rfl rfl ?_
  refine g_getfield X0 d1_1 (w108 hw) Via.refl Fv_a fun T1 X1 => ?_
  refine g_arraylength X1 d1_4 A_a (Int32.ofNat bs.length) (by simp) ?_
  refine g_aloadN X1 d1_5 rfl rfl ?_
  refine g_callVp X1 d1_6 (w109 hw) (w110 hw) (w112 hw) (w111 hw) (w59 hw) (w113 hw) (by decide) pd0 a [] [(.int (Int32.ofNat bs.length))] 1 E_a (c_coder hw hs a 0 bs (Or.inl rfl) S) rfl rfl rfl (Nat.le_of_eq rfl) (by decide) (by decide) 0 0 rfl rfl (by decide) (by decide) fun T2 X2 => ?_
  refine g_ishr X2 (Int32.ofNat bs.length) d1_9 (k_shr0 _) ?_
  exact g_ireturnI X2 d1_10 (by decide) (by decide) ⟨rfl, rfl, rfl⟩
set_option maxRecDepth 65536 in
set_option maxHeartbeats 40000000 in
theorem c_ensure {nw : Bool} {l : Launch} {Z : State} {EL : List (String × Nat)} {a0 : Array Value} (hw : HW Z a0) (hs : Sts Z) {h0 : Heap} {B0 : BP} (s t : Addr) (m : Nat) (vs : List Value) (Fv : Fld Z h0 s "java/lang/AbstractStringBuilder" "value" "[B" (.ref t)) (Fc : Fld Z h0 s "java/lang/AbstractStringBuilder" "coder" "B" (.int 0)) (A : Ay Z h0 t .byte vs) (h16 : vs.length = 16) (hm : m ≤ 16) :
    Con nw l Z EL (⟨"java/lang/AbstractStringBuilder", "ensureCapacityInternal", "(I)V"⟩ : MethodName) jdk_68_method_9_code 3 none [] ({ frames := 0, cells := 0, slots := 0, locals := 0 } : Room) #[(.ref s), (.int (Int32.ofNat m))] h0 B0 [] (PQ none h0 B0) := by
  refine k_intro (Ls := #[.val (.ref s), .val (.int (Int32.ofNat m)), .unset]) (by decide +kernel) rfl fun x T0 X0 => ?_
  refine g_aloadN X0 d2_0 rfl rfl ?_
  refine g_getfield X0 d2_1 (w60 hw) Via.refl Fv fun T1 X1 => ?_
  refine g_arraylength X1 d2_4 A (16 : Int32) (by rw [h16]; rfl) ?_
  refine g_aloadN X1 d2_5 rfl rfl ?_
  refine g_getfield X1 d2_6 (w62 hw) Via.refl Fc fun T2 X2 => ?_
  refine g_ishr X2 (16 : Int32) d2_9 (by decide) ?_
  refine g_istoreN X2 #[.val (.ref s), .val (.int (Int32.ofNat m)), .val (.int (16 : Int32))] d2_10 rfl ?_
  refine g_iloadN X2 d2_11 rfl ?_
  refine g_iloadN X2 d2_12 rfl ?_
  refine g_isub X2 ((Int32.ofNat m) - (16 : Int32)) d2_13 rfl ?_
  refine g_ifT X2 d2_14 (XT.i0_le_t (k_le16 hm)) ?_
  exact g_return X2 d2_38 (by decide) (by decide) ⟨rfl, rfl, rfl⟩
set_option maxRecDepth 65536 in
set_option maxHeartbeats 40000000 in
theorem c_inflIf {nw : Bool} {l : Launch} {Z : State} {EL : List (String × Nat)} {a0 : Array Value} (hw : HW Z a0) (hs : Sts Z) {h0 : Heap} {B0 : BP} (s a : Addr) (cs : List Int32) (Fc : Fld Z h0 s "java/lang/AbstractStringBuilder" "coder" "B" (.int 0)) (S : StrV Z h0 a 0 cs) :
    Con nw l Z EL (⟨"java/lang/AbstractStringBuilder", "inflateIfNeededFor", "(Ljava/lang/String;)V"⟩ : MethodName) jdk_68_method_71_code 2 none [] ({ frames := 1, cells := 0, slots := 0, locals := 13 } : Room) #[(.ref s), (.ref a)] h0 B0 [] (PQ none h0 B0) := by
  refine k_intro (Ls := #[.val (.ref s), .val (.ref a)]) (by decide +kernel) rfl fun x T0 X0 => ?_
  obtain ⟨cv, sCS, ncv⟩ := hs.1
  have E_a := S.exa'
  refine g_getstatic X0 d3_0 (w58 hw) Via.refl sCS fun T1 X1 => ?_
  refine g_ifF X1 d3_3 (XT.i0_eq_f ncv) ?_
  refine g_aloadN X1 d3_6 rfl rfl ?_
  refine g_getfield X1 d3_7 (w62 hw) Via.refl Fc fun T2 X2 => ?_
  refine g_aloadN X2 d3_10 rfl rfl ?_
  refine g_callVp X2 d3_11 (w126 hw) (w110 hw) (w112 hw) (w111 hw) (w59 hw) (w113 hw) (by decide) pd0 a [] [(.int (0 : Int32))] 1 E_a (c_coder hw hs a 0 cs (Or.inl rfl) S) rfl rfl rfl (Nat.le_of_eq rfl) (by decide) (by decide) 0 0 rfl rfl (by decide) (by decide) fun T3 X3 => ?_
  refine g_icmpT X3 d3_14 (by decide) ?_
  exact g_return X3 d3_21 (by decide) (by decide) ⟨rfl, rfl, rfl⟩
set_option maxRecDepth 65536 in
set_option maxHeartbeats 40000000 in
theorem c_getBIB {nw : Bool} {l : Launch} {Z : State} {EL : List (String × Nat)} {a0 : Array Value} (hw : HW Z a0) (hs : Sts Z) {h0 : Heap} {B0 : BP} (a ta t : Addr) (m : Nat) (cs : List Int32) (vs : List Value) (E_a : Exa Z h0 a "java/lang/String") (Fa_c : Fld Z h0 a "java/lang/String" "coder" "B" (.int 0)) (Fa_v : Fld Z h0 a "java/lang/String" "value" "[B" (.ref ta)) (A_ta : Ay Z h0 ta .byte (cs.map Value.int)) (A : Ay Z h0 t .byte vs) (hm : m + cs.length ≤ vs.length) (nt : @Ne Nat ta t) (nb_t : ¬ B0 t) (zl_t : Z.heap.size ≤ t)  :
    Con nw l Z EL (⟨"java/lang/String", "getBytes", "([BIB)V"⟩ : MethodName) jdk_42_method_147_code 4 none [] ({ frames := 1, cells := 0, slots := 0, locals := 18 } : Room) #[(.ref a), (.ref t), (.int (Int32.ofNat m)), (.int (0 : Int32))] h0 B0 [t] (fun v h B => v = none ∧ B0 = B ∧ Ay Z h t .byte (vs.take m ++ cs.map Value.int ++ vs.drop (m + cs.length))) := by
  refine k_intro (Ls := #[.val (.ref a), .val (.ref t), .val (.int (Int32.ofNat m)), .val (.int (0 : Int32))]) (by decide +kernel) rfl fun x T0 X0 => ?_
  have lt_a := k_ltE E_a; have lt_ta := A_ta.lt
  refine g_aloadN X0 d4_0 rfl rfl ?_
  refine g_callVp X0 d4_1 (w109 hw) (w110 hw) (w112 hw) (w111 hw) (w59 hw) (w113 hw) (by decide) pd0 a [] [] 0 E_a (c_coder hw hs a 0 cs (Or.inl rfl) (⟨ta, E_a, Fa_c, Fa_v, A_ta⟩ : StrV Z h0 a 0 cs)) rfl rfl rfl (Nat.le_of_eq rfl) (by decide) (by decide) 0 0 rfl rfl (by decide) (by decide) fun T1 X1 => ?_
  have hl := A.len
  refine g_iloadN X1 d4_4 rfl ?_
  refine g_icmpF X1 d4_5 (by decide) ?_
  refine g_aloadN X1 d4_8 rfl rfl ?_
  refine g_getfield X1 d4_9 (w108 hw) Via.refl Fa_v fun T2 X2 => ?_
  refine g_iconst X2 (0 : Int32) d4_12 (by decide) ?_
  refine g_aloadN X2 d4_13 rfl rfl ?_
  refine g_iloadN X2 d4_14 rfl ?_
  refine g_iloadN X2 d4_15 rfl ?_
  refine g_ishl X2 (Int32.ofNat m) d4_16 (k_shl0 _) ?_
  refine g_aloadN X2 d4_17 rfl rfl ?_
  refine g_getfield X2 d4_18 (w108 hw) Via.refl Fa_v fun T3 X3 => ?_
  refine g_arraylength X3 d4_21 A_ta (Int32.ofNat cs.length) (by simp) ?_
  refine g_arraycopy X3 d4_22 rfl (w132 hw) (w135 hw) (w133 hw) (w134 hw) A_ta A rfl 0 m cs.length (by simp) hm (by decide) rfl rfl rfl nb_t zl_t (Or.inl (List.mem_of_getElem? (i := 0) rfl)) 0 (Nat.le_of_eq rfl) (by decide) (by decide) fun T4 h4 X4 K4 A4 => ?_
  have z4 := K4.1
  refine g_goto X4 d4_25 ?_
  exact g_return X4 d4_43 (by decide) (by decide) ⟨rfl, rfl, by have q := A4; simp only [List.drop_zero, k_takeall] at q; exact q⟩
set_option maxRecDepth 65536 in
set_option maxHeartbeats 40000000 in
theorem c_putAt {nw : Bool} {l : Launch} {Z : State} {EL : List (String × Nat)} {a0 : Array Value} (hw : HW Z a0) (hs : Sts Z) {h0 : Heap} {B0 : BP} (s t a ta : Addr) (m : Nat) (cs : List Int32) (vs : List Value) (E_s : Exa Z h0 s "java/lang/StringBuilder") (Fs_value : Fld Z h0 s "java/lang/AbstractStringBuilder" "value" "[B" (.ref t)) (Fs_coder : Fld Z h0 s "java/lang/AbstractStringBuilder" "coder" "B" (.int 0)) (E_a : Exa Z h0 a "java/lang/String") (Fa_c : Fld Z h0 a "java/lang/String" "coder" "B" (.int 0)) (Fa_v : Fld Z h0 a "java/lang/String" "value" "[B" (.ref ta)) (A_ta : Ay Z h0 ta .byte (cs.map Value.int)) (A : Ay Z h0 t .byte vs) (hm : m + cs.length ≤ vs.length) (nt : @Ne Nat ta t) (nb_t : ¬ B0 t) (zl_t : Z.heap.size ≤ t)  :
    Con nw l Z EL (⟨"java/lang/AbstractStringBuilder", "putStringAt", "(ILjava/lang/String;)V"⟩ : MethodName) jdk_68_method_73_code 3 none [] ({ frames := 2, cells := 0, slots := 0, locals := 33 } : Room) #[(.ref s), (.int (Int32.ofNat m)), (.ref a)] h0 B0 [t] (fun v h B => v = none ∧ B0 = B ∧ Ay Z h t .byte (vs.take m ++ cs.map Value.int ++ vs.drop (m + cs.length))) := by
  refine k_intro (Ls := #[.val (.ref s), .val (.int (Int32.ofNat m)), .val (.ref a)]) (by decide +kernel) rfl fun x T0 X0 => ?_
  have lt_a := k_ltE E_a; have lt_ta := A_ta.lt
  refine g_aloadN X0 d5_0 rfl rfl ?_
  refine g_aloadN X0 d5_1 rfl rfl ?_
  refine g_callP X0 d5_2 (w121 hw) (w124 hw) (w122 hw) (w55 hw) (w125 hw) (by decide) pd1 s [(.ref a)] [] 0 E_s (c_inflIf hw hs s a cs Fs_coder (⟨ta, E_a, Fa_c, Fa_v, A_ta⟩ : StrV Z h0 a 0 cs)) rfl rfl rfl (Nat.le_of_eq rfl) (by decide) (by decide) 0 0 rfl rfl (by decide) (by decide) (fun _ q => nomatch q) fun v1 T1 h1 B1 X1 K1 M1 q1 => ?_
  obtain ⟨ea1, eb1, ec1⟩ := q1; have eb1 := eb1.symm; have ec1 := ec1.symm; subst ea1 eb1 ec1
  show Go x (T1.setTop (mkF x.m 5 #[.val (.ref s), .val (.int (Int32.ofNat m)), .val (.ref a)] []))
  refine g_aloadN X1 d5_5 rfl rfl ?_
  refine g_aloadN X1 d5_6 rfl rfl ?_
  refine g_getfield X1 d5_7 (w60 hw) Via.refl Fs_value fun T2 X2 => ?_
  refine g_iloadN X2 d5_10 rfl ?_
  refine g_aloadN X2 d5_11 rfl rfl ?_
  refine g_getfield X2 d5_12 (w62 hw) Via.refl Fs_coder fun T3 X3 => ?_
  refine g_callV X3 d5_15 (w127 hw) (w128 hw) (w130 hw) (w129 hw) (w59 hw) (w131 hw) (by decide) pd2 a [(.ref t), (.int (Int32.ofNat m)), (.int (0 : Int32))] [] 0 E_a (c_getBIB hw hs a ta t m cs vs E_a Fa_c Fa_v A_ta A hm nt nb_t zl_t) rfl rfl rfl (Nat.le_of_eq rfl) (by decide) (by decide) 0 0 rfl rfl (by decide) (by decide) (k_ws1 ⟨nb_t, zl_t, (Or.inl (List.mem_of_getElem? (i := 0) rfl))⟩) fun v4 T4 h4 B4 X4 K4 M4 q4 => ?_
  obtain ⟨rfl, rfl, R⟩ := q4
  have z4 := K4.1
  show Go x (T4.setTop (mkF x.m 18 #[.val (.ref s), .val (.int (Int32.ofNat m)), .val (.ref a)] []))
  exact g_return X4 d5_18 (by decide) (by decide) ⟨rfl, rfl, R⟩
set_option maxRecDepth 65536 in
set_option maxHeartbeats 40000000 in
theorem c_asbApp {nw : Bool} {l : Launch} {Z : State} {EL : List (String × Nat)} {a0 : Array Value} (hw : HW Z a0) (hs : Sts Z) {h0 : Heap} {B0 : BP} (s t a ta : Addr) (bs cs pd : List Int32) (S : SBS Z h0 s t bs pd) (E_a : Exa Z h0 a "java/lang/String") (Fa_c : Fld Z h0 a "java/lang/String" "coder" "B" (.int 0)) (Fa_v : Fld Z h0 a "java/lang/String" "value" "[B" (.ref ta)) (A_ta : Ay Z h0 ta .byte (cs.map Value.int)) (h16 : bs.length + pd.length = 16) (hm : cs.length ≤ pd.length) (nt : @Ne Nat ta t) (nb_s : ¬ B0 s) (zl_s : Z.heap.size ≤ s) (nb_t : ¬ B0 t) (zl_t : Z.heap.size ≤ t)  :
    Con nw l Z EL (⟨"java/lang/AbstractStringBuilder", "append", "(Ljava/lang/String;)Ljava/lang/AbstractStringBuilder;"⟩ : MethodName) jdk_68_method_22_code 3 (some (.object "java/lang/AbstractStringBuilder")) [] ({ frames := 3, cells := 0, slots := 0, locals := 47 } : Room) #[(.ref s), (.ref a)] h0 B0 [s, t] (fun v h B => v = some (.ref s) ∧ B0 = B ∧ SBS Z h s t (bs ++ cs) (pd.drop cs.length)) := by
  refine k_intro (Ls := #[.val (.ref s), .val (.ref a), .unset]) (by decide +kernel) rfl fun x T0 X0 => ?_
  obtain ⟨E_s, Fs_value, Fs_coder, Fs_count, A_t⟩ := S.op
  have lt_s := k_ltE E_s; have lt_t := A_t.lt
  have lt_s := k_ltE E_s
  have nst : s ≠ t := Ay.ne E_s (w46 hw) A_t
  have lt_a := k_ltE E_a; have lt_ta := A_ta.lt
  have hl : ((bs ++ pd).map Value.int).length = 16 := by simp; omega
  refine g_aloadN X0 d6_0 rfl rfl ?_
  refine g_ifnonnullT X0 d6_1 ?_
  refine g_aloadN X0 d6_9 rfl rfl ?_
  refine g_callVp X0 d6_10 (w103 hw) (w104 hw) (w106 hw) (w105 hw) (w59 hw) (w107 hw) (by decide) pd3 a [] [] 0 E_a (c_lengthL hw hs a cs (⟨ta, E_a, Fa_c, Fa_v, A_ta⟩ : StrV Z h0 a 0 cs)) rfl rfl rfl (Nat.le_of_eq rfl) (by decide) (by decide) 0 0 rfl rfl (by decide) (by decide) fun T1 X1 => ?_
  refine g_istoreN X1 #[.val (.ref s), .val (.ref a), .val (.int (Int32.ofNat cs.length))] d6_13 rfl ?_
  refine g_aloadN X1 d6_14 rfl rfl ?_
  refine g_aloadN X1 d6_15 rfl rfl ?_
  refine g_getfield X1 d6_16 (w85 hw) Via.refl Fs_count fun T2 X2 => ?_
  refine g_iloadN X2 d6_19 rfl ?_
  refine g_iadd X2 (Int32.ofNat (bs.length + cs.length)) d6_20 (k_add _ _) ?_
  refine g_callP X2 d6_21 (w87 hw) (w90 hw) (w88 hw) (w55 hw) (w91 hw) (by decide) pd4 s [(.int (Int32.ofNat (bs.length + cs.length)))] [] 0 E_s (c_ensure hw hs s t (bs.length + cs.length) _ Fs_value Fs_coder A_t hl (by omega)) rfl rfl rfl (Nat.le_of_eq rfl) (by decide) (by decide) 0 0 rfl rfl (by decide) (by decide) (fun _ q => nomatch q) fun v3 T3 h3 B3 X3 K3 M3 q3 => ?_
  obtain ⟨ea3, eb3, ec3⟩ := q3; have eb3 := eb3.symm; have ec3 := ec3.symm; subst ea3 eb3 ec3
  show Go x (T3.setTop (mkF x.m 24 #[.val (.ref s), .val (.ref a), .val (.int (Int32.ofNat cs.length))] []))
  refine g_aloadN X3 d6_24 rfl rfl ?_
  refine g_aloadN X3 d6_25 rfl rfl ?_
  refine g_getfield X3 d6_26 (w85 hw) Via.refl Fs_count fun T4 X4 => ?_
  refine g_aloadN X4 d6_29 rfl rfl ?_
  refine g_callP X4 d6_30 (w116 hw) (w119 hw) (w117 hw) (w55 hw) (w120 hw) (by decide) pd5 s [(.int (Int32.ofNat bs.length)), (.ref a)] [] 0 E_s (c_putAt hw hs s t a ta bs.length cs _ E_s Fs_value Fs_coder E_a Fa_c Fa_v A_ta A_t (by rw [hl]; omega) nt nb_t zl_t) rfl rfl rfl (Nat.le_of_eq rfl) (by decide) (by decide) 0 0 rfl rfl (by decide) (by decide) (k_ws1 ⟨nb_t, zl_t, (Or.inl (List.mem_of_getElem? (i := 1) rfl))⟩) fun v5 T5 h5 B5 X5 K5 M5 q5 => ?_
  obtain ⟨rfl, rfl, At'⟩ := q5
  have z5 := K5.1
  show Go x (T5.setTop (mkF x.m 33 #[.val (.ref s), .val (.ref a), .val (.int (Int32.ofNat cs.length))] []))
  refine g_aloadN X5 d6_33 rfl rfl ?_
  refine g_dup X5 d6_34 rfl ?_
  have F6 := (Fs_count.keep K5 (ninS nst nin0))
  refine g_getfield X5 d6_35 (w85 hw) Via.refl F6 fun T7 X7 => ?_
  refine g_iloadN X7 d6_38 rfl ?_
  refine g_iadd X7 (Int32.ofNat (bs ++ cs).length) d6_39 ((k_add _ _).trans (by simp)) ?_
  have E_8 := (E_s.keep K5)
  refine g_putfield X7 d6_40 (w85 hw) Via.refl F6 E_8 (Or.inl (w86 hw)) (w46 hw) (ty := .int) (v' := (.int (Int32.ofNat (bs ++ cs).length))) (by decide) rfl rfl nb_s zl_s (Or.inl (List.mem_of_getElem? (i := 0) rfl)) fun T9 h9 X9 W9 => ?_
  have z9 := W9.size; have Fw9 := F6.same W9
  refine g_aloadN X9 d6_43 rfl rfl ?_
  have E_10 := (E_8.wr W9)
  have F11 := ((Fs_value.keep K5 (ninS nst nin0)).other W9 (Or.inr (slot_ne (Or.inl (w61 hw)) (Or.inl (w86 hw)) (by decide) (t := (.array .byte)) (t' := .int) (by decide) (by decide))))
  have F12 := ((Fs_coder.keep K5 (ninS nst nin0)).other W9 (Or.inr (slot_ne (Or.inl (w63 hw)) (Or.inl (w86 hw)) (by decide) (t := .byte) (t' := .int) (by decide) (by decide))))
  have A13 := (At'.keep (Keep.of_wr W9) (ninS (Ne.symm nst) nin0))
  exact g_areturn X9 d6_44 rfl rfl rfl (by decide) (by decide) ⟨rfl, rfl, E_10, F11, F12, Fw9, k_sbapp A13⟩
set_option maxRecDepth 65536 in
set_option maxHeartbeats 40000000 in
theorem c_sbApp {nw : Bool} {l : Launch} {Z : State} {EL : List (String × Nat)} {a0 : Array Value} (hw : HW Z a0) (hs : Sts Z) {h0 : Heap} {B0 : BP} (s t a ta : Addr) (bs cs pd : List Int32) (S : SBS Z h0 s t bs pd) (E_a : Exa Z h0 a "java/lang/String") (Fa_c : Fld Z h0 a "java/lang/String" "coder" "B" (.int 0)) (Fa_v : Fld Z h0 a "java/lang/String" "value" "[B" (.ref ta)) (A_ta : Ay Z h0 ta .byte (cs.map Value.int)) (h16 : bs.length + pd.length = 16) (hm : cs.length ≤ pd.length) (nt : @Ne Nat ta t) (nb_s : ¬ B0 s) (zl_s : Z.heap.size ≤ s) (nb_t : ¬ B0 t) (zl_t : Z.heap.size ≤ t)  :
    Con nw l Z EL (⟨"java/lang/StringBuilder", "append", "(Ljava/lang/String;)Ljava/lang/StringBuilder;"⟩ : MethodName) jdk_67_method_7_code 2 (some (.object "java/lang/StringBuilder")) [] ({ frames := 4, cells := 0, slots := 0, locals := 61 } : Room) #[(.ref s), (.ref a)] h0 B0 [s, t] (fun v h B => v = some (.ref s) ∧ B0 = B ∧ SBS Z h s t (bs ++ cs) (pd.drop cs.length)) := by
  refine k_intro (Ls := #[.val (.ref s), .val (.ref a)]) (by decide +kernel) rfl fun x T0 X0 => ?_
  have E_s := S.op.1
  refine g_aloadN X0 d7_0 rfl rfl ?_
  refine g_aloadN X0 d7_1 rfl rfl ?_
  refine g_callU X0 d7_2 (w75 hw) (w77 hw) (w83 hw) rfl (by decide) (w76 hw) (w55 hw) (w79 hw) (by decide) pd6 s [(.ref a)] [] 0 E_s (c_asbApp hw hs s t a ta bs cs pd S E_a Fa_c Fa_v A_ta h16 hm nt nb_s zl_s nb_t zl_t) rfl rfl rfl (Nat.le_of_eq rfl) (by decide) (by decide) 0 0 rfl rfl (by decide) (by decide) (k_wsC ⟨nb_s, zl_s, (Or.inl (List.mem_of_getElem? (i := 0) rfl))⟩ (k_wsC ⟨nb_t, zl_t, (Or.inl (List.mem_of_getElem? (i := 1) rfl))⟩ (fun _ q => nomatch q))) fun v1 T1 h1 B1 X1 K1 M1 q1 => ?_
  obtain ⟨rfl, rfl, R⟩ := q1
  have z1 := K1.1
  show Go x (T1.setTop (mkF x.m 5 #[.val (.ref s), .val (.ref a)] [(.ref s)]))
  refine g_pop X1 d7_5 rfl ?_
  refine g_aloadN X1 d7_6 rfl rfl ?_
  exact g_areturn X1 d7_7 rfl rfl rfl (by decide) (by decide) ⟨rfl, rfl, R⟩
set_option maxRecDepth 65536 in
set_option maxHeartbeats 40000000 in
theorem c_checkLength {nw : Bool} {l : Launch} {Z : State} {EL : List (String × Nat)} {a0 : Array Value} (hw : HW Z a0) (hs : Sts Z) {h0 : Heap} {B0 : BP} (b e : Int32) (h : ¬ e < b) :
    Con nw l Z EL (⟨"java/util/Arrays", "checkLength", "(II)V"⟩ : MethodName) jdk_65_method_131_code 2 none [] ({ frames := 0, cells := 0, slots := 0, locals := 0 } : Room) #[(.int b), (.int e)] h0 B0 [] (PQ none h0 B0) := by
  refine k_intro (Ls := #[.val (.int b), .val (.int e)]) (by decide +kernel) rfl fun x T0 X0 => ?_
  refine g_iloadN X0 d8_0 rfl ?_
  refine g_iloadN X0 d8_1 rfl ?_
  refine g_icmpT X0 d8_2 (XT.ii_ge_t h) ?_
  exact g_return X0 d8_37 (by decide) (by decide) ⟨rfl, rfl, rfl⟩
set_option maxRecDepth 65536 in
set_option maxHeartbeats 40000000 in
theorem c_min {nw : Bool} {l : Launch} {Z : State} {EL : List (String × Nat)} {a0 : Array Value} (hw : HW Z a0) (hs : Sts Z) {h0 : Heap} {B0 : BP} (u v r : Int32) (hr : (if v < u then v else u) = r) :
    Con nw l Z EL (⟨"java/lang/Math", "min", "(II)I"⟩ : MethodName) jdk_29_method_69_code 2 (some .int) [] ({ frames := 0, cells := 0, slots := 0, locals := 0 } : Room) #[(.int u), (.int v)] h0 B0 [] (PQ (some (.int r)) h0 B0) := by
  refine k_intro (Ls := #[.val (.int u), .val (.int v)]) (by decide +kernel) rfl fun x T0 X0 => ?_
  refine g_iloadN X0 d9_0 rfl ?_
  refine g_iloadN X0 d9_1 rfl ?_
  by_cases h : v < u
  ·
    refine g_icmpT X0 d9_2 (XT.ii_gt_t h) ?_
    refine g_iloadN X0 d9_9 rfl ?_
    exact g_ireturnI X0 d9_10 (by decide) (by decide) ⟨by rw [← hr, if_pos h], rfl, rfl⟩
  ·
    refine g_icmpF X0 d9_2 (XT.ii_gt_f h) ?_
    refine g_iloadN X0 d9_5 rfl ?_
    refine g_goto X0 d9_6 ?_
    exact g_ireturnI X0 d9_10 (by decide) (by decide) ⟨by rw [← hr, if_neg h], rfl, rfl⟩
set_option maxRecDepth 65536 in
set_option maxHeartbeats 40000000 in
theorem c_corbE {nw : Bool} {l : Launch} {Z : State} {EL : List (String × Nat)} {a0 : Array Value} (hw : HW Z a0) (hs : Sts Z) {h0 : Heap} {B0 : BP} (t : Addr) (e : Nat) (vs : List Value) (A : Ay Z h0 t .byte vs) (he : e ≤ vs.length) (hcap : e ≤ 16) :
    Con nw l Z EL (⟨"java/util/Arrays", "copyOfRangeByte", "([BII)[B"⟩ : MethodName) jdk_65_method_133_code 5 (some (.array .byte)) [] ({ frames := 1, cells := 1, slots := 16, locals := 18 } : Room) #[(.ref t), (.int (0 : Int32)), (.int (Int32.ofNat e))] h0 B0 [] (fun v h B => ∃ r, v = some (.ref r) ∧ B0 = B ∧ h0.size ≤ r ∧ ¬ B r ∧ Ay Z h r .byte (vs.take e) ∧ Exa Z h r "[B") := by
  refine k_intro (Ls := #[.val (.ref t), .val (.int (0 : Int32)), .val (.int (Int32.ofNat e)), .unset, .unset]) (by decide +kernel) rfl fun x T0 X0 => ?_
  have hl := A.len
  have lt_t := A.lt
  refine g_iloadN X0 d10_0 rfl ?_
  refine g_iloadN X0 d10_1 rfl ?_
  refine g_callSp0 X0 d10_2 (w171 hw) (w172 hw) (w166 hw) (w173 hw) (by decide) pd7 [(.int (0 : Int32)), (.int (Int32.ofNat e))] [] 0 (c_checkLength hw hs _ _ (k_nn (by omega))) rfl rfl rfl (Nat.le_of_eq rfl) (by decide) (by decide) 0 0 rfl rfl (by decide) (by decide) fun T1 X1 => ?_
  refine g_iloadN X1 d10_5 rfl ?_
  refine g_iloadN X1 d10_6 rfl ?_
  refine g_isub X1 (Int32.ofNat e) d10_7 (by simp) ?_
  refine g_istoreN X1 #[.val (.ref t), .val (.int (0 : Int32)), .val (.int (Int32.ofNat e)), .val (.int (Int32.ofNat e)), .unset] d10_8 rfl ?_
  refine g_iloadN X1 d10_9 rfl ?_
  refine g_newarrayE X1 d10_10 rfl (ad := "[B") (by decide) (w6 hw) e 16 rfl hcap (by decide) 1 16 rfl rfl (by decide) (by decide) fun T2 h2 b2 X2 E2 eb2 nb2 A2 Ea2 => ?_
  have z2 := E2.1; have lt2 : @LT.lt Nat _ b2 h2.size := A2.lt; have zl2 : @LE.le Nat _ Z.heap.size b2 := eb2 ▸ X1.szZ; have fr2 : @LE.le Nat _ h0.size b2 := eb2 ▸ X1.sz
  refine g_astore X2 #[.val (.ref t), .val (.int (0 : Int32)), .val (.int (Int32.ofNat e)), .val (.int (Int32.ofNat e)), .val (.ref b2)] d10_12 rfl rfl ?_
  refine g_aloadN X2 d10_14 rfl rfl ?_
  refine g_iloadN X2 d10_15 rfl ?_
  refine g_aload X2 d10_16 rfl rfl ?_
  refine g_iconst X2 (0 : Int32) d10_18 (by decide) ?_
  refine g_aloadN X2 d10_19 rfl rfl ?_
  have A3 := (A.ext E2)
  refine g_arraylength X2 d10_20 A3 (Int32.ofNat vs.length) rfl ?_
  refine g_iloadN X2 d10_21 rfl ?_
  refine g_isub X2 (Int32.ofNat vs.length) d10_22 (by simp) ?_
  refine g_iloadN X2 d10_23 rfl ?_
  refine g_callSp X2 d10_24 (w174 hw) (w175 hw) (w176 hw) (w177 hw) (by decide) pd8 [(.int (Int32.ofNat vs.length)), (.int (Int32.ofNat e))] [(.int (0 : Int32)), (.ref b2), (.int (0 : Int32)), (.ref t)] 4 (c_min hw hs (Int32.ofNat vs.length) (Int32.ofNat e) (Int32.ofNat e) (k_min he hl)) rfl rfl rfl (Nat.le_of_eq rfl) (by decide) (by decide) 1 16 rfl rfl (by decide) (by decide) fun T4 X4 => ?_
  refine g_arraycopy X4 d10_27 rfl (w178 hw) (w135 hw) (w133 hw) (w134 hw) A3 A2 rfl 0 0 e (by omega) (by simp) (by decide) (by decide) rfl rfl nb2 zl2 (Or.inr fr2) 0 (Nat.le_of_eq rfl) (by decide) (by decide) fun T5 h5 X5 K5 A5 => ?_
  have z5 := K5.1
  refine g_aload X5 d10_30 rfl rfl ?_
  have E_6 := (Ea2.keep K5)
  exact g_areturn X5 d10_32 rfl rfl rfl (by decide) (by decide) ⟨_, rfl, rfl, fr2, nb2, by simpa using A5, E_6⟩
set_option maxRecDepth 65536 in
set_option maxHeartbeats 40000000 in
theorem c_cor0 {nw : Bool} {l : Launch} {Z : State} {EL : List (String × Nat)} {a0 : Array Value} (hw : HW Z a0) (hs : Sts Z) {h0 : Heap} {B0 : BP} (t : Addr) (e : Nat) (vs : List Value) (A : Ay Z h0 t .byte vs) (he : e < vs.length) (hcap : e ≤ 16) :
    Con nw l Z EL (⟨"java/util/Arrays", "copyOfRange", "([BII)[B"⟩ : MethodName) jdk_65_method_132_code 3 (some (.array .byte)) [] ({ frames := 2, cells := 1, slots := 16, locals := 34 } : Room) #[(.ref t), (.int (0 : Int32)), (.int (Int32.ofNat e))] h0 B0 [] (fun v h B => ∃ r, v = some (.ref r) ∧ B0 = B ∧ h0.size ≤ r ∧ ¬ B r ∧ Ay Z h r .byte (vs.take e) ∧ Exa Z h r "[B") := by
  refine k_intro (Ls := #[.val (.ref t), .val (.int (0 : Int32)), .val (.int (Int32.ofNat e))]) (by decide +kernel) rfl fun x T0 X0 => ?_
  have hl := A.len
  refine g_iloadN X0 d11_0 rfl ?_
  refine g_ifF X0 d11_1 (by decide) ?_
  refine g_iloadN X0 d11_4 rfl ?_
  refine g_aloadN X0 d11_5 rfl rfl ?_
  refine g_arraylength X0 d11_6 A (Int32.ofNat vs.length) rfl ?_
  refine g_icmpF X0 d11_7 (XT.ii_eq_f (fun g => absurd ((k_eqn (by omega) hl).mp g) (by omega))) ?_
  refine g_aloadN X0 d11_10 rfl rfl ?_
  refine g_iloadN X0 d11_11 rfl ?_
  refine g_iloadN X0 d11_12 rfl ?_
  refine g_callS X0 d11_13 (w168 hw) (w169 hw) (w166 hw) (w170 hw) (by decide) pd9 [(.ref t), (.int (0 : Int32)), (.int (Int32.ofNat e))] [] 0 (c_corbE hw hs t e vs A (by omega) hcap) rfl rfl rfl (Nat.le_of_eq rfl) (by decide) (by decide) 1 16 rfl rfl (by decide) (by decide) (fun _ q => nomatch q) fun v1 T1 h1 B1 X1 K1 M1 q1 => ?_
  obtain ⟨r, rfl, rfl, fr, nbr, Ar, Er⟩ := q1
  have z1 := K1.1
  show Go x (T1.setTop (mkF x.m 16 #[.val (.ref t), .val (.int (0 : Int32)), .val (.int (Int32.ofNat e))] [(.ref r)]))
  exact g_areturn X1 d11_16 rfl rfl rfl (by decide) (by decide) ⟨_, rfl, rfl, fr, nbr, Ar, Er⟩
set_option maxRecDepth 65536 in
set_option maxHeartbeats 40000000 in
theorem c_getValue {nw : Bool} {l : Launch} {Z : State} {EL : List (String × Nat)} {a0 : Array Value} (hw : HW Z a0) (hs : Sts Z) {h0 : Heap} {B0 : BP} (s t : Addr) (F : Fld Z h0 s "java/lang/AbstractStringBuilder" "value" "[B" (.ref t)) :
    Con nw l Z EL (⟨"java/lang/AbstractStringBuilder", "getValue", "()[B"⟩ : MethodName) jdk_68_method_64_code 1 (some (.array .byte)) [] ({ frames := 0, cells := 0, slots := 0, locals := 0 } : Room) #[(.ref s)] h0 B0 [] (PQ (some (.ref t)) h0 B0) := by
  refine k_intro (Ls := #[.val (.ref s)]) (by decide +kernel) rfl fun x T0 X0 => ?_
  refine g_aloadN X0 d12_0 rfl rfl ?_
  refine g_getfield X0 d12_1 (w60 hw) Via.refl F fun T1 X1 => ?_
  exact g_areturn X1 d12_4 rfl rfl rfl (by decide) (by decide) ⟨rfl, rfl, rfl⟩
set_option maxRecDepth 65536 in
set_option maxHeartbeats 40000000 in
theorem c_asbLen {nw : Bool} {l : Launch} {Z : State} {EL : List (String × Nat)} {a0 : Array Value} (hw : HW Z a0) (hs : Sts Z) {h0 : Heap} {B0 : BP} (s : Addr) (n : Int32) (F : Fld Z h0 s "java/lang/AbstractStringBuilder" "count" "I" (.int n)) :
    Con nw l Z EL (⟨"java/lang/AbstractStringBuilder", "length", "()I"⟩ : MethodName) jdk_68_method_6_code 1 (some .int) [] ({ frames := 0, cells := 0, slots := 0, locals := 0 } : Room) #[(.ref s)] h0 B0 [] (PQ (some (.int n)) h0 B0) := by
  refine k_intro (Ls := #[.val (.ref s)]) (by decide +kernel) rfl fun x T0 X0 => ?_
  refine g_aloadN X0 d13_0 rfl rfl ?_
  refine g_getfield X0 d13_1 (w85 hw) Via.refl F fun T1 X1 => ?_
  exact g_ireturnI X1 d13_4 (by decide) (by decide) ⟨rfl, rfl, rfl⟩
set_option maxRecDepth 65536 in
set_option maxHeartbeats 40000000 in
theorem c_sbLen {nw : Bool} {l : Launch} {Z : State} {EL : List (String × Nat)} {a0 : Array Value} (hw : HW Z a0) (hs : Sts Z) {h0 : Heap} {B0 : BP} (s : Addr) (n : Int32) (E_s : Exa Z h0 s "java/lang/StringBuilder") (F : Fld Z h0 s "java/lang/AbstractStringBuilder" "count" "I" (.int n)) :
    Con nw l Z EL (⟨"java/lang/StringBuilder", "length", "()I"⟩ : MethodName) jdk_67_method_93_code 1 (some .int) [] ({ frames := 1, cells := 0, slots := 0, locals := 12 } : Room) #[(.ref s)] h0 B0 [] (PQ (some (.int n)) h0 B0) := by
  refine k_intro (Ls := #[.val (.ref s)]) (by decide +kernel) rfl fun x T0 X0 => ?_
  refine g_aloadN X0 d14_0 rfl rfl ?_
  refine g_callU X0 d14_1 (w161 hw) (w77 hw) (w83 hw) rfl (by decide) (w157 hw) (w55 hw) (w162 hw) (by decide) pd3 s [] [] 0 E_s (c_asbLen hw hs s n F) rfl rfl rfl (Nat.le_of_eq rfl) (by decide) (by decide) 0 0 rfl rfl (by decide) (by decide) (fun _ q => nomatch q) fun v1 T1 h1 B1 X1 K1 M1 q1 => ?_
  obtain ⟨ea1, eb1, ec1⟩ := q1; have eb1 := eb1.symm; have ec1 := ec1.symm; subst ea1 eb1 ec1
  show Go x (T1.setTop (mkF x.m 4 #[.val (.ref s)] [(.int n)]))
  exact g_ireturnI X1 d14_4 (by decide) (by decide) ⟨rfl, rfl, rfl⟩
set_option maxRecDepth 65536 in
set_option maxHeartbeats 40000000 in
theorem c_asbLat {nw : Bool} {l : Launch} {Z : State} {EL : List (String × Nat)} {a0 : Array Value} (hw : HW Z a0) (hs : Sts Z) {h0 : Heap} {B0 : BP} (s : Addr) (F : Fld Z h0 s "java/lang/AbstractStringBuilder" "coder" "B" (.int 0)) :
    Con nw l Z EL (⟨"java/lang/AbstractStringBuilder", "isLatin1", "()Z"⟩ : MethodName) jdk_68_method_68_code 1 (some .boolean) [] ({ frames := 0, cells := 0, slots := 0, locals := 0 } : Room) #[(.ref s)] h0 B0 [] (PQ (some (.int (1 : Int32))) h0 B0) := by
  refine k_intro (Ls := #[.val (.ref s)]) (by decide +kernel) rfl fun x T0 X0 => ?_
  obtain ⟨cv, sCS, ncv⟩ := hs.1
  refine g_getstatic X0 d15_0 (w58 hw) Via.refl sCS fun T1 X1 => ?_
  refine g_ifF X1 d15_3 (XT.i0_eq_f ncv) ?_
  refine g_aloadN X1 d15_6 rfl rfl ?_
  refine g_getfield X1 d15_7 (w62 hw) Via.refl F fun T2 X2 => ?_
  refine g_ifF X2 d15_10 (by decide) ?_
  refine g_iconst X2 (1 : Int32) d15_13 (by decide) ?_
  refine g_goto X2 d15_14 ?_
  exact g_ireturn (w' := (1 : Int32)) X2 d15_18 (Or.inl rfl) (by decide) (by decide) (by decide) ⟨rfl, rfl, rfl⟩
set_option maxRecDepth 65536 in
set_option maxHeartbeats 40000000 in
theorem c_initAV {nw : Bool} {l : Launch} {Z : State} {EL : List (String × Nat)} {a0 : Array Value} (hw : HW Z a0) (hs : Sts Z) {h0 : Heap} {B0 : BP} (a s t : Addr) (bs pd : List Int32) (E_a : Exa Z h0 a "java/lang/String") {u_value : Value} (F_value : Fld Z h0 a "java/lang/String" "value" "[B" u_value) {u_coder : Value} (F_coder : Fld Z h0 a "java/lang/String" "coder" "B" u_coder) (nb : ¬ B0 a) (zl : Z.heap.size ≤ a) (S : SBS Z h0 s t bs pd) (h16 : bs.length + pd.length = 16) (hlt : bs.length < 16) :
    Con nw l Z EL (⟨"java/lang/String", "<init>", "(Ljava/lang/AbstractStringBuilder;Ljava/lang/Void;)V"⟩ : MethodName) jdk_42_method_150_code 5 none [] ({ frames := 3, cells := 1, slots := 16, locals := 49 } : Room) #[(.ref a), (.ref s), .null] h0 B0 [a] (fun v h B => ∃ r, v = none ∧ B0 = B ∧ h0.size ≤ r ∧ ¬ B r ∧ Exa Z h a "java/lang/String" ∧ Fld Z h a "java/lang/String" "coder" "B" (.int 0) ∧ Fld Z h a "java/lang/String" "value" "[B" (.ref r) ∧ Ay Z h r .byte (bs.map Value.int) ∧ Exa Z h r "[B") := by
  refine k_intro (Ls := #[.val (.ref a), .val (.ref s), .val .null, .unset, .unset]) (by decide +kernel) rfl fun x T0 X0 => ?_
  obtain ⟨cv, sCS, ncv⟩ := hs.1
  have lt_a := k_ltE E_a
  obtain ⟨E_s, Fs_value, Fs_coder, Fs_count, A_t⟩ := S.op
  have lt_s := k_ltE E_s; have lt_t := A_t.lt
  have lt_s := k_ltE E_s
  have nst : s ≠ t := Ay.ne E_s (w46 hw) A_t
  have nas : a ≠ s := ne_exa E_a E_s (by decide)
  have nat' : a ≠ t := Ay.ne E_a (w98 hw) A_t
  have hl : ((bs ++ pd).map Value.int).length = 16 := by simp; omega
  refine g_aloadN X0 d16_0 rfl rfl ?_
  refine g_init X0 d16_1 rfl rfl (w149 hw) (w26 hw) (w27 hw) 0 rfl (by decide) (Nat.le_of_eq rfl) (by decide) fun T1 X1 => ?_
  refine g_aloadN X1 d16_4 rfl rfl ?_
  refine g_callVp X1 d16_5 (w150 hw) (w151 hw) (w153 hw) (w152 hw) (w55 hw) (w154 hw) (by decide) pd10 s [] [] 0 E_s (c_getValue hw hs s t Fs_value) rfl rfl rfl (Nat.le_of_eq rfl) (by decide) (by decide) 0 0 rfl rfl (by decide) (by decide) fun T2 X2 => ?_
  refine g_astoreN X2 #[.val (.ref a), .val (.ref s), .val .null, .val (.ref t), .unset] d16_8 rfl rfl ?_
  refine g_aloadN X2 d16_9 rfl rfl ?_
  refine g_callW X2 d16_10 (w155 hw) (w156 hw) (w158 hw) (w159 hw) (w47 hw) (w160 hw) (w83 hw) rfl (by decide) pd3 s [] [] 0 E_s (c_sbLen hw hs s _ E_s Fs_count) rfl rfl rfl (Nat.le_of_eq rfl) (by decide) (by decide) 0 0 rfl rfl (by decide) (by decide) (fun _ q => nomatch q) fun v3 T3 h3 B3 X3 K3 M3 q3 => ?_
  obtain ⟨ea3, eb3, ec3⟩ := q3; have eb3 := eb3.symm; have ec3 := ec3.symm; subst ea3 eb3 ec3
  show Go x (T3.setTop (mkF x.m 13 #[.val (.ref a), .val (.ref s), .val .null, .val (.ref t), .unset] [(.int (Int32.ofNat bs.length))]))
  refine g_istore X3 #[.val (.ref a), .val (.ref s), .val .null, .val (.ref t), .val (.int (Int32.ofNat bs.length))] d16_13 rfl ?_
  refine g_aloadN X3 d16_15 rfl rfl ?_
  refine g_callVp X3 d16_16 (w163 hw) (w93 hw) (w95 hw) (w94 hw) (w55 hw) (w96 hw) (by decide) pd11 s [] [] 0 E_s (c_asbLat hw hs s Fs_coder) rfl rfl rfl (Nat.le_of_eq rfl) (by decide) (by decide) 0 0 rfl rfl (by decide) (by decide) fun T4 X4 => ?_
  refine g_ifF X4 d16_19 (by decide) ?_
  refine g_aloadN X4 d16_22 rfl rfl ?_
  refine g_iconst X4 (0 : Int32) d16_23 (by decide) ?_
  refine g_putfield X4 d16_24 (w115 hw) Via.refl F_coder E_a (Or.inr ⟨(w100 hw), rfl, rfl⟩) (w98 hw) (ty := .byte) (v' := (.int (0 : Int32))) (by decide) rfl rfl nb zl (Or.inl (List.mem_of_getElem? (i := 0) rfl)) fun T5 h5 X5 W5 => ?_
  have z5 := W5.size; have Fw5 := F_coder.same W5
  refine g_aloadN X5 d16_27 rfl rfl ?_
  refine g_aloadN X5 d16_28 rfl rfl ?_
  refine g_iconst X5 (0 : Int32) d16_29 (by decide) ?_
  refine g_iload X5 d16_30 rfl ?_
  have A6 := (A_t.keep (Keep.of_wr W5) (ninS (Ne.symm nat') nin0))
  refine g_callS X5 d16_32 (w164 hw) (w165 hw) (w166 hw) (w167 hw) (by decide) pd9 [(.ref t), (.int (0 : Int32)), (.int (Int32.ofNat bs.length))] [(.ref a)] 1 (c_cor0 hw hs t bs.length _ A6 (by rw [hl]; exact hlt) (by omega)) rfl rfl rfl (Nat.le_of_eq rfl) (by decide) (by decide) 1 16 rfl rfl (by decide) (by decide) (fun _ q => nomatch q) fun v7 T7 h7 B7 X7 K7 M7 q7 => ?_
  obtain ⟨r, rfl, rfl, fr, nbr, Ar, Er⟩ := q7
  have z7 := K7.1
  show Go x (T7.setTop (mkF x.m 35 #[.val (.ref a), .val (.ref s), .val .null, .val (.ref t), .val (.int (Int32.ofNat bs.length))] [(.ref r), (.ref a)]))
  have lt_r := Ar.lt
  have F8 := ((F_value.other W5 (Or.inr (slot_ne (Or.inr (w99 hw)) (Or.inr (w100 hw)) (by decide) (t := (.array .byte)) (t' := .byte) (by decide) (by decide)))).keep K7 nin0)
  have E_9 := ((E_a.wr W5).keep K7)
  refine g_putfield X7 d16_35 (w108 hw) Via.refl F8 E_9 (Or.inr ⟨(w99 hw), rfl, rfl⟩) (w98 hw) (ty := (.array .byte)) (v' := (.ref r)) (by decide) rfl rfl nb zl (Or.inl (List.mem_of_getElem? (i := 0) rfl)) fun T10 h10 X10 W10 => ?_
  have z10 := W10.size; have Fw10 := F8.same W10
  refine g_goto X10 d16_38 ?_
  have E_11 := (E_9.wr W10)
  have F12 := ((Fw5.keep K7 nin0).other W10 (Or.inr (slot_ne (Or.inr (w100 hw)) (Or.inr (w99 hw)) (by decide) (t := .byte) (t' := (.array .byte)) (by decide) (by decide))))
  have A13 := (Ar.keep (Keep.of_wr W10) (ninS (k_neN (by omega)) nin0))
  have E_14 := (Er.wr W10)
  exact g_return X10 d16_97 (by decide) (by decide) ⟨r, rfl, rfl, by omega, nbr, E_11, F12, Fw10, by simpa using A13, E_14⟩
set_option maxRecDepth 65536 in
set_option maxHeartbeats 40000000 in
theorem c_initSBd {nw : Bool} {l : Launch} {Z : State} {EL : List (String × Nat)} {a0 : Array Value} (hw : HW Z a0) (hs : Sts Z) {h0 : Heap} {B0 : BP} (a s t : Addr) (bs pd : List Int32) (E_a : Exa Z h0 a "java/lang/String") {u_value : Value} (F_value : Fld Z h0 a "java/lang/String" "value" "[B" u_value) {u_coder : Value} (F_coder : Fld Z h0 a "java/lang/String" "coder" "B" u_coder) (nb : ¬ B0 a) (zl : Z.heap.size ≤ a) (S : SBS Z h0 s t bs pd) (h16 : bs.length + pd.length = 16) (hlt : bs.length < 16) :
    Con nw l Z EL (⟨"java/lang/String", "<init>", "(Ljava/lang/StringBuilder;)V"⟩ : MethodName) jdk_42_method_53_code 2 none [] ({ frames := 4, cells := 1, slots := 16, locals := 65 } : Room) #[(.ref a), (.ref s)] h0 B0 [a] (fun v h B => ∃ r, v = none ∧ B0 = B ∧ h0.size ≤ r ∧ ¬ B r ∧ Exa Z h a "java/lang/String" ∧ Fld Z h a "java/lang/String" "coder" "B" (.int 0) ∧ Fld Z h a "java/lang/String" "value" "[B" (.ref r) ∧ Ay Z h r .byte (bs.map Value.int) ∧ Exa Z h r "[B") := by
  refine k_intro (Ls := #[.val (.ref a), .val (.ref s)]) (by decide +kernel) rfl fun x T0 X0 => ?_
  have lt_a := k_ltE E_a
  refine g_aloadN X0 d17_0 rfl rfl ?_
  refine g_aloadN X0 d17_1 rfl rfl ?_
  refine g_aconst_null X0 d17_2 ?_
  refine g_callI X0 d17_3 (w146 hw) (w147 hw) (w59 hw) (w148 hw) rfl (by decide) pd12 a [(.ref s), .null] [] 0 (c_initAV hw hs a s t bs pd E_a F_value F_coder nb zl S h16 hlt) rfl rfl rfl (Nat.le_of_eq rfl) (by decide) (by decide) 1 16 rfl rfl (by decide) (by decide) (k_ws1 ⟨nb, zl, (Or.inl (List.mem_of_getElem? (i := 0) rfl))⟩) fun v1 T1 h1 B1 X1 K1 M1 q1 => ?_
  obtain ⟨r, rfl, rfl, R⟩ := q1
  have z1 := K1.1
  show Go x (T1.setTop (mkF x.m 6 #[.val (.ref a), .val (.ref s)] []))
  exact g_return X1 d17_6 (by decide) (by decide) ⟨r, rfl, rfl, R⟩
set_option maxRecDepth 65536 in
set_option maxHeartbeats 40000000 in
theorem c_toStr {nw : Bool} {l : Launch} {Z : State} {EL : List (String × Nat)} {a0 : Array Value} (hw : HW Z a0) (hs : Sts Z) {h0 : Heap} {B0 : BP} (s t : Addr) (bs pd : List Int32) (S : SBS Z h0 s t bs pd) (h16 : bs.length + pd.length = 16) (hlt : bs.length < 16) :
    Con nw l Z EL (⟨"java/lang/StringBuilder", "toString", "()Ljava/lang/String;"⟩ : MethodName) jdk_67_method_42_code 1 (some (.object "java/lang/String")) [] ({ frames := 5, cells := 2, slots := 20, locals := 79 } : Room) #[(.ref s)] h0 B0 [] (fun v h B => ∃ a r, v = some (.ref a) ∧ B0 = B ∧ h0.size ≤ a ∧ ¬ B a ∧ h0.size ≤ r ∧ ¬ B r ∧ Exa Z h a "java/lang/String" ∧ Fld Z h a "java/lang/String" "coder" "B" (.int 0) ∧ Fld Z h a "java/lang/String" "value" "[B" (.ref r) ∧ Ay Z h r .byte (bs.map Value.int) ∧ Exa Z h r "[B") := by
  refine k_intro (Ls := #[.val (.ref s)]) (by decide +kernel) rfl fun x T0 X0 => ?_
  have E_s := S.op.1; have lt_s := k_ltE E_s
  refine g_new X0 d18_0 (w141 hw) (w98 hw) (w59 hw) 1 4 rfl rfl (by decide) (by decide) fun T1 h1 b1 X1 E1 eb1 nb1 Ex1 D1 => ?_
  have z1 := E1.1; have lt1 : @LT.lt Nat _ b1 h1.size := Ex1.lt; have zl1 : @LE.le Nat _ Z.heap.size b1 := eb1 ▸ X0.szZ; have fr1 : @LE.le Nat _ h0.size b1 := eb1 ▸ X0.sz
  have F1_value : Fld Z h1 b1 "java/lang/String" "value" "[B" .null := D1 (Or.inr (w99 hw)) (ty := (.array .byte)) (by decide)
  have F1_coder : Fld Z h1 b1 "java/lang/String" "coder" "B" (.int (0 : Int32)) := D1 (Or.inr (w100 hw)) (ty := .byte) (by decide)
  refine g_dup X1 d18_3 rfl ?_
  refine g_aloadN X1 d18_4 rfl rfl ?_
  have S' := S.ext E1
  refine g_callI X1 d18_5 (w142 hw) (w143 hw) (w59 hw) (w145 hw) rfl (by decide) pd13 b1 [(.ref s)] [(.ref b1)] 1 (c_initSBd hw hs b1 s t bs pd Ex1 F1_value F1_coder nb1 zl1 S' h16 hlt) rfl rfl rfl (Nat.le_of_eq rfl) (by decide) (by decide) 2 20 rfl rfl (by decide) (by decide) (k_ws1 ⟨nb1, zl1, (Or.inr fr1)⟩) fun v2 T2 h2 B2 X2 K2 M2 q2 => ?_
  obtain ⟨r, rfl, rfl, fr, R⟩ := q2
  have z2 := K2.1
  show Go x (T2.setTop (mkF x.m 8 #[.val (.ref s)] [(.ref b1)]))
  exact g_areturn X2 d18_8 rfl rfl rfl (by decide) (by decide) ⟨_, r, rfl, rfl, fr1, nb1, by omega, R⟩
set_option maxRecDepth 65536 in
set_option maxHeartbeats 40000000 in
theorem c_cntPos {nw : Bool} {l : Launch} {Z : State} {EL : List (String × Nat)} {a0 : Array Value} (hw : HW Z a0) (hs : Sts Z) {h0 : Heap} {B0 : BP} (t : Addr) (bs : List Int32) (A : Ay Z h0 t .byte (bs.map Value.int)) :
    Con nw l Z EL (⟨"java/lang/StringCoding", "countPositives", "([BII)I"⟩ : MethodName) jdk_123_method_3_code 5 (some .int) [] ({ frames := 0, cells := 0, slots := 0, locals := 0 } : Room) #[(.ref t), (.int (0 : Int32)), (.int (Int32.ofNat bs.length))] h0 B0 [] (fun v h B => ∃ i, v = some (.int (Int32.ofNat i)) ∧ B0 = B ∧ h0 = h ∧ ((i = bs.length ∧ ∀ b ∈ bs, ¬ b < 0) ∨ (i < bs.length ∧ ∃ b ∈ bs, b < 0))) := by
  refine k_intro (Ls := #[.val (.ref t), .val (.int (0 : Int32)), .val (.int (Int32.ofNat bs.length)), .unset, .unset]) (by decide +kernel) rfl fun x T0 X0 => ?_
  have hl : bs.length < 2 ^ 31 := by simpa using A.len
  refine g_iloadN X0 d19_0 rfl ?_
  refine g_iloadN X0 d19_1 rfl ?_
  refine g_iadd X0 (Int32.ofNat bs.length) d19_2 (by simp) ?_
  refine g_istoreN X0 #[.val (.ref t), .val (.int (0 : Int32)), .val (.int (Int32.ofNat bs.length)), .val (.int (Int32.ofNat bs.length)), .unset] d19_3 rfl ?_
  refine g_iloadN X0 d19_4 rfl ?_
  refine g_istore X0 #[.val (.ref t), .val (.int (0 : Int32)), .val (.int (Int32.ofNat bs.length)), .val (.int (Int32.ofNat bs.length)), .val (.int (0 : Int32))] d19_5 rfl ?_
  have loop : ∀ (d i : Nat) (hi : i + d = bs.length) (hno : ∀ b ∈ bs.take i, ¬ b < 0) (T : State) (X : Wk nw l Z EL "java/lang/StringCoding" jdk_123_method_3_code 5 (some .int) "countPositives" ({ frames := 0, cells := 0, slots := 0, locals := 0 } : Room) h0 B0 [] (fun v h B => ∃ i, v = some (.int (Int32.ofNat i)) ∧ B0 = B ∧ h0 = h ∧ ((i = bs.length ∧ ∀ b ∈ bs, ¬ b < 0) ∨ (i < bs.length ∧ ∃ b ∈ bs, b < 0))) x T h0 B0 0 0), Go x (T.setTop (mkF x.m 7 #[.val (.ref t), .val (.int (0 : Int32)), .val (.int (Int32.ofNat bs.length)), .val (.int (Int32.ofNat bs.length)), .val (.int (Int32.ofNat i))] [])) := by
    intro d
    induction d with
    | zero =>
      intro i hi hno T X
      obtain rfl : i = bs.length := by omega
      refine g_iload X d19_7 rfl ?_
      refine g_iloadN X d19_9 rfl ?_
      refine g_icmpT X d19_10 (XT.ii_ge_t (k_nlt (Nat.le_refl _) hl)) ?_
      refine g_iloadN X d19_31 rfl ?_
      exact g_ireturnI X d19_32 (by decide) (by decide) ⟨bs.length, rfl, rfl, rfl, Or.inl ⟨rfl, by simpa using hno⟩⟩
    | succ d ih =>
      intro i hi hno T X
      have hil : i < bs.length := by omega
      refine g_iload X d19_7 rfl ?_
      refine g_iloadN X d19_9 rfl ?_
      refine g_icmpF X d19_10 (XT.ii_ge_f (k_lt hil hl)) ?_
      refine g_aloadN X d19_13 rfl rfl ?_
      refine g_iload X d19_14 rfl ?_
      refine g_baload X d19_16 A i rfl (v := .int bs[i]) (by simp [hil]) ?_
      by_cases hb : (bs[i]) < 0
      ·
        refine g_ifF X d19_17 (XT.i0_ge_f hb) ?_
        refine g_iload X d19_20 rfl ?_
        refine g_iloadN X d19_22 rfl ?_
        refine g_isub X (Int32.ofNat i) d19_23 (by simp) ?_
        exact g_ireturnI X d19_24 (by decide) (by decide) ⟨i, rfl, rfl, rfl, Or.inr ⟨hil, bs[i], List.getElem_mem hil, hb⟩⟩
      ·
        refine g_ifT X d19_17 (XT.i0_ge_t hb) ?_
        refine g_iinc X #[.val (.ref t), .val (.int (0 : Int32)), .val (.int (Int32.ofNat bs.length)), .val (.int (Int32.ofNat bs.length)), .val (.int (Int32.ofNat (i + 1)))] d19_25 rfl (k_inc i) rfl ?_
        refine g_goto X d19_28 ?_
        refine ih (i + 1) (by omega) ?_ T X
        intro c hc
        rw [List.take_succ_eq_append_getElem hil] at hc
        rcases List.mem_append.mp hc with q | q
        · exact hno c q
        · rw [List.mem_singleton.mp q]; exact hb
  exact loop bs.length 0 (by omega) (fun c q => by simp at q) T0 X0
set_option maxRecDepth 65536 in
set_option maxHeartbeats 40000000 in
theorem c_hasNeg {nw : Bool} {l : Launch} {Z : State} {EL : List (String × Nat)} {a0 : Array Value} (hw : HW Z a0) (hs : Sts Z) {h0 : Heap} {B0 : BP} (t : Addr) (bs : List Int32) (A : Ay Z h0 t .byte (bs.map Value.int)) :
    Con nw l Z EL (⟨"java/lang/StringCoding", "hasNegatives", "([BII)Z"⟩ : MethodName) jdk_123_method_2_code 3 (some .boolean) [] ({ frames := 1, cells := 0, slots := 0, locals := 16 } : Room) #[(.ref t), (.int (0 : Int32)), (.int (Int32.ofNat bs.length))] h0 B0 [] (fun v h B => ∃ r, v = some (.int r) ∧ B0 = B ∧ h0 = h ∧ ((r = 0 ∧ ∀ b ∈ bs, ¬ b < 0) ∨ (r = 1 ∧ ∃ b ∈ bs, b < 0))) := by
  refine k_intro (Ls := #[.val (.ref t), .val (.int (0 : Int32)), .val (.int (Int32.ofNat bs.length))]) (by decide +kernel) rfl fun x T0 X0 => ?_
  have hl : bs.length < 2 ^ 31 := by simpa using A.len
  refine g_aloadN X0 d20_0 rfl rfl ?_
  refine g_iloadN X0 d20_1 rfl ?_
  refine g_iloadN X0 d20_2 rfl ?_
  refine g_callS X0 d20_3 (w198 hw) (w199 hw) (w196 hw) (w200 hw) (by decide) pd14 [(.ref t), (.int (0 : Int32)), (.int (Int32.ofNat bs.length))] [] 0 (c_cntPos hw hs t bs A) rfl rfl rfl (Nat.le_of_eq rfl) (by decide) (by decide) 0 0 rfl rfl (by decide) (by decide) (fun _ q => nomatch q) fun v1 T1 h1 B1 X1 K1 M1 q1 => ?_
  obtain ⟨i, rfl, rfl, rfl, hor⟩ := q1
  have z1 := K1.1
  show Go x (T1.setTop (mkF x.m 6 #[.val (.ref t), .val (.int (0 : Int32)), .val (.int (Int32.ofNat bs.length))] [(.int (Int32.ofNat i))]))
  refine g_iloadN X1 d20_6 rfl ?_
  rcases hor with ⟨rfl, g⟩ | ⟨hi, g⟩
  ·
    refine g_icmpT X1 d20_7 (XT.ii_eq_t rfl) ?_
    refine g_iconst X1 (0 : Int32) d20_14 (by decide) ?_
    exact g_ireturn (w' := (0 : Int32)) X1 d20_15 (Or.inl rfl) (by decide) (by decide) (by decide) ⟨_, rfl, rfl, rfl, Or.inl ⟨rfl, g⟩⟩
  ·
    refine g_icmpF X1 d20_7 (XT.ii_eq_f (fun q => absurd ((k_eqn (by omega) hl).mp q) (by omega))) ?_
    refine g_iconst X1 (1 : Int32) d20_10 (by decide) ?_
    refine g_goto X1 d20_11 ?_
    exact g_ireturn (w' := (1 : Int32)) X1 d20_15 (Or.inl rfl) (by decide) (by decide) (by decide) ⟨_, rfl, rfl, rfl, Or.inr ⟨rfl, g⟩⟩
set_option maxRecDepth 65536 in
set_option maxHeartbeats 40000000 in
theorem c_nbl {nw : Bool} {l : Launch} {Z : State} {EL : List (String × Nat)} {a0 : Array Value} (hw : HW Z a0) (hs : Sts Z) {h0 : Heap} {B0 : BP} (m : Nat) (hm : m < 1000) :
    Con nw l Z EL (⟨"java/lang/StringUTF16", "newBytesLength", "(I)I"⟩ : MethodName) jdk_52_method_3_code 1 (some .int) [] ({ frames := 0, cells := 0, slots := 0, locals := 0 } : Room) #[(.int (Int32.ofNat m))] h0 B0 [] (PQ (some (.int (Int32.ofNat (2 * m)))) h0 B0) := by
  refine k_intro (Ls := #[.val (.int (Int32.ofNat m))]) (by decide +kernel) rfl fun x T0 X0 => ?_
  refine g_iloadN X0 d21_0 rfl ?_
  refine g_ifT X0 d21_1 (XT.i0_ge_t (k_nn (by omega))) ?_
  refine g_iloadN X0 d21_12 rfl ?_
  refine g_ldcI X0 d21_13 (w241 hw) ?_
  refine g_icmpT X0 d21_15 (XT.ii_lt_t (k_lt (j := 1073741823) (by omega) (by decide))) ?_
  refine g_iloadN X0 d21_55 rfl ?_
  refine g_iconst X0 (1 : Int32) d21_56 (by decide) ?_
  refine g_ishl X0 (Int32.ofNat (2 * m)) d21_57 (k_shl1 (by omega)) ?_
  exact g_ireturnI X0 d21_58 (by decide) (by decide) ⟨rfl, rfl, rfl⟩
set_option maxRecDepth 65536 in
set_option maxHeartbeats 40000000 in
theorem c_nbfE {nw : Bool} {l : Launch} {Z : State} {EL : List (String × Nat)} {a0 : Array Value} (hw : HW Z a0) (hs : Sts Z) {h0 : Heap} {B0 : BP} (m : Nat) (hm : m ≤ 16) :
    Con nw l Z EL (⟨"java/lang/StringUTF16", "newBytesFor", "(I)[B"⟩ : MethodName) jdk_52_method_2_code 1 (some (.array .byte)) [] ({ frames := 1, cells := 1, slots := 32, locals := 12 } : Room) #[(.int (Int32.ofNat m))] h0 B0 [] (fun v h B => ∃ t, v = some (.ref t) ∧ B0 = B ∧ h0.size ≤ t ∧ ¬ B t ∧ Ay Z h t .byte (List.replicate (2 * m) (.int 0)) ∧ Exa Z h t "[B") := by
  refine k_intro (Ls := #[.val (.int (Int32.ofNat m))]) (by decide +kernel) rfl fun x T0 X0 => ?_
  refine g_iloadN X0 d22_0 rfl ?_
  refine g_callSp X0 d22_1 (w238 hw) (w239 hw) (w227 hw) (w240 hw) (by decide) pd15 [(.int (Int32.ofNat m))] [] 0 (c_nbl hw hs m (by omega)) rfl rfl rfl (Nat.le_of_eq rfl) (by decide) (by decide) 0 0 rfl rfl (by decide) (by decide) fun T1 X1 => ?_
  refine g_newarrayE X1 d22_4 rfl (ad := "[B") (by decide) (w6 hw) (2 * m) 32 rfl (by omega) (by decide) 1 32 rfl rfl (by decide) (by decide) fun T2 h2 b2 X2 E2 eb2 nb2 A2 Ea2 => ?_
  have z2 := E2.1; have lt2 : @LT.lt Nat _ b2 h2.size := A2.lt; have zl2 : @LE.le Nat _ Z.heap.size b2 := eb2 ▸ X1.szZ; have fr2 : @LE.le Nat _ h0.size b2 := eb2 ▸ X1.sz
  exact g_areturn X2 d22_6 rfl rfl rfl (by decide) (by decide) ⟨_, rfl, rfl, fr2, nb2, A2, Ea2⟩
set_option maxRecDepth 65536 in
set_option maxHeartbeats 40000000 in
theorem c_copyOfB {nw : Bool} {l : Launch} {Z : State} {EL : List (String × Nat)} {a0 : Array Value} (hw : HW Z a0) (hs : Sts Z) {h0 : Heap} {B0 : BP} (t : Addr) (m : Nat) (vs : List Value) (A : Ay Z h0 t .byte vs) (hm : m < vs.length) (hcap : m ≤ 32) :
    Con nw l Z EL (⟨"java/util/Arrays", "copyOf", "([BI)[B"⟩ : MethodName) jdk_65_method_121_code 3 (some (.array .byte)) [] ({ frames := 1, cells := 1, slots := 32, locals := 18 } : Room) #[(.ref t), (.int (Int32.ofNat m))] h0 B0 [] (fun v h B => ∃ r, v = some (.ref r) ∧ B0 = B ∧ h0.size ≤ r ∧ ¬ B r ∧ Ay Z h r .byte (vs.take m) ∧ Exa Z h r "[B") := by
  refine k_intro (Ls := #[.val (.ref t), .val (.int (Int32.ofNat m)), .unset]) (by decide +kernel) rfl fun x T0 X0 => ?_
  have hl := A.len
  have lt_t := A.lt
  refine g_iloadN X0 d23_0 rfl ?_
  refine g_aloadN X0 d23_1 rfl rfl ?_
  refine g_arraylength X0 d23_2 A (Int32.ofNat vs.length) rfl ?_
  refine g_icmpT X0 d23_3 (XT.ii_ne_t (fun g => absurd ((k_eqn (by omega) hl).mp g) (by omega))) ?_
  refine g_iloadN X0 d23_14 rfl ?_
  refine g_newarrayE X0 d23_15 rfl (ad := "[B") (by decide) (w6 hw) m 32 rfl hcap (by decide) 1 32 rfl rfl (by decide) (by decide) fun T1 h1 b1 X1 E1 eb1 nb1 A1 Ea1 => ?_
  have z1 := E1.1; have lt1 : @LT.lt Nat _ b1 h1.size := A1.lt; have zl1 : @LE.le Nat _ Z.heap.size b1 := eb1 ▸ X0.szZ; have fr1 : @LE.le Nat _ h0.size b1 := eb1 ▸ X0.sz
  refine g_astoreN X1 #[.val (.ref t), .val (.int (Int32.ofNat m)), .val (.ref b1)] d23_17 rfl rfl ?_
  refine g_aloadN X1 d23_18 rfl rfl ?_
  refine g_iconst X1 (0 : Int32) d23_19 (by decide) ?_
  refine g_aloadN X1 d23_20 rfl rfl ?_
  refine g_iconst X1 (0 : Int32) d23_21 (by decide) ?_
  refine g_aloadN X1 d23_22 rfl rfl ?_
  have A2 := (A.ext E1)
  refine g_arraylength X1 d23_23 A2 (Int32.ofNat vs.length) rfl ?_
  refine g_iloadN X1 d23_24 rfl ?_
  refine g_callSp X1 d23_25 (w174 hw) (w175 hw) (w176 hw) (w177 hw) (by decide) pd8 [(.int (Int32.ofNat vs.length)), (.int (Int32.ofNat m))] [(.int (0 : Int32)), (.ref b1), (.int (0 : Int32)), (.ref t)] 4 (c_min hw hs _ _ (Int32.ofNat m) (k_min (by omega) (by omega))) rfl rfl rfl (Nat.le_of_eq rfl) (by decide) (by decide) 1 32 rfl rfl (by decide) (by decide) fun T3 X3 => ?_
  refine g_arraycopy X3 d23_28 rfl (w178 hw) (w135 hw) (w133 hw) (w134 hw) A2 A1 rfl 0 0 m (by omega) (by simp) (by decide) (by decide) rfl rfl nb1 zl1 (Or.inr fr1) 0 (Nat.le_of_eq rfl) (by decide) (by decide) fun T4 h4 X4 K4 A4 => ?_
  have z4 := K4.1
  refine g_aloadN X4 d23_31 rfl rfl ?_
  have E_5 := (Ea1.keep K4)
  exact g_areturn X4 d23_32 rfl rfl rfl (by decide) (by decide) ⟨_, rfl, rfl, fr1, nb1, by simpa using A4, E_5⟩
set_option maxRecDepth 65536 in
set_option maxHeartbeats 40000000 in
theorem c_encU {nw : Bool} {l : Launch} {Z : State} {EL : List (String × Nat)} {a0 : Array Value} (hw : HW Z a0) (hs : Sts Z) {h0 : Heap} {B0 : BP} (t : Addr) (bs : List Int32) (A : Ay Z h0 t .byte (bs.map Value.int)) (E_t : Exa Z h0 t "[B") (hcap : (bs.map Value.int).length ≤ 16) (hb : ∀ b ∈ bs, lo8 b = b) :
    Con nw l Z EL (⟨"java/lang/String", "encodeUTF8", "(B[BZ)[B"⟩ : MethodName) jdk_42_method_46_code 9 (some (.array .byte)) [] ({ frames := 2, cells := 2, slots := 64, locals := 32 } : Room) #[(.int (0 : Int32)), (.ref t), (.int (1 : Int32))] h0 B0 [] (fun v h B => ∃ r, v = some (.ref r) ∧ B0 = B ∧ h0.size ≤ r ∧ ¬ B r ∧ Ay Z h r .byte ((utf8 bs).map Value.int) ∧ Exa Z h r "[B") := by
  refine k_intro (Ls := #[.val (.int (0 : Int32)), .val (.ref t), .val (.int (1 : Int32)), .unset, .unset, .unset, .unset, .unset, .unset]) (by decide +kernel) rfl fun x T0 X0 => ?_
  have hl : bs.length < 2 ^ 31 := by simpa using A.len
  have hc : bs.length ≤ 16 := by simpa using hcap
  have lt_t := A.lt
  refine g_iloadN X0 d24_0 rfl ?_
  refine g_iconst X0 (1 : Int32) d24_1 (by decide) ?_
  refine g_icmpT X0 d24_2 (by decide) ?_
  refine g_aloadN X0 d24_11 rfl rfl ?_
  refine g_iconst X0 (0 : Int32) d24_12 (by decide) ?_
  refine g_aloadN X0 d24_13 rfl rfl ?_
  refine g_arraylength X0 d24_14 A (Int32.ofNat bs.length) (by simp) ?_
  refine g_callS X0 d24_15 (w194 hw) (w195 hw) (w196 hw) (w197 hw) (by decide) pd16 [(.ref t), (.int (0 : Int32)), (.int (Int32.ofNat bs.length))] [] 0 (c_hasNeg hw hs t bs A) rfl rfl rfl (Nat.le_of_eq rfl) (by decide) (by decide) 0 0 rfl rfl (by decide) (by decide) (fun _ q => nomatch q) fun v1 T1 h1 B1 X1 K1 M1 q1 => ?_
  obtain ⟨hr, rfl, rfl, rfl, hor⟩ := q1
  have z1 := K1.1
  show Go x (T1.setTop (mkF x.m 18 #[.val (.int (0 : Int32)), .val (.ref t), .val (.int (1 : Int32)), .unset, .unset, .unset, .unset, .unset, .unset] [(.int hr)]))
  rcases hor with ⟨rfl, hno⟩ | ⟨rfl, hsome⟩
  ·
    show Go x (T1.setTop (mkF x.m 18 #[.val (.int (0 : Int32)), .val (.ref t), .val (.int (1 : Int32)), .unset, .unset, .unset, .unset, .unset, .unset] [(.int (0 : Int32))]))
    refine g_ifF X1 d24_18 (by decide) ?_
    refine g_aloadN X1 d24_21 rfl rfl ?_
    refine g_clone X1 d24_22 (w201 hw) (w202 hw) (w206 hw) (w204 hw) (w205 hw) (w207 hw) A E_t 0 16 rfl (Nat.le_of_eq rfl) (by decide) (by decide) hcap 1 16 rfl rfl (by decide) (by decide) fun T2 h2 b2 X2 E2 eb2 nb2 A2 Ea2 => ?_
    have z2 := E2.1; have fr2 : @LE.le Nat _ h0.size b2 := eb2 ▸ X1.sz
    refine g_castY X2 d24_25 (w208 hw) (Ins.self Ea2) fun T3 X3 => ?_
    exact g_areturn X3 d24_28 rfl rfl rfl (by decide) (by decide) ⟨_, rfl, rfl, fr2, nb2, by rw [utf8_pos hno]; exact A2, Ea2⟩
  ·
    show Go x (T1.setTop (mkF x.m 18 #[.val (.int (0 : Int32)), .val (.ref t), .val (.int (1 : Int32)), .unset, .unset, .unset, .unset, .unset, .unset] [(.int (1 : Int32))]))
    refine g_ifT X1 d24_18 (by decide) ?_
    refine g_iconst X1 (0 : Int32) d24_29 (by decide) ?_
    refine g_istoreN X1 #[.val (.int (0 : Int32)), .val (.ref t), .val (.int (1 : Int32)), .val (.int (0 : Int32)), .unset, .unset, .unset, .unset, .unset] d24_30 rfl ?_
    refine g_aloadN X1 d24_31 rfl rfl ?_
    refine g_arraylength X1 d24_32 A (Int32.ofNat bs.length) (by simp) ?_
    refine g_callS X1 d24_33 (w297 hw) (w236 hw) (w227 hw) (w237 hw) (by decide) pd17 [(.int (Int32.ofNat bs.length))] [] 0 (c_nbfE hw hs bs.length (by omega)) rfl rfl rfl (Nat.le_of_eq rfl) (by decide) (by decide) 1 32 rfl rfl (by decide) (by decide) (fun _ q => nomatch q) fun v4 T4 h4 B4 X4 K4 M4 q4 => ?_
    obtain ⟨u, rfl, rfl, fu, nbu, Au, Eu⟩ := q4
    have z4 := K4.1
    show Go x (T4.setTop (mkF x.m 36 #[.val (.int (0 : Int32)), .val (.ref t), .val (.int (1 : Int32)), .val (.int (0 : Int32)), .unset, .unset, .unset, .unset, .unset] [(.ref u)]))
    have lt_u := Au.lt
    have zlu := Nat.le_trans X0.szZ fu
    refine g_astore X4 #[.val (.int (0 : Int32)), .val (.ref t), .val (.int (1 : Int32)), .val (.int (0 : Int32)), .val (.ref u), .unset, .unset, .unset, .unset] d24_36 rfl rfl ?_
    refine g_aloadN X4 d24_38 rfl rfl ?_
    refine g_astore X4 #[.val (.int (0 : Int32)), .val (.ref t), .val (.int (1 : Int32)), .val (.int (0 : Int32)), .val (.ref u), .val (.ref t), .unset, .unset, .unset] d24_39 rfl rfl ?_
    refine g_aload X4 d24_41 rfl rfl ?_
    have A5 := (A.keep K4 nin0)
    refine g_arraylength X4 d24_43 A5 (Int32.ofNat bs.length) (by simp) ?_
    refine g_istore X4 #[.val (.int (0 : Int32)), .val (.ref t), .val (.int (1 : Int32)), .val (.int (0 : Int32)), .val (.ref u), .val (.ref t), .val (.int (Int32.ofNat bs.length)), .unset, .unset] d24_44 rfl ?_
    refine g_iconst X4 (0 : Int32) d24_46 (by decide) ?_
    refine g_istore X4 #[.val (.int (0 : Int32)), .val (.ref t), .val (.int (1 : Int32)), .val (.int (0 : Int32)), .val (.ref u), .val (.ref t), .val (.int (Int32.ofNat bs.length)), .val (.int (0 : Int32)), .unset] d24_47 rfl ?_
    have loop : ∀ (d i : Nat) (hi : i + d = bs.length) (P : List Int32) (eP : P = utf8 (bs.take i)) (s8 : Slot) (hs8 : LS s8) (T : State) (h : Heap) (X : Wk nw l Z EL "java/lang/String" jdk_42_method_46_code 9 (some (.array .byte)) "encodeUTF8" ({ frames := 2, cells := 2, slots := 64, locals := 32 } : Room) h0 B0 [] (fun v h B => ∃ r, v = some (.ref r) ∧ B0 = B ∧ h0.size ≤ r ∧ ¬ B r ∧ Ay Z h r .byte ((utf8 bs).map Value.int) ∧ Exa Z h r "[B") x T h B0 1 32) (At : Ay Z h t .byte (bs.map Value.int)) (A : Ay Z h u .byte (P.map Value.int ++ List.replicate (2 * bs.length - P.length) (Value.int 0))) (Eu : Exa Z h u "[B"), Go x (T.setTop (mkF x.m 49 #[.val (.int (0 : Int32)), .val (.ref t), .val (.int (1 : Int32)), .val (.int (Int32.ofNat P.length)), .val (.ref u), .val (.ref t), .val (.int (Int32.ofNat bs.length)), .val (.int (Int32.ofNat i)), s8] [])) := by
      intro d
      induction d with
      | zero =>
        intro i hi P eP s8 hs8 T h X At A Eu
        obtain rfl : i = bs.length := by omega
        rw [List.take_length] at eP
        have hP : P.length ≤ 2 * bs.length := eP ▸ utf8_len bs
        have hlA : (P.map Value.int ++ List.replicate (2 * bs.length - P.length) (Value.int 0)).length = 2 * bs.length := by simp; omega
        refine g_iload X d24_49 rfl ?_
        refine g_iload X d24_51 rfl ?_
        refine g_icmpT X d24_53 (XT.ii_ge_t (k_nlt (Nat.le_refl _) hl)) ?_
        refine g_iloadN X d24_124 rfl ?_
        refine g_aload X d24_125 rfl rfl ?_
        refine g_arraylength X d24_127 A (Int32.ofNat (2 * bs.length)) (by rw [hlA]) ?_
        by_cases he : (Int32.ofNat P.length) = (Int32.ofNat (2 * bs.length))
        ·
          refine g_icmpF X d24_128 (XT.ii_ne_f he) ?_
          have he := (k_eqn (by omega) (by omega)).mp he
          refine g_aload X d24_131 rfl rfl ?_
          exact g_areturn X d24_133 rfl rfl rfl (by decide) (by decide) ⟨u, rfl, rfl, by omega, nbu, by rw [← eP]; simpa [he] using A, Eu⟩
        ·
          refine g_icmpT X d24_128 (XT.ii_ne_t he) ?_
          have hne : P.length < 2 * bs.length := Nat.lt_of_le_of_ne hP fun g => he (by rw [g])
          refine g_aload X d24_134 rfl rfl ?_
          refine g_iloadN X d24_136 rfl ?_
          refine g_callS X d24_137 (w294 hw) (w295 hw) (w166 hw) (w296 hw) (by decide) pd18 [(.ref u), (.int (Int32.ofNat P.length))] [] 0 (c_copyOfB hw hs u P.length _ A (by rw [hlA]; exact hne) (by omega)) rfl rfl rfl (Nat.le_of_eq rfl) (by decide) (by decide) 2 64 rfl rfl (by decide) (by decide) (fun _ q => nomatch q) fun v6 T6 h6 B6 X6 K6 M6 q6 => ?_
          obtain ⟨r, rfl, rfl, fr, nbr, Ar, Er⟩ := q6
          have z6 := K6.1
          show Go x (T6.setTop (mkF x.m 140 #[.val (.int (0 : Int32)), .val (.ref t), .val (.int (1 : Int32)), .val (.int (Int32.ofNat P.length)), .val (.ref u), .val (.ref t), .val (.int (Int32.ofNat bs.length)), .val (.int (Int32.ofNat bs.length)), s8] [(.ref r)]))
          exact g_areturn X6 d24_140 rfl rfl rfl (by decide) (by decide) ⟨r, rfl, rfl, Nat.le_trans X.sz fr, nbr, by rw [← eP]; simpa using Ar, Er⟩
      | succ d ih =>
        intro i hi P eP s8 hs8 T h X At A Eu
        have hil : i < bs.length := by omega
        have hP : P.length ≤ 2 * i := by have := utf8_len (bs.take i); rw [← eP] at this; simp at this; omega
        have hlA : (P.map Value.int ++ List.replicate (2 * bs.length - P.length) (Value.int 0)).length = 2 * bs.length := by simp; omega
        refine g_iload X d24_49 rfl ?_
        refine g_iload X d24_51 rfl ?_
        refine g_icmpF X d24_53 (XT.ii_ge_f (k_lt hil hl)) ?_
        refine g_aload X d24_56 rfl rfl ?_
        refine g_iload X d24_58 rfl ?_
        refine g_baload X d24_60 At i rfl (v := .int bs[i]) (by simp [hil]) ?_
        refine g_istore X #[.val (.int (0 : Int32)), .val (.ref t), .val (.int (1 : Int32)), .val (.int (Int32.ofNat P.length)), .val (.ref u), .val (.ref t), .val (.int (Int32.ofNat bs.length)), .val (.int (Int32.ofNat i)), .val (.int (bs[i]))] d24_61 (by rcases hs8 with rfl | ⟨u, rfl⟩ <;> rfl) ?_
        refine g_iload X d24_63 rfl ?_
        by_cases hneg : (bs[i]) < 0
        ·
          refine g_ifF X d24_65 (XT.i0_ge_f hneg) ?_
          refine g_aload X d24_68 rfl rfl ?_
          refine g_iloadN X d24_70 rfl ?_
          refine g_iinc X #[.val (.int (0 : Int32)), .val (.ref t), .val (.int (1 : Int32)), .val (.int (Int32.ofNat (P ++ [(u8a bs[i])]).length)), .val (.ref u), .val (.ref t), .val (.int (Int32.ofNat bs.length)), .val (.int (Int32.ofNat i)), .val (.int (bs[i]))] d24_71 rfl ((k_inc _).trans (congrArg Int32.ofNat (by simp))) rfl ?_
          refine g_sipush X (192 : Int32) d24_74 (by decide) ?_
          refine g_iload X d24_77 rfl ?_
          refine g_sipush X (255 : Int32) d24_79 (by decide) ?_
          refine g_iand X ((bs[i]) &&& (255 : Int32)) d24_82 rfl ?_
          refine g_bipush X (6 : Int32) d24_83 (by decide) ?_
          refine g_ishr X (((bs[i]) &&& (255 : Int32)) >>> ((6 : Int32) &&& 31)) d24_85 rfl ?_
          refine g_ior X ((192 : Int32) ||| (((bs[i]) &&& (255 : Int32)) >>> ((6 : Int32) &&& 31))) d24_86 rfl ?_
          refine g_i2b X (u8a bs[i]) d24_87 rfl ?_
          refine g_bastore X d24_88 A P.length rfl (u8a bs[i]) (nar_b8 _) (by rw [hlA]; omega) nbu zlu (Or.inr (by omega : @LE.le Nat _ h0.size u)) fun T7 h7 X7 K7 A7 => ?_
          have z7 := K7.1
          rw [k_put (by omega)] at A7
          refine g_aload X7 d24_89 rfl rfl ?_
          refine g_iloadN X7 d24_91 rfl ?_
          refine g_iinc X7 #[.val (.int (0 : Int32)), .val (.ref t), .val (.int (1 : Int32)), .val (.int (Int32.ofNat (P ++ [(u8a bs[i])] ++ [(u8b bs[i])]).length)), .val (.ref u), .val (.ref t), .val (.int (Int32.ofNat bs.length)), .val (.int (Int32.ofNat i)), .val (.int (bs[i]))] d24_92 rfl ((k_inc _).trans (congrArg Int32.ofNat (by simp))) rfl ?_
          refine g_sipush X7 (128 : Int32) d24_95 (by decide) ?_
          refine g_iload X7 d24_98 rfl ?_
          refine g_bipush X7 (63 : Int32) d24_100 (by decide) ?_
          refine g_iand X7 ((bs[i]) &&& (63 : Int32)) d24_102 rfl ?_
          refine g_ior X7 ((128 : Int32) ||| ((bs[i]) &&& (63 : Int32))) d24_103 rfl ?_
          refine g_i2b X7 (u8b bs[i]) d24_104 rfl ?_
          refine g_bastore X7 d24_105 A7 ((P ++ [(u8a bs[i])]).length) rfl (u8b bs[i]) (nar_b8 _) (by simp; omega) nbu zlu (Or.inr (by omega : @LE.le Nat _ h0.size u)) fun T8 h8 X8 K8 A8 => ?_
          have z8 := K8.1
          rw [k_put (by simp; omega)] at A8
          refine g_goto X8 d24_106 ?_
          refine g_iinc X8 #[.val (.int (0 : Int32)), .val (.ref t), .val (.int (1 : Int32)), .val (.int (Int32.ofNat (P ++ [(u8a bs[i])] ++ [(u8b bs[i])]).length)), .val (.ref u), .val (.ref t), .val (.int (Int32.ofNat bs.length)), .val (.int (Int32.ofNat (i + 1))), .val (.int (bs[i]))] d24_118 rfl (k_inc i) rfl ?_
          refine g_goto X8 d24_121 ?_
          have A9 := ((At.keep K7 (ninS (k_neN (by omega)) nin0)).keep K8 (ninS (k_neN (by omega)) nin0))
          have E_10 := ((Eu.keep K7).keep K8)
          exact ih (i + 1) (by omega) _ (by rw [eP, utf8_neg hil hneg]; simp) (.val (.int bs[i])) (Or.inr ⟨_, rfl⟩) T8 h8 X8 A9 A8 E_10
        ·
          refine g_ifT X d24_65 (XT.i0_ge_t hneg) ?_
          refine g_aload X d24_109 rfl rfl ?_
          refine g_iloadN X d24_111 rfl ?_
          refine g_iinc X #[.val (.int (0 : Int32)), .val (.ref t), .val (.int (1 : Int32)), .val (.int (Int32.ofNat (P ++ [bs[i]]).length)), .val (.ref u), .val (.ref t), .val (.int (Int32.ofNat bs.length)), .val (.int (Int32.ofNat i)), .val (.int (bs[i]))] d24_112 rfl ((k_inc _).trans (congrArg Int32.ofNat (by simp))) rfl ?_
          refine g_iload X d24_115 rfl ?_
          refine g_bastore X d24_117 A P.length rfl (bs[i]) (hb _ (List.getElem_mem hil)) (by rw [hlA]; omega) nbu zlu (Or.inr (by omega : @LE.le Nat _ h0.size u)) fun T11 h11 X11 K11 A11 => ?_
          have z11 := K11.1
          rw [k_put (by omega)] at A11
          refine g_iinc X11 #[.val (.int (0 : Int32)), .val (.ref t), .val (.int (1 : Int32)), .val (.int (Int32.ofNat (P ++ [bs[i]]).length)), .val (.ref u), .val (.ref t), .val (.int (Int32.ofNat bs.length)), .val (.int (Int32.ofNat (i + 1))), .val (.int (bs[i]))] d24_118 rfl (k_inc i) rfl ?_
          refine g_goto X11 d24_121 ?_
          have A12 := (At.keep K11 (ninS (k_neN (by omega)) nin0))
          have E_13 := (Eu.keep K11)
          exact ih (i + 1) (by omega) _ (by rw [eP, utf8_nn hil hneg]) (.val (.int bs[i])) (Or.inr ⟨_, rfl⟩) T11 h11 X11 A12 A11 E_13
    exact loop bs.length 0 (by omega) [] rfl .unset (Or.inl rfl) T4 h4 X4 A5 (by simpa using Au) Eu
set_option maxRecDepth 65536 in
set_option maxHeartbeats 40000000 in
theorem c_encode {nw : Bool} {l : Launch} {Z : State} {EL : List (String × Nat)} {a0 : Array Value} (hw : HW Z a0) (hs : Sts Z) {h0 : Heap} {B0 : BP} (u t : Addr) (bs : List Int32) (sU : Sta Z Z.heap "sun/nio/cs/UTF_8" "INSTANCE" "Lsun/nio/cs/UTF_8;" (.ref u)) (A : Ay Z h0 t .byte (bs.map Value.int)) (E_t : Exa Z h0 t "[B") (hcap : (bs.map Value.int).length ≤ 16) (hb : ∀ b ∈ bs, lo8 b = b) :
    Con nw l Z EL (⟨"java/lang/String", "encode", "(Ljava/nio/charset/Charset;B[B)[B"⟩ : MethodName) jdk_42_method_18_code 3 (some (.array .byte)) [] ({ frames := 3, cells := 2, slots := 64, locals := 52 } : Room) #[(.ref u), (.int (0 : Int32)), (.ref t)] h0 B0 [] (fun v h B => ∃ r, v = some (.ref r) ∧ B0 = B ∧ h0.size ≤ r ∧ ¬ B r ∧ Ay Z h r .byte ((utf8 bs).map Value.int) ∧ Exa Z h r "[B") := by
  refine k_intro (Ls := #[.val (.ref u), .val (.int (0 : Int32)), .val (.ref t)]) (by decide +kernel) rfl fun x T0 X0 => ?_
  refine g_aloadN X0 d25_0 rfl rfl ?_
  refine g_getstatic X0 d25_1 (w189 hw) Via.refl sU fun T1 X1 => ?_
  refine g_acmpF X1 d25_4 rfl rfl (XT.aa_ne_f rfl) ?_
  refine g_iloadN X1 d25_7 rfl ?_
  refine g_aloadN X1 d25_8 rfl rfl ?_
  refine g_iconst X1 (1 : Int32) d25_9 (by decide) ?_
  refine g_callS X1 d25_10 (w191 hw) (w192 hw) (w59 hw) (w193 hw) (by decide) pd19 [(.int (0 : Int32)), (.ref t), (.int (1 : Int32))] [] 0 (c_encU hw hs t bs A E_t hcap hb) rfl rfl rfl (Nat.le_of_eq rfl) (by decide) (by decide) 2 64 rfl rfl (by decide) (by decide) (fun _ q => nomatch q) fun v2 T2 h2 B2 X2 K2 M2 q2 => ?_
  obtain ⟨r, rfl, rfl, R⟩ := q2
  have z2 := K2.1
  show Go x (T2.setTop (mkF x.m 13 #[.val (.ref u), .val (.int (0 : Int32)), .val (.ref t)] [(.ref r)]))
  exact g_areturn X2 d25_13 rfl rfl rfl (by decide) (by decide) ⟨r, rfl, rfl, R⟩
set_option maxRecDepth 65536 in
set_option maxHeartbeats 40000000 in
theorem c_getBytes {nw : Bool} {l : Launch} {Z : State} {EL : List (String × Nat)} {a0 : Array Value} (hw : HW Z a0) (hs : Sts Z) {h0 : Heap} {B0 : BP} (a ta u : Addr) (bs : List Int32) (sU : Sta Z Z.heap "sun/nio/cs/UTF_8" "INSTANCE" "Lsun/nio/cs/UTF_8;" (.ref u)) (E_a : Exa Z h0 a "java/lang/String") (Fa_c : Fld Z h0 a "java/lang/String" "coder" "B" (.int 0)) (Fa_v : Fld Z h0 a "java/lang/String" "value" "[B" (.ref ta)) (A_ta : Ay Z h0 ta .byte (bs.map Value.int)) (E_t : Exa Z h0 ta "[B") (hcap : (bs.map Value.int).length ≤ 16) (hb : ∀ b ∈ bs, lo8 b = b) :
    Con nw l Z EL (⟨"java/lang/String", "getBytes", "(Ljava/nio/charset/Charset;)[B"⟩ : MethodName) jdk_42_method_64_code 2 (some (.array .byte)) [] ({ frames := 4, cells := 2, slots := 64, locals := 66 } : Room) #[(.ref a), (.ref u)] h0 B0 [] (fun v h B => ∃ r, v = some (.ref r) ∧ B0 = B ∧ h0.size ≤ r ∧ ¬ B r ∧ Ay Z h r .byte ((utf8 bs).map Value.int) ∧ Exa Z h r "[B") := by
  refine k_intro (Ls := #[.val (.ref a), .val (.ref u)]) (by decide +kernel) rfl fun x T0 X0 => ?_
  have lt_a := k_ltE E_a; have lt_ta := A_ta.lt
  refine g_aloadN X0 d26_0 rfl rfl ?_
  refine g_ifnonnullT X0 d26_1 ?_
  refine g_aloadN X0 d26_12 rfl rfl ?_
  refine g_aloadN X0 d26_13 rfl rfl ?_
  refine g_callVp X0 d26_14 (w109 hw) (w110 hw) (w112 hw) (w111 hw) (w59 hw) (w113 hw) (by decide) pd0 a [] [(.ref u)] 1 E_a (c_coder hw hs a 0 bs (Or.inl rfl) (⟨ta, E_a, Fa_c, Fa_v, A_ta⟩ : StrV Z h0 a 0 bs)) rfl rfl rfl (Nat.le_of_eq rfl) (by decide) (by decide) 0 0 rfl rfl (by decide) (by decide) fun T1 X1 => ?_
  refine g_aloadN X1 d26_17 rfl rfl ?_
  refine g_getfield X1 d26_18 (w108 hw) Via.refl Fa_v fun T2 X2 => ?_
  refine g_callS X2 d26_21 (w186 hw) (w187 hw) (w59 hw) (w188 hw) (by decide) pd20 [(.ref u), (.int (0 : Int32)), (.ref ta)] [] 0 (c_encode hw hs u ta bs sU A_ta E_t hcap hb) rfl rfl rfl (Nat.le_of_eq rfl) (by decide) (by decide) 2 64 rfl rfl (by decide) (by decide) (fun _ q => nomatch q) fun v3 T3 h3 B3 X3 K3 M3 q3 => ?_
  obtain ⟨r, rfl, rfl, R⟩ := q3
  have z3 := K3.1
  show Go x (T3.setTop (mkF x.m 24 #[.val (.ref a), .val (.ref u)] [(.ref r)]))
  exact g_areturn X3 d26_24 rfl rfl rfl (by decide) (by decide) ⟨r, rfl, rfl, R⟩
set_option maxRecDepth 65536 in
set_option maxHeartbeats 40000000 in
theorem c_asbInit2 {nw : Bool} {l : Launch} {Z : State} {EL : List (String × Nat)} {a0 : Array Value} (hw : HW Z a0) (hs : Sts Z) {h0 : Heap} {B0 : BP} (s : Addr) (E_s : Exa Z h0 s "java/lang/StringBuilder") {us_value : Value} (Fs_value : Fld Z h0 s "java/lang/AbstractStringBuilder" "value" "[B" us_value) {us_coder : Value} (Fs_coder : Fld Z h0 s "java/lang/AbstractStringBuilder" "coder" "B" us_coder) {us_count : Value} (Fs_count : Fld Z h0 s "java/lang/AbstractStringBuilder" "count" "I" us_count) (Fs_ml : Fld Z h0 s "java/lang/AbstractStringBuilder" "maybeLatin1" "Z" (.int 0)) (nb_s : ¬ B0 s) (zl_s : Z.heap.size ≤ s)  :
    Con nw l Z EL (⟨"java/lang/AbstractStringBuilder", "<init>", "(I)V"⟩ : MethodName) jdk_68_method_2_code 2 none [] ({ frames := 1, cells := 1, slots := 16, locals := 12 } : Room) #[(.ref s), (.int (16 : Int32))] h0 B0 [s] (fun v h B => ∃ t, v = none ∧ B0 = B ∧ h0.size ≤ t ∧ ¬ B t ∧ Exa Z h s "java/lang/StringBuilder" ∧ Fld Z h s "java/lang/AbstractStringBuilder" "value" "[B" (.ref t) ∧ Fld Z h s "java/lang/AbstractStringBuilder" "coder" "B" (.int 0) ∧ Fld Z h s "java/lang/AbstractStringBuilder" "count" "I" us_count ∧ Fld Z h s "java/lang/AbstractStringBuilder" "maybeLatin1" "Z" (.int 0) ∧ Ay Z h t .byte (List.replicate 16 (.int 0))) := by
  refine k_intro (Ls := #[.val (.ref s), .val (.int (16 : Int32))]) (by decide +kernel) rfl fun x T0 X0 => ?_
  obtain ⟨cv, sCS, ncv⟩ := hs.1
  have lt_s := k_ltE E_s
  refine g_aloadN X0 d27_0 rfl rfl ?_
  refine g_init X0 d27_1 rfl rfl (w57 hw) (w26 hw) (w27 hw) 0 rfl (by decide) (Nat.le_of_eq rfl) (by decide) fun T1 X1 => ?_
  refine g_getstatic X1 d27_4 (w58 hw) Via.refl sCS fun T2 X2 => ?_
  refine g_ifF X2 d27_7 (XT.i0_eq_f ncv) ?_
  refine g_aloadN X2 d27_10 rfl rfl ?_
  refine g_iloadN X2 d27_11 rfl ?_
  refine g_newarray X2 d27_12 rfl (w6 hw) 16 16 (by decide) (Nat.le_refl _) (by decide) 1 16 rfl rfl (by decide) (by decide) fun T3 h3 b3 X3 E3 eb3 nb3 A3 => ?_
  have z3 := E3.1; have lt3 : @LT.lt Nat _ b3 h3.size := A3.lt; have zl3 : @LE.le Nat _ Z.heap.size b3 := eb3 ▸ X2.szZ; have fr3 : @LE.le Nat _ h0.size b3 := eb3 ▸ X2.sz
  have A3a : Ay Z h3 b3 .byte [(.int (0 : Int32)), (.int (0 : Int32)), (.int (0 : Int32)), (.int (0 : Int32)), (.int (0 : Int32)), (.int (0 : Int32)), (.int (0 : Int32)), (.int (0 : Int32)), (.int (0 : Int32)), (.int (0 : Int32)), (.int (0 : Int32)), (.int (0 : Int32)), (.int (0 : Int32)), (.int (0 : Int32)), (.int (0 : Int32)), (.int (0 : Int32))] := A3
  have F4 := (Fs_value.ext E3)
  have E_5 := (E_s.ext E3)
  refine g_putfield X3 d27_14 (w60 hw) Via.refl F4 E_5 (Or.inl (w61 hw)) (w46 hw) (ty := (.array .byte)) (v' := (.ref b3)) (by decide) rfl rfl nb_s zl_s (Or.inl (List.mem_of_getElem? (i := 0) rfl)) fun T6 h6 X6 W6 => ?_
  have z6 := W6.size; have Fw6 := F4.same W6
  refine g_aloadN X6 d27_17 rfl rfl ?_
  refine g_iconst X6 (0 : Int32) d27_18 (by decide) ?_
  have F7 := ((Fs_coder.ext E3).other W6 (Or.inr (slot_ne (Or.inl (w63 hw)) (Or.inl (w61 hw)) (by decide) (t := .byte) (t' := (.array .byte)) (by decide) (by decide))))
  have E_8 := (E_5.wr W6)
  refine g_putfield X6 d27_19 (w62 hw) Via.refl F7 E_8 (Or.inl (w63 hw)) (w46 hw) (ty := .byte) (v' := (.int (0 : Int32))) (by decide) rfl rfl nb_s zl_s (Or.inl (List.mem_of_getElem? (i := 0) rfl)) fun T9 h9 X9 W9 => ?_
  have z9 := W9.size; have Fw9 := F7.same W9
  refine g_goto X9 d27_22 ?_
  have E_10 := (E_8.wr W9)
  have F11 := (Fw6.other W9 (Or.inr (slot_ne (Or.inl (w61 hw)) (Or.inl (w63 hw)) (by decide) (t := (.array .byte)) (t' := .byte) (by decide) (by decide))))
  have F12 := (((Fs_count.ext E3).other W6 (Or.inr (slot_ne (Or.inl (w86 hw)) (Or.inl (w61 hw)) (by decide) (t := .int) (t' := (.array .byte)) (by decide) (by decide)))).other W9 (Or.inr (slot_ne (Or.inl (w86 hw)) (Or.inl (w63 hw)) (by decide) (t := .int) (t' := .byte) (by decide) (by decide))))
  have F13 := (((Fs_ml.ext E3).other W6 (Or.inr (slot_ne (Or.inl (w283 hw)) (Or.inl (w61 hw)) (by decide) (t := .boolean) (t' := (.array .byte)) (by decide) (by decide)))).other W9 (Or.inr (slot_ne (Or.inl (w283 hw)) (Or.inl (w63 hw)) (by decide) (t := .boolean) (t' := .byte) (by decide) (by decide))))
  have A14 := ((A3a.keep (Keep.of_wr W6) (ninS (k_neN (by omega)) nin0)).keep (Keep.of_wr W9) (ninS (k_neN (by omega)) nin0))
  exact g_return X9 d27_38 (by decide) (by decide) ⟨_, rfl, rfl, fr3, nb3, E_10, F11, Fw9, F12, F13, A14⟩
set_option maxRecDepth 65536 in
set_option maxHeartbeats 40000000 in
theorem c_sbInit2 {nw : Bool} {l : Launch} {Z : State} {EL : List (String × Nat)} {a0 : Array Value} (hw : HW Z a0) (hs : Sts Z) {h0 : Heap} {B0 : BP} (s : Addr) (E_s : Exa Z h0 s "java/lang/StringBuilder") {us_value : Value} (Fs_value : Fld Z h0 s "java/lang/AbstractStringBuilder" "value" "[B" us_value) {us_coder : Value} (Fs_coder : Fld Z h0 s "java/lang/AbstractStringBuilder" "coder" "B" us_coder) (Fs_count : Fld Z h0 s "java/lang/AbstractStringBuilder" "count" "I" (.int 0)) (Fs_ml : Fld Z h0 s "java/lang/AbstractStringBuilder" "maybeLatin1" "Z" (.int 0)) (nb_s : ¬ B0 s) (zl_s : Z.heap.size ≤ s)  :
    Con nw l Z EL (⟨"java/lang/StringBuilder", "<init>", "()V"⟩ : MethodName) jdk_67_method_1_code 1 none [] ({ frames := 2, cells := 1, slots := 16, locals := 25 } : Room) #[(.ref s)] h0 B0 [s] (fun v h B => ∃ t, v = none ∧ B0 = B ∧ h0.size ≤ t ∧ ¬ B t ∧ SBS Z h s t [] (List.replicate 16 0) ∧ Fld Z h s "java/lang/AbstractStringBuilder" "maybeLatin1" "Z" (.int 0)) := by
  refine k_intro (Ls := #[.val (.ref s)]) (by decide +kernel) rfl fun x T0 X0 => ?_
  refine g_aloadN X0 d28_0 rfl rfl ?_
  refine g_bipush X0 (16 : Int32) d28_1 (by decide) ?_
  refine g_callI X0 d28_3 (w51 hw) (w52 hw) (w55 hw) (w56 hw) rfl (by decide) pd4 s [(.int (16 : Int32))] [] 0 (c_asbInit2 hw hs s E_s Fs_value Fs_coder Fs_count Fs_ml nb_s zl_s) rfl rfl rfl (Nat.le_of_eq rfl) (by decide) (by decide) 1 16 rfl rfl (by decide) (by decide) (k_ws1 ⟨nb_s, zl_s, (Or.inl (List.mem_of_getElem? (i := 0) rfl))⟩) fun v1 T1 h1 B1 X1 K1 M1 q1 => ?_
  obtain ⟨t, rfl, rfl, ft, nbt, Es, Fv, Fc, Fn, Fm, At⟩ := q1
  have z1 := K1.1
  show Go x (T1.setTop (mkF x.m 6 #[.val (.ref s)] []))
  exact g_return X1 d28_6 (by decide) (by decide) ⟨t, rfl, rfl, ft, nbt, ⟨Es, Fv, Fc, Fn, At⟩, Fm⟩
set_option maxRecDepth 65536 in
set_option maxHeartbeats 40000000 in
theorem c_appNull {nw : Bool} {l : Launch} {Z : State} {EL : List (String × Nat)} {a0 : Array Value} (hw : HW Z a0) (hs : Sts Z) {h0 : Heap} {B0 : BP} (s t : Addr) (S : SBS Z h0 s t [] (List.replicate 16 0)) (nb_s : ¬ B0 s) (zl_s : Z.heap.size ≤ s) (nb_t : ¬ B0 t) (zl_t : Z.heap.size ≤ t)  :
    Con nw l Z EL (⟨"java/lang/AbstractStringBuilder", "appendNull", "()Ljava/lang/AbstractStringBuilder;"⟩ : MethodName) jdk_68_method_26_code 3 (some (.object "java/lang/AbstractStringBuilder")) [] ({ frames := 1, cells := 0, slots := 0, locals := 14 } : Room) #[(.ref s)] h0 B0 [s, t] (fun v h B => v = some (.ref s) ∧ B0 = B ∧ SBS Z h s t [(110 : Int32), (117 : Int32), (108 : Int32), (108 : Int32)] (List.replicate 12 0)) := by
  refine k_intro (Ls := #[.val (.ref s), .unset, .unset]) (by decide +kernel) rfl fun x T0 X0 => ?_
  obtain ⟨E_s, Fs_value, Fs_coder, Fs_count, A_t⟩ := S.op
  have lt_s := k_ltE E_s; have lt_t := A_t.lt
  have lt_s := k_ltE E_s
  have nst : s ≠ t := Ay.ne E_s (w46 hw) A_t
  have Fs_cnt : Fld Z h0 s "java/lang/AbstractStringBuilder" "count" "I" (.int 0) := Fs_count
  have A_t' : Ay Z h0 t .byte [.int 0, .int 0, .int 0, .int 0, .int 0, .int 0, .int 0, .int 0, .int 0, .int 0, .int 0, .int 0, .int 0, .int 0, .int 0, .int 0] := A_t
  refine g_aloadN X0 d29_0 rfl rfl ?_
  refine g_aloadN X0 d29_1 rfl rfl ?_
  refine g_getfield X0 d29_2 (w85 hw) Via.refl Fs_cnt fun T1 X1 => ?_
  refine g_iconst X1 (4 : Int32) d29_5 (by decide) ?_
  refine g_iadd X1 (4 : Int32) d29_6 (by decide) ?_
  refine g_callP X1 d29_7 (w87 hw) (w90 hw) (w88 hw) (w55 hw) (w91 hw) (by decide) pd4 s [(.int (4 : Int32))] [] 0 E_s (c_ensure hw hs s t 4 _ Fs_value Fs_coder A_t' rfl (by decide)) rfl rfl rfl (Nat.le_of_eq rfl) (by decide) (by decide) 0 0 rfl rfl (by decide) (by decide) (fun _ q => nomatch q) fun v2 T2 h2 B2 X2 K2 M2 q2 => ?_
  obtain ⟨ea2, eb2, ec2⟩ := q2; have eb2 := eb2.symm; have ec2 := ec2.symm; subst ea2 eb2 ec2
  show Go x (T2.setTop (mkF x.m 10 #[.val (.ref s), .unset, .unset] []))
  refine g_aloadN X2 d29_10 rfl rfl ?_
  refine g_getfield X2 d29_11 (w85 hw) Via.refl Fs_cnt fun T3 X3 => ?_
  refine g_istoreN X3 #[.val (.ref s), .val (.int (0 : Int32)), .unset] d29_14 rfl ?_
  refine g_aloadN X3 d29_15 rfl rfl ?_
  refine g_getfield X3 d29_16 (w60 hw) Via.refl Fs_value fun T4 X4 => ?_
  refine g_astoreN X4 #[.val (.ref s), .val (.int (0 : Int32)), .val (.ref t)] d29_19 rfl rfl ?_
  refine g_aloadN X4 d29_20 rfl rfl ?_
  refine g_callVp X4 d29_21 (w92 hw) (w93 hw) (w95 hw) (w94 hw) (w55 hw) (w96 hw) (by decide) pd11 s [] [] 0 E_s (c_asbLat hw hs s Fs_coder) rfl rfl rfl (Nat.le_of_eq rfl) (by decide) (by decide) 0 0 rfl rfl (by decide) (by decide) fun T5 X5 => ?_
  refine g_ifF X5 d29_24 (by decide) ?_
  refine g_aloadN X5 d29_27 rfl rfl ?_
  refine g_iloadN X5 d29_28 rfl ?_
  refine g_iinc X5 #[.val (.ref s), .val (.int (1 : Int32)), .val (.ref t)] d29_29 rfl (by decide) rfl ?_
  refine g_bipush X5 (110 : Int32) d29_32 (by decide) ?_
  refine g_bastore X5 d29_34 A_t' 0 (by decide) (110 : Int32) (by decide) (Nat.le_of_ble_eq_true rfl) nb_t zl_t (Or.inl (List.mem_of_getElem? (i := 1) rfl)) fun T6 h6 X6 K6 A6 => ?_
  have z6 := K6.1
  have A6a : Ay Z h6 t .byte [(.int (110 : Int32)), (.int (0 : Int32)), (.int (0 : Int32)), (.int (0 : Int32)), (.int (0 : Int32)), (.int (0 : Int32)), (.int (0 : Int32)), (.int (0 : Int32)), (.int (0 : Int32)), (.int (0 : Int32)), (.int (0 : Int32)), (.int (0 : Int32)), (.int (0 : Int32)), (.int (0 : Int32)), (.int (0 : Int32)), (.int (0 : Int32))] := A6
  refine g_aloadN X6 d29_35 rfl rfl ?_
  refine g_iloadN X6 d29_36 rfl ?_
  refine g_iinc X6 #[.val (.ref s), .val (.int (2 : Int32)), .val (.ref t)] d29_37 rfl (by decide) rfl ?_
  refine g_bipush X6 (117 : Int32) d29_40 (by decide) ?_
  refine g_bastore X6 d29_42 A6a 1 (by decide) (117 : Int32) (by decide) (Nat.le_of_ble_eq_true rfl) nb_t zl_t (Or.inl (List.mem_of_getElem? (i := 1) rfl)) fun T7 h7 X7 K7 A7 => ?_
  have z7 := K7.1
  have A7a : Ay Z h7 t .byte [(.int (110 : Int32)), (.int (117 : Int32)), (.int (0 : Int32)), (.int (0 : Int32)), (.int (0 : Int32)), (.int (0 : Int32)), (.int (0 : Int32)), (.int (0 : Int32)), (.int (0 : Int32)), (.int (0 : Int32)), (.int (0 : Int32)), (.int (0 : Int32)), (.int (0 : Int32)), (.int (0 : Int32)), (.int (0 : Int32)), (.int (0 : Int32))] := A7
  refine g_aloadN X7 d29_43 rfl rfl ?_
  refine g_iloadN X7 d29_44 rfl ?_
  refine g_iinc X7 #[.val (.ref s), .val (.int (3 : Int32)), .val (.ref t)] d29_45 rfl (by decide) rfl ?_
  refine g_bipush X7 (108 : Int32) d29_48 (by decide) ?_
  refine g_bastore X7 d29_50 A7a 2 (by decide) (108 : Int32) (by decide) (Nat.le_of_ble_eq_true rfl) nb_t zl_t (Or.inl (List.mem_of_getElem? (i := 1) rfl)) fun T8 h8 X8 K8 A8 => ?_
  have z8 := K8.1
  have A8a : Ay Z h8 t .byte [(.int (110 : Int32)), (.int (117 : Int32)), (.int (108 : Int32)), (.int (0 : Int32)), (.int (0 : Int32)), (.int (0 : Int32)), (.int (0 : Int32)), (.int (0 : Int32)), (.int (0 : Int32)), (.int (0 : Int32)), (.int (0 : Int32)), (.int (0 : Int32)), (.int (0 : Int32)), (.int (0 : Int32)), (.int (0 : Int32)), (.int (0 : Int32))] := A8
  refine g_aloadN X8 d29_51 rfl rfl ?_
  refine g_iloadN X8 d29_52 rfl ?_
  refine g_iinc X8 #[.val (.ref s), .val (.int (4 : Int32)), .val (.ref t)] d29_53 rfl (by decide) rfl ?_
  refine g_bipush X8 (108 : Int32) d29_56 (by decide) ?_
  refine g_bastore X8 d29_58 A8a 3 (by decide) (108 : Int32) (by decide) (Nat.le_of_ble_eq_true rfl) nb_t zl_t (Or.inl (List.mem_of_getElem? (i := 1) rfl)) fun T9 h9 X9 K9 A9 => ?_
  have z9 := K9.1
  have A9a : Ay Z h9 t .byte [(.int (110 : Int32)), (.int (117 : Int32)), (.int (108 : Int32)), (.int (108 : Int32)), (.int (0 : Int32)), (.int (0 : Int32)), (.int (0 : Int32)), (.int (0 : Int32)), (.int (0 : Int32)), (.int (0 : Int32)), (.int (0 : Int32)), (.int (0 : Int32)), (.int (0 : Int32)), (.int (0 : Int32)), (.int (0 : Int32)), (.int (0 : Int32))] := A9
  refine g_goto X9 d29_59 ?_
  refine g_aloadN X9 d29_76 rfl rfl ?_
  refine g_iloadN X9 d29_77 rfl ?_
  have F10 := ((((Fs_cnt.keep K6 (ninS nst nin0)).keep K7 (ninS nst nin0)).keep K8 (ninS nst nin0)).keep K9 (ninS nst nin0))
  have E_11 := ((((E_s.keep K6).keep K7).keep K8).keep K9)
  refine g_putfield X9 d29_78 (w85 hw) Via.refl F10 E_11 (Or.inl (w86 hw)) (w46 hw) (ty := .int) (v' := (.int (4 : Int32))) (by decide) rfl rfl nb_s zl_s (Or.inl (List.mem_of_getElem? (i := 0) rfl)) fun T12 h12 X12 W12 => ?_
  have z12 := W12.size; have Fw12 := F10.same W12
  refine g_aloadN X12 d29_81 rfl rfl ?_
  have E_13 := (E_11.wr W12)
  have F14 := (((((Fs_value.keep K6 (ninS nst nin0)).keep K7 (ninS nst nin0)).keep K8 (ninS nst nin0)).keep K9 (ninS nst nin0)).other W12 (Or.inr (slot_ne (Or.inl (w61 hw)) (Or.inl (w86 hw)) (by decide) (t := (.array .byte)) (t' := .int) (by decide) (by decide))))
  have F15 := (((((Fs_coder.keep K6 (ninS nst nin0)).keep K7 (ninS nst nin0)).keep K8 (ninS nst nin0)).keep K9 (ninS nst nin0)).other W12 (Or.inr (slot_ne (Or.inl (w63 hw)) (Or.inl (w86 hw)) (by decide) (t := .byte) (t' := .int) (by decide) (by decide))))
  have A16 := (A9a.keep (Keep.of_wr W12) (ninS (Ne.symm nst) nin0))
  exact g_areturn X12 d29_82 rfl rfl rfl (by decide) (by decide) ⟨rfl, rfl, E_13, F14, F15, Fw12, A16⟩
set_option maxRecDepth 65536 in
set_option maxHeartbeats 40000000 in
theorem c_asbAppN {nw : Bool} {l : Launch} {Z : State} {EL : List (String × Nat)} {a0 : Array Value} (hw : HW Z a0) (hs : Sts Z) {h0 : Heap} {B0 : BP} (s t : Addr) (S : SBS Z h0 s t [] (List.replicate 16 0)) (nb_s : ¬ B0 s) (zl_s : Z.heap.size ≤ s) (nb_t : ¬ B0 t) (zl_t : Z.heap.size ≤ t)  :
    Con nw l Z EL (⟨"java/lang/AbstractStringBuilder", "append", "(Ljava/lang/String;)Ljava/lang/AbstractStringBuilder;"⟩ : MethodName) jdk_68_method_22_code 3 (some (.object "java/lang/AbstractStringBuilder")) [] ({ frames := 2, cells := 0, slots := 0, locals := 28 } : Room) #[(.ref s), .null] h0 B0 [s, t] (fun v h B => v = some (.ref s) ∧ B0 = B ∧ SBS Z h s t [(110 : Int32), (117 : Int32), (108 : Int32), (108 : Int32)] (List.replicate 12 0)) := by
  refine k_intro (Ls := #[.val (.ref s), .val .null, .unset]) (by decide +kernel) rfl fun x T0 X0 => ?_
  have E_s := S.op.1
  refine g_aloadN X0 d6_0 rfl rfl ?_
  refine g_ifnonnullF X0 d6_1 ?_
  refine g_aloadN X0 d6_4 rfl rfl ?_
  refine g_callP X0 d6_5 (w80 hw) (w83 hw) (w81 hw) (w55 hw) (w84 hw) (by decide) pd21 s [] [] 0 E_s (c_appNull hw hs s t S nb_s zl_s nb_t zl_t) rfl rfl rfl (Nat.le_of_eq rfl) (by decide) (by decide) 0 0 rfl rfl (by decide) (by decide) (k_wsC ⟨nb_s, zl_s, (Or.inl (List.mem_of_getElem? (i := 0) rfl))⟩ (k_wsC ⟨nb_t, zl_t, (Or.inl (List.mem_of_getElem? (i := 1) rfl))⟩ (fun _ q => nomatch q))) fun v1 T1 h1 B1 X1 K1 M1 q1 => ?_
  obtain ⟨rfl, rfl, R⟩ := q1
  have z1 := K1.1
  show Go x (T1.setTop (mkF x.m 8 #[.val (.ref s), .val .null, .unset] [(.ref s)]))
  exact g_areturn X1 d6_8 rfl rfl rfl (by decide) (by decide) ⟨rfl, rfl, R⟩
set_option maxRecDepth 65536 in
set_option maxHeartbeats 40000000 in
theorem c_sbAppN {nw : Bool} {l : Launch} {Z : State} {EL : List (String × Nat)} {a0 : Array Value} (hw : HW Z a0) (hs : Sts Z) {h0 : Heap} {B0 : BP} (s t : Addr) (S : SBS Z h0 s t [] (List.replicate 16 0)) (nb_s : ¬ B0 s) (zl_s : Z.heap.size ≤ s) (nb_t : ¬ B0 t) (zl_t : Z.heap.size ≤ t)  :
    Con nw l Z EL (⟨"java/lang/StringBuilder", "append", "(Ljava/lang/String;)Ljava/lang/StringBuilder;"⟩ : MethodName) jdk_67_method_7_code 2 (some (.object "java/lang/StringBuilder")) [] ({ frames := 3, cells := 0, slots := 0, locals := 42 } : Room) #[(.ref s), .null] h0 B0 [s, t] (fun v h B => v = some (.ref s) ∧ B0 = B ∧ SBS Z h s t [(110 : Int32), (117 : Int32), (108 : Int32), (108 : Int32)] (List.replicate 12 0)) := by
  refine k_intro (Ls := #[.val (.ref s), .val .null]) (by decide +kernel) rfl fun x T0 X0 => ?_
  have E_s := S.op.1
  refine g_aloadN X0 d7_0 rfl rfl ?_
  refine g_aloadN X0 d7_1 rfl rfl ?_
  refine g_callU X0 d7_2 (w75 hw) (w77 hw) (w83 hw) rfl (by decide) (w76 hw) (w55 hw) (w79 hw) (by decide) pd6 s [.null] [] 0 E_s (c_asbAppN hw hs s t S nb_s zl_s nb_t zl_t) rfl rfl rfl (Nat.le_of_eq rfl) (by decide) (by decide) 0 0 rfl rfl (by decide) (by decide) (k_wsC ⟨nb_s, zl_s, (Or.inl (List.mem_of_getElem? (i := 0) rfl))⟩ (k_wsC ⟨nb_t, zl_t, (Or.inl (List.mem_of_getElem? (i := 1) rfl))⟩ (fun _ q => nomatch q))) fun v1 T1 h1 B1 X1 K1 M1 q1 => ?_
  obtain ⟨rfl, rfl, R⟩ := q1
  have z1 := K1.1
  show Go x (T1.setTop (mkF x.m 5 #[.val (.ref s), .val .null] [(.ref s)]))
  refine g_pop X1 d7_5 rfl ?_
  refine g_aloadN X1 d7_6 rfl rfl ?_
  exact g_areturn X1 d7_7 rfl rfl rfl (by decide) (by decide) ⟨rfl, rfl, R⟩
set_option maxRecDepth 65536 in
set_option maxHeartbeats 40000000 in
theorem c_asbLatU {nw : Bool} {l : Launch} {Z : State} {EL : List (String × Nat)} {a0 : Array Value} (hw : HW Z a0) (hs : Sts Z) {h0 : Heap} {B0 : BP} (s : Addr) (F : Fld Z h0 s "java/lang/AbstractStringBuilder" "coder" "B" (.int 1)) :
    Con nw l Z EL (⟨"java/lang/AbstractStringBuilder", "isLatin1", "()Z"⟩ : MethodName) jdk_68_method_68_code 1 (some .boolean) [] ({ frames := 0, cells := 0, slots := 0, locals := 0 } : Room) #[(.ref s)] h0 B0 [] (PQ (some (.int (0 : Int32))) h0 B0) := by
  refine k_intro (Ls := #[.val (.ref s)]) (by decide +kernel) rfl fun x T0 X0 => ?_
  obtain ⟨cv, sCS, ncv⟩ := hs.1
  refine g_getstatic X0 d15_0 (w58 hw) Via.refl sCS fun T1 X1 => ?_
  refine g_ifF X1 d15_3 (XT.i0_eq_f ncv) ?_
  refine g_aloadN X1 d15_6 rfl rfl ?_
  refine g_getfield X1 d15_7 (w62 hw) Via.refl F fun T2 X2 => ?_
  refine g_ifT X2 d15_10 (by decide) ?_
  refine g_iconst X2 (0 : Int32) d15_17 (by decide) ?_
  exact g_ireturn (w' := (0 : Int32)) X2 d15_18 (Or.inl rfl) (by decide) (by decide) (by decide) ⟨rfl, rfl, rfl⟩
set_option maxRecDepth 65536 in
set_option maxHeartbeats 40000000 in
theorem c_len16 {nw : Bool} {l : Launch} {Z : State} {EL : List (String × Nat)} {a0 : Array Value} (hw : HW Z a0) (hs : Sts Z) {h0 : Heap} {B0 : BP} (t : Addr) (m : Nat) (vs : List Value) (A : Ay Z h0 t .byte vs) (hm : vs.length = 2 * m) :
    Con nw l Z EL (⟨"java/lang/StringUTF16", "length", "([B)I"⟩ : MethodName) jdk_52_method_6_code 1 (some .int) [] ({ frames := 0, cells := 0, slots := 0, locals := 0 } : Room) #[(.ref t)] h0 B0 [] (PQ (some (.int (Int32.ofNat m))) h0 B0) := by
  refine k_intro (Ls := #[.val (.ref t)]) (by decide +kernel) rfl fun x T0 X0 => ?_
  have hl := A.len
  refine g_aloadN X0 d30_0 rfl rfl ?_
  refine g_arraylength X0 d30_1 A (Int32.ofNat (2 * m)) (by rw [hm]) ?_
  refine g_iconst X0 (1 : Int32) d30_2 (by decide) ?_
  refine g_ishr X0 (Int32.ofNat m) d30_3 (k_shr1 (by omega)) ?_
  exact g_ireturnI X0 d30_4 (by decide) (by decide) ⟨rfl, rfl, rfl⟩
set_option maxRecDepth 65536 in
set_option maxHeartbeats 40000000 in
theorem c_checkFromSize {nw : Bool} {l : Launch} {Z : State} {EL : List (String × Nat)} {a0 : Array Value} (hw : HW Z a0) (hs : Sts Z) {h0 : Heap} {B0 : BP} (f m n : Nat) (v : Value) (r : v.isRef = true) (h : f + m ≤ n) (hn : n < 2 ^ 31) :
    Con nw l Z EL (⟨"jdk/internal/util/Preconditions", "checkFromIndexSize", "(IIILjava/util/function/BiFunction;)I"⟩ : MethodName) jdk_41_method_13_code 4 (some .int) [] ({ frames := 0, cells := 0, slots := 0, locals := 0 } : Room) #[(.int (Int32.ofNat f)), (.int (Int32.ofNat m)), (.int (Int32.ofNat n)), v] h0 B0 [] (PQ (some (.int (Int32.ofNat f))) h0 B0) := by
  refine k_intro (Ls := #[.val (.int (Int32.ofNat f)), .val (.int (Int32.ofNat m)), .val (.int (Int32.ofNat n)), .val v]) (by decide +kernel) (by rcases ref_cases r with rfl | ⟨_, rfl⟩ <;> rfl) fun x T0 X0 => ?_
  refine g_iloadN X0 d31_0 rfl ?_
  refine g_iloadN X0 d31_1 rfl ?_
  refine g_ior X0 ((Int32.ofNat n) ||| (Int32.ofNat f)) d31_2 rfl ?_
  refine g_iloadN X0 d31_3 rfl ?_
  refine g_ior X0 (((Int32.ofNat n) ||| (Int32.ofNat f)) ||| (Int32.ofNat m)) d31_4 rfl ?_
  refine g_ifF X0 d31_5 (XT.i0_lt_f (k_or3 (by omega) (by omega) hn)) ?_
  refine g_iloadN X0 d31_8 rfl ?_
  refine g_iloadN X0 d31_9 rfl ?_
  refine g_iloadN X0 d31_10 rfl ?_
  refine g_isub X0 (Int32.ofNat (n - f)) d31_11 (k_sub (by omega)) ?_
  refine g_icmpT X0 d31_12 (XT.ii_le_t (k_nlt (by omega) (by omega))) ?_
  refine g_iloadN X0 d31_23 rfl ?_
  exact g_ireturnI X0 d31_24 (by decide) (by decide) ⟨rfl, rfl, rfl⟩
set_option maxRecDepth 65536 in
set_option maxHeartbeats 40000000 in
theorem c_checkOffS {nw : Bool} {l : Launch} {Z : State} {EL : List (String × Nat)} {a0 : Array Value} (hw : HW Z a0) (hs : Sts Z) {h0 : Heap} {B0 : BP} (f m n : Nat) (h : f + m ≤ n) (hn : n < 2 ^ 31) :
    Con nw l Z EL (⟨"java/lang/String", "checkBoundsOffCount", "(III)I"⟩ : MethodName) jdk_42_method_157_code 3 (some .int) [] ({ frames := 1, cells := 0, slots := 0, locals := 15 } : Room) #[(.int (Int32.ofNat f)), (.int (Int32.ofNat m)), (.int (Int32.ofNat n))] h0 B0 [] (PQ (some (.int (Int32.ofNat f))) h0 B0) := by
  refine k_intro (Ls := #[.val (.int (Int32.ofNat f)), .val (.int (Int32.ofNat m)), .val (.int (Int32.ofNat n))]) (by decide +kernel) rfl fun x T0 X0 => ?_
  obtain ⟨fv, sFV, rfv⟩ := hs.2.1
  refine g_iloadN X0 d32_0 rfl ?_
  refine g_iloadN X0 d32_1 rfl ?_
  refine g_iloadN X0 d32_2 rfl ?_
  refine g_getstatic X0 d32_3 (w276 hw) Via.refl sFV fun T1 X1 => ?_
  refine g_callSp X1 d32_6 (w278 hw) (w279 hw) (w277 hw) (w280 hw) (by decide) pd22 [(.int (Int32.ofNat f)), (.int (Int32.ofNat m)), (.int (Int32.ofNat n)), fv] [] 0 (c_checkFromSize hw hs f m n fv rfv h hn) rfl rfl rfl (Nat.le_of_eq rfl) (by decide) (by decide) 0 0 rfl rfl (by decide) (by decide) fun T2 X2 => ?_
  exact g_ireturnI X2 d32_9 (by decide) (by decide) ⟨rfl, rfl, rfl⟩
set_option maxRecDepth 65536 in
set_option maxHeartbeats 40000000 in
theorem c_checkOff16 {nw : Bool} {l : Launch} {Z : State} {EL : List (String × Nat)} {a0 : Array Value} (hw : HW Z a0) (hs : Sts Z) {h0 : Heap} {B0 : BP} (t : Addr) (f m n : Nat) (vs : List Value) (A : Ay Z h0 t .byte vs) (hm : vs.length = 2 * n) (h : f + m ≤ n) :
    Con nw l Z EL (⟨"java/lang/StringUTF16", "checkBoundsOffCount", "(II[B)V"⟩ : MethodName) jdk_52_method_94_code 3 none [] ({ frames := 2, cells := 0, slots := 0, locals := 29 } : Room) #[(.int (Int32.ofNat f)), (.int (Int32.ofNat m)), (.ref t)] h0 B0 [] (PQ none h0 B0) := by
  refine k_intro (Ls := #[.val (.int (Int32.ofNat f)), .val (.int (Int32.ofNat m)), .val (.ref t)]) (by decide +kernel) rfl fun x T0 X0 => ?_
  have hl := A.len
  refine g_iloadN X0 d33_0 rfl ?_
  refine g_iloadN X0 d33_1 rfl ?_
  refine g_aloadN X0 d33_2 rfl rfl ?_
  refine g_callSp X0 d33_3 (w270 hw) (w271 hw) (w227 hw) (w272 hw) (by decide) pd23 [(.ref t)] [(.int (Int32.ofNat m)), (.int (Int32.ofNat f))] 2 (c_len16 hw hs t n vs A hm) rfl rfl rfl (Nat.le_of_eq rfl) (by decide) (by decide) 0 0 rfl rfl (by decide) (by decide) fun T1 X1 => ?_
  refine g_callSp X1 d33_6 (w273 hw) (w274 hw) (w59 hw) (w275 hw) (by decide) pd24 [(.int (Int32.ofNat f)), (.int (Int32.ofNat m)), (.int (Int32.ofNat n))] [] 0 (c_checkOffS hw hs f m n h (by omega)) rfl rfl rfl (Nat.le_of_eq rfl) (by decide) (by decide) 0 0 rfl rfl (by decide) (by decide) fun T2 X2 => ?_
  refine g_pop X2 d33_9 rfl ?_
  exact g_return X2 d33_10 (by decide) (by decide) ⟨rfl, rfl, rfl⟩
set_option maxRecDepth 65536 in
set_option maxHeartbeats 40000000 in
theorem c_putChar {nw : Bool} {l : Launch} {Z : State} {EL : List (String × Nat)} {a0 : Array Value} (hw : HW Z a0) (hs : Sts Z) {h0 : Heap} {B0 : BP} (t : Addr) (i : Nat) (c : Int32) (vs : List Value) (A : Ay Z h0 t .byte vs) (hi : 2 * i + 1 < vs.length) (nb : ¬ B0 t) (zl : Z.heap.size ≤ t) :
    Con nw l Z EL (⟨"java/lang/StringUTF16", "putChar", "([BII)V"⟩ : MethodName) jdk_52_method_4_code 3 none [] ({ frames := 0, cells := 0, slots := 0, locals := 0 } : Room) #[(.ref t), (.int (Int32.ofNat i)), (.int c)] h0 B0 [t] (fun v h B => v = none ∧ B0 = B ∧ Ay Z h t .byte ((vs.set (2 * i) (.int (lo8 c))).set (2 * i + 1) (.int (hi8 c)))) := by
  refine k_intro (Ls := #[.val (.ref t), .val (.int (Int32.ofNat i)), .val (.int c)]) (by decide +kernel) rfl fun x T0 X0 => ?_
  obtain ⟨sAD, sHI, sLO⟩ := hs.2.2.1
  have hl := A.len
  refine g_getstatic X0 d34_0 (w245 hw) Via.refl sAD fun T1 X1 => ?_
  refine g_ifT X1 d34_3 (by decide) ?_
  refine g_iloadN X1 d34_28 rfl ?_
  refine g_iconst X1 (1 : Int32) d34_29 (by decide) ?_
  refine g_ishl X1 (Int32.ofNat (2 * i)) d34_30 (k_shl1 (by omega)) ?_
  refine g_istoreN X1 #[.val (.ref t), .val (.int (Int32.ofNat (2 * i))), .val (.int c)] d34_31 rfl ?_
  refine g_aloadN X1 d34_32 rfl rfl ?_
  refine g_iloadN X1 d34_33 rfl ?_
  refine g_iinc X1 #[.val (.ref t), .val (.int (Int32.ofNat (2 * i + 1))), .val (.int c)] d34_34 rfl (k_inc _) rfl ?_
  refine g_iloadN X1 d34_37 rfl ?_
  refine g_getstatic X1 d34_38 (w246 hw) Via.refl sHI fun T2 X2 => ?_
  refine g_ishr X2 c d34_41 (k_shr0 c) ?_
  refine g_i2b X2 (lo8 c) d34_42 rfl ?_
  refine g_bastore X2 d34_43 A (2 * i) rfl (lo8 c) (nar_b8 c) (by omega) nb zl (Or.inl (List.mem_of_getElem? (i := 0) rfl)) fun T3 h3 X3 K3 A3 => ?_
  have z3 := K3.1
  refine g_aloadN X3 d34_44 rfl rfl ?_
  refine g_iloadN X3 d34_45 rfl ?_
  refine g_iloadN X3 d34_46 rfl ?_
  refine g_getstatic X3 d34_47 (w247 hw) Via.refl sLO fun T4 X4 => ?_
  refine g_ishr X4 (c >>> ((8 : Int32) &&& 31)) d34_50 rfl ?_
  refine g_i2b X4 (hi8 c) d34_51 rfl ?_
  refine g_bastore X4 d34_52 A3 (2 * i + 1) rfl (hi8 c) (nar_b8 _) (by simpa using hi) nb zl (Or.inl (List.mem_of_getElem? (i := 0) rfl)) fun T5 h5 X5 K5 A5 => ?_
  have z5 := K5.1
  exact g_return X5 d34_53 (by decide) (by decide) ⟨rfl, rfl, A5⟩
set_option maxRecDepth 65536 in
set_option maxHeartbeats 40000000 in
theorem c_inflU0 {nw : Bool} {l : Launch} {Z : State} {EL : List (String × Nat)} {a0 : Array Value} (hw : HW Z a0) (hs : Sts Z) {h0 : Heap} {B0 : BP} (t t2 : Addr) (vs : List Value) (Au : Ay Z h0 t2 .byte vs) (hm : vs.length = 2 * 16) :
    Con nw l Z EL (⟨"java/lang/StringUTF16", "inflate", "([BI[BII)V"⟩ : MethodName) jdk_52_method_86_code 6 none [] ({ frames := 3, cells := 0, slots := 0, locals := 43 } : Room) #[(.ref t), (.int (0 : Int32)), (.ref t2), (.int (0 : Int32)), (.int (0 : Int32))] h0 B0 [] (PQ none h0 B0) := by
  refine k_intro (Ls := #[.val (.ref t), .val (.int (0 : Int32)), .val (.ref t2), .val (.int (0 : Int32)), .val (.int (0 : Int32)), .unset]) (by decide +kernel) rfl fun x T0 X0 => ?_
  refine g_iloadN X0 d35_0 rfl ?_
  refine g_iload X0 d35_1 rfl ?_
  refine g_aloadN X0 d35_3 rfl rfl ?_
  refine g_callSp0 X0 d35_4 (w267 hw) (w268 hw) (w227 hw) (w269 hw) (by decide) pd25 [(.int (0 : Int32)), (.int (0 : Int32)), (.ref t2)] [] 0 (c_checkOff16 hw hs t2 0 0 16 vs Au hm (by decide)) rfl rfl rfl (Nat.le_of_eq rfl) (by decide) (by decide) 0 0 rfl rfl (by decide) (by decide) fun T1 X1 => ?_
  refine g_iconst X1 (0 : Int32) d35_7 (by decide) ?_
  refine g_istore X1 #[.val (.ref t), .val (.int (0 : Int32)), .val (.ref t2), .val (.int (0 : Int32)), .val (.int (0 : Int32)), .val (.int (0 : Int32))] d35_8 rfl ?_
  refine g_iload X1 d35_10 rfl ?_
  refine g_iload X1 d35_12 rfl ?_
  refine g_icmpT X1 d35_14 (by decide) ?_
  exact g_return X1 d35_41 (by decide) (by decide) ⟨rfl, rfl, rfl⟩
set_option maxRecDepth 65536 in
set_option maxHeartbeats 40000000 in
theorem c_slInfl0 {nw : Bool} {l : Launch} {Z : State} {EL : List (String × Nat)} {a0 : Array Value} (hw : HW Z a0) (hs : Sts Z) {h0 : Heap} {B0 : BP} (t t2 : Addr) (vs : List Value) (Au : Ay Z h0 t2 .byte vs) (hm : vs.length = 2 * 16) :
    Con nw l Z EL (⟨"java/lang/StringLatin1", "inflate", "([BI[BII)V"⟩ : MethodName) jdk_43_method_50_code 5 none [] ({ frames := 4, cells := 0, slots := 0, locals := 60 } : Room) #[(.ref t), (.int (0 : Int32)), (.ref t2), (.int (0 : Int32)), (.int (0 : Int32))] h0 B0 [] (PQ none h0 B0) := by
  refine k_intro (Ls := #[.val (.ref t), .val (.int (0 : Int32)), .val (.ref t2), .val (.int (0 : Int32)), .val (.int (0 : Int32))]) (by decide +kernel) rfl fun x T0 X0 => ?_
  refine g_aloadN X0 d36_0 rfl rfl ?_
  refine g_iloadN X0 d36_1 rfl ?_
  refine g_aloadN X0 d36_2 rfl rfl ?_
  refine g_iloadN X0 d36_3 rfl ?_
  refine g_iload X0 d36_4 rfl ?_
  refine g_callSp0 X0 d36_6 (w264 hw) (w265 hw) (w227 hw) (w266 hw) (by decide) pd26 [(.ref t), (.int (0 : Int32)), (.ref t2), (.int (0 : Int32)), (.int (0 : Int32))] [] 0 (c_inflU0 hw hs t t2 vs Au hm) rfl rfl rfl (Nat.le_of_eq rfl) (by decide) (by decide) 0 0 rfl rfl (by decide) (by decide) fun T1 X1 => ?_
  exact g_return X1 d36_9 (by decide) (by decide) ⟨rfl, rfl, rfl⟩
set_option maxRecDepth 65536 in
set_option maxHeartbeats 40000000 in
theorem c_inflU1 {nw : Bool} {l : Launch} {Z : State} {EL : List (String × Nat)} {a0 : Array Value} (hw : HW Z a0) (hs : Sts Z) {h0 : Heap} {B0 : BP} (t t2 : Addr) (m : Nat) (vs : List Value) (At : Ay Z h0 t .byte [.int 10]) (Au : Ay Z h0 t2 .byte vs) (hm : vs.length = 2 * 16) (hlt : m + 1 ≤ 16) (nt : @Ne Nat t t2) (nb_t2 : ¬ B0 t2) (zl_t2 : Z.heap.size ≤ t2)  :
    Con nw l Z EL (⟨"java/lang/StringUTF16", "inflate", "([BI[BII)V"⟩ : MethodName) jdk_52_method_86_code 6 none [] ({ frames := 3, cells := 0, slots := 0, locals := 43 } : Room) #[(.ref t), (.int (0 : Int32)), (.ref t2), (.int (Int32.ofNat m)), (.int (1 : Int32))] h0 B0 [t2] (fun v h B => v = none ∧ B0 = B ∧ Ay Z h t2 .byte ((vs.set (2 * m) (.int (lo8 10))).set (2 * m + 1) (.int (hi8 10)))) := by
  refine k_intro (Ls := #[.val (.ref t), .val (.int (0 : Int32)), .val (.ref t2), .val (.int (Int32.ofNat m)), .val (.int (1 : Int32)), .unset]) (by decide +kernel) rfl fun x T0 X0 => ?_
  refine g_iloadN X0 d35_0 rfl ?_
  refine g_iload X0 d35_1 rfl ?_
  refine g_aloadN X0 d35_3 rfl rfl ?_
  refine g_callSp0 X0 d35_4 (w267 hw) (w268 hw) (w227 hw) (w269 hw) (by decide) pd25 [(.int (Int32.ofNat m)), (.int (1 : Int32)), (.ref t2)] [] 0 (c_checkOff16 hw hs t2 m 1 16 vs Au hm hlt) rfl rfl rfl (Nat.le_of_eq rfl) (by decide) (by decide) 0 0 rfl rfl (by decide) (by decide) fun T1 X1 => ?_
  refine g_iconst X1 (0 : Int32) d35_7 (by decide) ?_
  refine g_istore X1 #[.val (.ref t), .val (.int (0 : Int32)), .val (.ref t2), .val (.int (Int32.ofNat m)), .val (.int (1 : Int32)), .val (.int (0 : Int32))] d35_8 rfl ?_
  refine g_iload X1 d35_10 rfl ?_
  refine g_iload X1 d35_12 rfl ?_
  refine g_icmpF X1 d35_14 (by decide) ?_
  refine g_aloadN X1 d35_17 rfl rfl ?_
  refine g_iloadN X1 d35_18 rfl ?_
  refine g_iinc X1 #[.val (.ref t), .val (.int (0 : Int32)), .val (.ref t2), .val (.int (Int32.ofNat (m + 1))), .val (.int (1 : Int32)), .val (.int (0 : Int32))] d35_19 rfl (k_inc m) rfl ?_
  refine g_aloadN X1 d35_22 rfl rfl ?_
  refine g_iloadN X1 d35_23 rfl ?_
  refine g_iinc X1 #[.val (.ref t), .val (.int (1 : Int32)), .val (.ref t2), .val (.int (Int32.ofNat (m + 1))), .val (.int (1 : Int32)), .val (.int (0 : Int32))] d35_24 rfl (by decide) rfl ?_
  refine g_baload X1 d35_27 At 0 (by decide) (by rfl) ?_
  refine g_sipush X1 (255 : Int32) d35_28 (by decide) ?_
  refine g_iand X1 (10 : Int32) d35_31 (by decide) ?_
  refine g_callS X1 d35_32 (w242 hw) (w243 hw) (w227 hw) (w244 hw) (by decide) pd27 [(.ref t2), (.int (Int32.ofNat m)), (.int (10 : Int32))] [] 0 (c_putChar hw hs t2 m 10 vs Au (by omega) nb_t2 zl_t2) rfl rfl rfl (Nat.le_of_eq rfl) (by decide) (by decide) 0 0 rfl rfl (by decide) (by decide) (k_ws1 ⟨nb_t2, zl_t2, (Or.inl (List.mem_of_getElem? (i := 0) rfl))⟩) fun v2 T2 h2 B2 X2 K2 M2 q2 => ?_
  obtain ⟨rfl, rfl, R⟩ := q2
  have z2 := K2.1
  show Go x (T2.setTop (mkF x.m 35 #[.val (.ref t), .val (.int (1 : Int32)), .val (.ref t2), .val (.int (Int32.ofNat (m + 1))), .val (.int (1 : Int32)), .val (.int (0 : Int32))] []))
  refine g_iinc X2 #[.val (.ref t), .val (.int (1 : Int32)), .val (.ref t2), .val (.int (Int32.ofNat (m + 1))), .val (.int (1 : Int32)), .val (.int (1 : Int32))] d35_35 rfl (by decide) rfl ?_
  refine g_goto X2 d35_38 ?_
  refine g_iload X2 d35_10 rfl ?_
  refine g_iload X2 d35_12 rfl ?_
  refine g_icmpT X2 d35_14 (by decide) ?_
  exact g_return X2 d35_41 (by decide) (by decide) ⟨rfl, rfl, R⟩
set_option maxRecDepth 65536 in
set_option maxHeartbeats 40000000 in
theorem c_slInfl1 {nw : Bool} {l : Launch} {Z : State} {EL : List (String × Nat)} {a0 : Array Value} (hw : HW Z a0) (hs : Sts Z) {h0 : Heap} {B0 : BP} (t t2 : Addr) (m : Nat) (vs : List Value) (At : Ay Z h0 t .byte [.int 10]) (Au : Ay Z h0 t2 .byte vs) (hm : vs.length = 2 * 16) (hlt : m + 1 ≤ 16) (nt : @Ne Nat t t2) (nb_t2 : ¬ B0 t2) (zl_t2 : Z.heap.size ≤ t2)  :
    Con nw l Z EL (⟨"java/lang/StringLatin1", "inflate", "([BI[BII)V"⟩ : MethodName) jdk_43_method_50_code 5 none [] ({ frames := 4, cells := 0, slots := 0, locals := 60 } : Room) #[(.ref t), (.int (0 : Int32)), (.ref t2), (.int (Int32.ofNat m)), (.int (1 : Int32))] h0 B0 [t2] (fun v h B => v = none ∧ B0 = B ∧ Ay Z h t2 .byte ((vs.set (2 * m) (.int (lo8 10))).set (2 * m + 1) (.int (hi8 10)))) := by
  refine k_intro (Ls := #[.val (.ref t), .val (.int (0 : Int32)), .val (.ref t2), .val (.int (Int32.ofNat m)), .val (.int (1 : Int32))]) (by decide +kernel) rfl fun x T0 X0 => ?_
  refine g_aloadN X0 d36_0 rfl rfl ?_
  refine g_iloadN X0 d36_1 rfl ?_
  refine g_aloadN X0 d36_2 rfl rfl ?_
  refine g_iloadN X0 d36_3 rfl ?_
  refine g_iload X0 d36_4 rfl ?_
  refine g_callS X0 d36_6 (w264 hw) (w265 hw) (w227 hw) (w266 hw) (by decide) pd26 [(.ref t), (.int (0 : Int32)), (.ref t2), (.int (Int32.ofNat m)), (.int (1 : Int32))] [] 0 (c_inflU1 hw hs t t2 m vs At Au hm hlt nt nb_t2 zl_t2) rfl rfl rfl (Nat.le_of_eq rfl) (by decide) (by decide) 0 0 rfl rfl (by decide) (by decide) (k_ws1 ⟨nb_t2, zl_t2, (Or.inl (List.mem_of_getElem? (i := 0) rfl))⟩) fun v1 T1 h1 B1 X1 K1 M1 q1 => ?_
  obtain ⟨rfl, rfl, R⟩ := q1
  have z1 := K1.1
  show Go x (T1.setTop (mkF x.m 9 #[.val (.ref t), .val (.int (0 : Int32)), .val (.ref t2), .val (.int (Int32.ofNat m)), .val (.int (1 : Int32))] []))
  exact g_return X1 d36_9 (by decide) (by decide) ⟨rfl, rfl, R⟩
set_option maxRecDepth 65536 in
set_option maxHeartbeats 40000000 in
theorem c_inflate0 {nw : Bool} {l : Launch} {Z : State} {EL : List (String × Nat)} {a0 : Array Value} (hw : HW Z a0) (hs : Sts Z) {h0 : Heap} {B0 : BP} (s t : Addr) (vs : List Value) (E_s : Exa Z h0 s "java/lang/StringBuilder") (Fs_value : Fld Z h0 s "java/lang/AbstractStringBuilder" "value" "[B" (.ref t)) (Fs_coder : Fld Z h0 s "java/lang/AbstractStringBuilder" "coder" "B" (.int 0)) (Fs_count : Fld Z h0 s "java/lang/AbstractStringBuilder" "count" "I" (.int 0)) (Fs_ml : Fld Z h0 s "java/lang/AbstractStringBuilder" "maybeLatin1" "Z" (.int 0)) (A_t : Ay Z h0 t .byte vs) (h16 : vs.length = 16) (nb_s : ¬ B0 s) (zl_s : Z.heap.size ≤ s)  :
    Con nw l Z EL (⟨"java/lang/AbstractStringBuilder", "inflate", "()V"⟩ : MethodName) jdk_68_method_11_code 2 none [] ({ frames := 5, cells := 1, slots := 32, locals := 76 } : Room) #[(.ref s)] h0 B0 [s] (fun v h B => ∃ t2, v = none ∧ B0 = B ∧ h0.size ≤ t2 ∧ ¬ B t2 ∧ Exa Z h s "java/lang/StringBuilder" ∧ Fld Z h s "java/lang/AbstractStringBuilder" "value" "[B" (.ref t2) ∧ Fld Z h s "java/lang/AbstractStringBuilder" "coder" "B" (.int 1) ∧ Fld Z h s "java/lang/AbstractStringBuilder" "count" "I" (.int 0) ∧ Fld Z h s "java/lang/AbstractStringBuilder" "maybeLatin1" "Z" (.int 0) ∧ Ay Z h t2 .byte (List.replicate 32 (Value.int 0))) := by
  refine k_intro (Ls := #[.val (.ref s), .unset]) (by decide +kernel) rfl fun x T0 X0 => ?_
  have lt_s := k_ltE E_s
  have lt_t := A_t.lt
  refine g_aloadN X0 d37_0 rfl rfl ?_
  refine g_callVp X0 d37_1 (w92 hw) (w93 hw) (w95 hw) (w94 hw) (w55 hw) (w96 hw) (by decide) pd11 s [] [] 0 E_s (c_asbLat hw hs s Fs_coder) rfl rfl rfl (Nat.le_of_eq rfl) (by decide) (by decide) 0 0 rfl rfl (by decide) (by decide) fun T1 X1 => ?_
  refine g_ifT X1 d37_4 (by decide) ?_
  refine g_aloadN X1 d37_8 rfl rfl ?_
  refine g_getfield X1 d37_9 (w60 hw) Via.refl Fs_value fun T2 X2 => ?_
  refine g_arraylength X2 d37_12 A_t (16 : Int32) (by rw [h16]; rfl) ?_
  refine g_callS X2 d37_13 (w259 hw) (w236 hw) (w227 hw) (w237 hw) (by decide) pd17 [(.int (16 : Int32))] [] 0 (c_nbfE hw hs 16 (by decide)) rfl rfl rfl (Nat.le_of_eq rfl) (by decide) (by decide) 1 32 rfl rfl (by decide) (by decide) (fun _ q => nomatch q) fun v3 T3 h3 B3 X3 K3 M3 q3 => ?_
  obtain ⟨t2, rfl, rfl, fu, nu, Au, Eu⟩ := q3
  have z3 := K3.1
  show Go x (T3.setTop (mkF x.m 16 #[.val (.ref s), .unset] [(.ref t2)]))
  have lt_u := Au.lt
  refine g_astoreN X3 #[.val (.ref s), .val (.ref t2)] d37_16 rfl rfl ?_
  refine g_aloadN X3 d37_17 rfl rfl ?_
  have F4 := (Fs_value.keep K3 nin0)
  refine g_getfield X3 d37_18 (w60 hw) Via.refl F4 fun T5 X5 => ?_
  refine g_iconst X5 (0 : Int32) d37_21 (by decide) ?_
  refine g_aloadN X5 d37_22 rfl rfl ?_
  refine g_iconst X5 (0 : Int32) d37_23 (by decide) ?_
  refine g_aloadN X5 d37_24 rfl rfl ?_
  have F6 := (Fs_count.keep K3 nin0)
  refine g_getfield X5 d37_25 (w85 hw) Via.refl F6 fun T7 X7 => ?_
  refine g_callSp0 X7 d37_28 (w260 hw) (w261 hw) (w262 hw) (w263 hw) (by decide) pd26 [(.ref t), (.int (0 : Int32)), (.ref t2), (.int (0 : Int32)), (.int (0 : Int32))] [] 0 (c_slInfl0 hw hs t t2 _ Au (by simp)) rfl rfl rfl (Nat.le_of_eq rfl) (by decide) (by decide) 1 32 rfl rfl (by decide) (by decide) fun T8 X8 => ?_
  refine g_aloadN X8 d37_31 rfl rfl ?_
  refine g_aloadN X8 d37_32 rfl rfl ?_
  have E_9 := (E_s.keep K3)
  refine g_putfield X8 d37_33 (w60 hw) Via.refl F4 E_9 (Or.inl (w61 hw)) (w46 hw) (ty := (.array .byte)) (v' := (.ref t2)) (by decide) rfl rfl nb_s zl_s (Or.inl (List.mem_of_getElem? (i := 0) rfl)) fun T10 h10 X10 W10 => ?_
  have z10 := W10.size; have Fw10 := F4.same W10
  refine g_aloadN X10 d37_36 rfl rfl ?_
  refine g_iconst X10 (1 : Int32) d37_37 (by decide) ?_
  have F11 := ((Fs_coder.keep K3 nin0).other W10 (Or.inr (slot_ne (Or.inl (w63 hw)) (Or.inl (w61 hw)) (by decide) (t := .byte) (t' := (.array .byte)) (by decide) (by decide))))
  have E_12 := (E_9.wr W10)
  refine g_putfield X10 d37_38 (w62 hw) Via.refl F11 E_12 (Or.inl (w63 hw)) (w46 hw) (ty := .byte) (v' := (.int (1 : Int32))) (by decide) rfl rfl nb_s zl_s (Or.inl (List.mem_of_getElem? (i := 0) rfl)) fun T13 h13 X13 W13 => ?_
  have z13 := W13.size; have Fw13 := F11.same W13
  have E_14 := (E_12.wr W13)
  have F15 := (Fw10.other W13 (Or.inr (slot_ne (Or.inl (w61 hw)) (Or.inl (w63 hw)) (by decide) (t := (.array .byte)) (t' := .byte) (by decide) (by decide))))
  have F16 := ((F6.other W10 (Or.inr (slot_ne (Or.inl (w86 hw)) (Or.inl (w61 hw)) (by decide) (t := .int) (t' := (.array .byte)) (by decide) (by decide)))).other W13 (Or.inr (slot_ne (Or.inl (w86 hw)) (Or.inl (w63 hw)) (by decide) (t := .int) (t' := .byte) (by decide) (by decide))))
  have F17 := (((Fs_ml.keep K3 nin0).other W10 (Or.inr (slot_ne (Or.inl (w283 hw)) (Or.inl (w61 hw)) (by decide) (t := .boolean) (t' := (.array .byte)) (by decide) (by decide)))).other W13 (Or.inr (slot_ne (Or.inl (w283 hw)) (Or.inl (w63 hw)) (by decide) (t := .boolean) (t' := .byte) (by decide) (by decide))))
  have A18 := ((Au.keep (Keep.of_wr W10) (ninS (k_neN (by omega)) nin0)).keep (Keep.of_wr W13) (ninS (k_neN (by omega)) nin0))
  exact g_return X13 d37_41 (by decide) (by decide) ⟨t2, rfl, rfl, fu, nu, E_14, F15, Fw13, F16, F17, A18⟩
set_option maxRecDepth 65536 in
set_option maxHeartbeats 40000000 in
theorem c_inflIfU {nw : Bool} {l : Launch} {Z : State} {EL : List (String × Nat)} {a0 : Array Value} (hw : HW Z a0) (hs : Sts Z) {h0 : Heap} {B0 : BP} (s t a : Addr) (bs : List Int32) (vs : List Value) (E_s : Exa Z h0 s "java/lang/StringBuilder") (Fs_value : Fld Z h0 s "java/lang/AbstractStringBuilder" "value" "[B" (.ref t)) (Fs_coder : Fld Z h0 s "java/lang/AbstractStringBuilder" "coder" "B" (.int 0)) (Fs_count : Fld Z h0 s "java/lang/AbstractStringBuilder" "count" "I" (.int 0)) (Fs_ml : Fld Z h0 s "java/lang/AbstractStringBuilder" "maybeLatin1" "Z" (.int 0)) (A_t : Ay Z h0 t .byte vs) (h16 : vs.length = 16) (nb_s : ¬ B0 s) (zl_s : Z.heap.size ≤ s) (S : StrV Z h0 a 1 bs) :
    Con nw l Z EL (⟨"java/lang/AbstractStringBuilder", "inflateIfNeededFor", "(Ljava/lang/String;)V"⟩ : MethodName) jdk_68_method_71_code 2 none [] ({ frames := 6, cells := 1, slots := 32, locals := 89 } : Room) #[(.ref s), (.ref a)] h0 B0 [s] (fun v h B => ∃ t2, v = none ∧ B0 = B ∧ h0.size ≤ t2 ∧ ¬ B t2 ∧ Exa Z h s "java/lang/StringBuilder" ∧ Fld Z h s "java/lang/AbstractStringBuilder" "value" "[B" (.ref t2) ∧ Fld Z h s "java/lang/AbstractStringBuilder" "coder" "B" (.int 1) ∧ Fld Z h s "java/lang/AbstractStringBuilder" "count" "I" (.int 0) ∧ Fld Z h s "java/lang/AbstractStringBuilder" "maybeLatin1" "Z" (.int 0) ∧ Ay Z h t2 .byte (List.replicate 32 (Value.int 0))) := by
  refine k_intro (Ls := #[.val (.ref s), .val (.ref a)]) (by decide +kernel) rfl fun x T0 X0 => ?_
  obtain ⟨cv, sCS, ncv⟩ := hs.1
  have lt_s := k_ltE E_s
  have lt_t := A_t.lt
  have E_a := S.exa'
  refine g_getstatic X0 d3_0 (w58 hw) Via.refl sCS fun T1 X1 => ?_
  refine g_ifF X1 d3_3 (XT.i0_eq_f ncv) ?_
  refine g_aloadN X1 d3_6 rfl rfl ?_
  refine g_getfield X1 d3_7 (w62 hw) Via.refl Fs_coder fun T2 X2 => ?_
  refine g_aloadN X2 d3_10 rfl rfl ?_
  refine g_callVp X2 d3_11 (w126 hw) (w110 hw) (w112 hw) (w111 hw) (w59 hw) (w113 hw) (by decide) pd0 a [] [(.int (0 : Int32))] 1 E_a (c_coder hw hs a 1 bs (Or.inr rfl) S) rfl rfl rfl (Nat.le_of_eq rfl) (by decide) (by decide) 0 0 rfl rfl (by decide) (by decide) fun T3 X3 => ?_
  refine g_icmpF X3 d3_14 (by decide) ?_
  refine g_aloadN X3 d3_17 rfl rfl ?_
  refine g_callP X3 d3_18 (w254 hw) (w257 hw) (w255 hw) (w55 hw) (w258 hw) (by decide) pd28 s [] [] 0 E_s (c_inflate0 hw hs s t vs E_s Fs_value Fs_coder Fs_count Fs_ml A_t h16 nb_s zl_s) rfl rfl rfl (Nat.le_of_eq rfl) (by decide) (by decide) 1 32 rfl rfl (by decide) (by decide) (k_ws1 ⟨nb_s, zl_s, (Or.inl (List.mem_of_getElem? (i := 0) rfl))⟩) fun v4 T4 h4 B4 X4 K4 M4 q4 => ?_
  obtain ⟨t2, rfl, rfl, R⟩ := q4
  have z4 := K4.1
  show Go x (T4.setTop (mkF x.m 21 #[.val (.ref s), .val (.ref a)] []))
  exact g_return X4 d3_21 (by decide) (by decide) ⟨t2, rfl, rfl, R⟩
set_option maxRecDepth 65536 in
set_option maxHeartbeats 40000000 in
theorem c_getBIBU {nw : Bool} {l : Launch} {Z : State} {EL : List (String × Nat)} {a0 : Array Value} (hw : HW Z a0) (hs : Sts Z) {h0 : Heap} {B0 : BP} (a ta t : Addr) (bs : List Int32) (vs : List Value) (E_a : Exa Z h0 a "java/lang/String") (Fa_c : Fld Z h0 a "java/lang/String" "coder" "B" (.int 1)) (Fa_v : Fld Z h0 a "java/lang/String" "value" "[B" (.ref ta)) (A_ta : Ay Z h0 ta .byte (bs.map Value.int)) (A : Ay Z h0 t .byte vs) (hm : bs.length ≤ vs.length) (nt : @Ne Nat ta t) (nb_t : ¬ B0 t) (zl_t : Z.heap.size ≤ t)  :
    Con nw l Z EL (⟨"java/lang/String", "getBytes", "([BIB)V"⟩ : MethodName) jdk_42_method_147_code 4 none [] ({ frames := 1, cells := 0, slots := 0, locals := 18 } : Room) #[(.ref a), (.ref t), (.int (0 : Int32)), (.int (1 : Int32))] h0 B0 [t] (fun v h B => v = none ∧ B0 = B ∧ Ay Z h t .byte (bs.map Value.int ++ vs.drop bs.length)) := by
  refine k_intro (Ls := #[.val (.ref a), .val (.ref t), .val (.int (0 : Int32)), .val (.int (1 : Int32))]) (by decide +kernel) rfl fun x T0 X0 => ?_
  have lt_a := k_ltE E_a; have lt_ta := A_ta.lt
  refine g_aloadN X0 d4_0 rfl rfl ?_
  refine g_callVp X0 d4_1 (w109 hw) (w110 hw) (w112 hw) (w111 hw) (w59 hw) (w113 hw) (by decide) pd0 a [] [] 0 E_a (c_coder hw hs a 1 bs (Or.inr rfl) (⟨ta, E_a, Fa_c, Fa_v, A_ta⟩ : StrV Z h0 a 1 bs)) rfl rfl rfl (Nat.le_of_eq rfl) (by decide) (by decide) 0 0 rfl rfl (by decide) (by decide) fun T1 X1 => ?_
  refine g_iloadN X1 d4_4 rfl ?_
  refine g_icmpF X1 d4_5 (by decide) ?_
  refine g_aloadN X1 d4_8 rfl rfl ?_
  refine g_getfield X1 d4_9 (w108 hw) Via.refl Fa_v fun T2 X2 => ?_
  refine g_iconst X2 (0 : Int32) d4_12 (by decide) ?_
  refine g_aloadN X2 d4_13 rfl rfl ?_
  refine g_iloadN X2 d4_14 rfl ?_
  refine g_iloadN X2 d4_15 rfl ?_
  refine g_ishl X2 (0 : Int32) d4_16 (by decide) ?_
  refine g_aloadN X2 d4_17 rfl rfl ?_
  refine g_getfield X2 d4_18 (w108 hw) Via.refl Fa_v fun T3 X3 => ?_
  refine g_arraylength X3 d4_21 A_ta (Int32.ofNat bs.length) (by simp) ?_
  refine g_arraycopy X3 d4_22 rfl (w132 hw) (w135 hw) (w133 hw) (w134 hw) A_ta A rfl 0 0 bs.length (by simp) (by omega) (by decide) (by decide) rfl rfl nb_t zl_t (Or.inl (List.mem_of_getElem? (i := 0) rfl)) 0 (Nat.le_of_eq rfl) (by decide) (by decide) fun T4 h4 X4 K4 A4 => ?_
  have z4 := K4.1
  refine g_goto X4 d4_25 ?_
  exact g_return X4 d4_43 (by decide) (by decide) ⟨rfl, rfl, by simpa [k_takeall] using A4⟩
set_option maxRecDepth 65536 in
set_option maxHeartbeats 40000000 in
theorem c_putAtU {nw : Bool} {l : Launch} {Z : State} {EL : List (String × Nat)} {a0 : Array Value} (hw : HW Z a0) (hs : Sts Z) {h0 : Heap} {B0 : BP} (s t a ta : Addr) (bs : List Int32) (vs : List Value) (E_s : Exa Z h0 s "java/lang/StringBuilder") (Fs_value : Fld Z h0 s "java/lang/AbstractStringBuilder" "value" "[B" (.ref t)) (Fs_coder : Fld Z h0 s "java/lang/AbstractStringBuilder" "coder" "B" (.int 0)) (Fs_count : Fld Z h0 s "java/lang/AbstractStringBuilder" "count" "I" (.int 0)) (Fs_ml : Fld Z h0 s "java/lang/AbstractStringBuilder" "maybeLatin1" "Z" (.int 0)) (A_t : Ay Z h0 t .byte vs) (h16 : vs.length = 16) (nb_s : ¬ B0 s) (zl_s : Z.heap.size ≤ s) (E_a : Exa Z h0 a "java/lang/String") (Fa_c : Fld Z h0 a "java/lang/String" "coder" "B" (.int 1)) (Fa_v : Fld Z h0 a "java/lang/String" "value" "[B" (.ref ta)) (A_ta : Ay Z h0 ta .byte (bs.map Value.int)) (hb : bs.length ≤ 32) :
    Con nw l Z EL (⟨"java/lang/AbstractStringBuilder", "putStringAt", "(ILjava/lang/String;)V"⟩ : MethodName) jdk_68_method_73_code 3 none [] ({ frames := 7, cells := 1, slots := 32, locals := 102 } : Room) #[(.ref s), (.int (0 : Int32)), (.ref a)] h0 B0 [s] (fun v h B => ∃ t2, v = none ∧ B0 = B ∧ h0.size ≤ t2 ∧ ¬ B t2 ∧ Exa Z h s "java/lang/StringBuilder" ∧ Fld Z h s "java/lang/AbstractStringBuilder" "value" "[B" (.ref t2) ∧ Fld Z h s "java/lang/AbstractStringBuilder" "coder" "B" (.int 1) ∧ Fld Z h s "java/lang/AbstractStringBuilder" "count" "I" (.int 0) ∧ Fld Z h s "java/lang/AbstractStringBuilder" "maybeLatin1" "Z" (.int 0) ∧ Ay Z h t2 .byte (bs.map Value.int ++ (List.replicate 32 (Value.int 0)).drop bs.length)) := by
  refine k_intro (Ls := #[.val (.ref s), .val (.int (0 : Int32)), .val (.ref a)]) (by decide +kernel) rfl fun x T0 X0 => ?_
  have lt_s := k_ltE E_s
  have lt_t := A_t.lt
  have lt_a := k_ltE E_a; have lt_ta := A_ta.lt
  have nas : a ≠ s := ne_exa E_a E_s (by decide)
  have nst : s ≠ ta := Ay.ne E_s (w46 hw) A_ta
  refine g_aloadN X0 d5_0 rfl rfl ?_
  refine g_aloadN X0 d5_1 rfl rfl ?_
  refine g_callP X0 d5_2 (w121 hw) (w124 hw) (w122 hw) (w55 hw) (w125 hw) (by decide) pd1 s [(.ref a)] [] 0 E_s (c_inflIfU hw hs s t a bs vs E_s Fs_value Fs_coder Fs_count Fs_ml A_t h16 nb_s zl_s (⟨ta, E_a, Fa_c, Fa_v, A_ta⟩ : StrV Z h0 a 1 bs)) rfl rfl rfl (Nat.le_of_eq rfl) (by decide) (by decide) 1 32 rfl rfl (by decide) (by decide) (k_ws1 ⟨nb_s, zl_s, (Or.inl (List.mem_of_getElem? (i := 0) rfl))⟩) fun v1 T1 h1 B1 X1 K1 M1 q1 => ?_
  obtain ⟨t2, rfl, rfl, fu, nu, Es', Fv', Fc', Fn', Fm', Au⟩ := q1
  have z1 := K1.1
  show Go x (T1.setTop (mkF x.m 5 #[.val (.ref s), .val (.int (0 : Int32)), .val (.ref a)] []))
  have lt_u := Au.lt; have zlu := Nat.le_trans X0.szZ fu
  refine g_aloadN X1 d5_5 rfl rfl ?_
  refine g_aloadN X1 d5_6 rfl rfl ?_
  refine g_getfield X1 d5_7 (w60 hw) Via.refl Fv' fun T2 X2 => ?_
  refine g_iloadN X2 d5_10 rfl ?_
  refine g_aloadN X2 d5_11 rfl rfl ?_
  refine g_getfield X2 d5_12 (w62 hw) Via.refl Fc' fun T3 X3 => ?_
  have E_4 := (E_a.keep K1)
  have F5 := (Fa_c.keep K1 (ninS nas nin0))
  have F6 := (Fa_v.keep K1 (ninS nas nin0))
  have A7 := (A_ta.keep K1 (ninS (Ne.symm nst) nin0))
  refine g_callV X3 d5_15 (w127 hw) (w128 hw) (w130 hw) (w129 hw) (w59 hw) (w131 hw) (by decide) pd2 a [(.ref t2), (.int (0 : Int32)), (.int (1 : Int32))] [] 0 E_4 (c_getBIBU hw hs a ta t2 bs _ E_4 F5 F6 A7 Au (by simpa using hb) (k_neN (by omega)) nu zlu) rfl rfl rfl (Nat.le_of_eq rfl) (by decide) (by decide) 1 32 rfl rfl (by decide) (by decide) (k_ws1 ⟨nu, zlu, (Or.inr fu)⟩) fun v8 T8 h8 B8 X8 K8 M8 q8 => ?_
  obtain ⟨rfl, rfl, R⟩ := q8
  have z8 := K8.1
  show Go x (T8.setTop (mkF x.m 18 #[.val (.ref s), .val (.int (0 : Int32)), .val (.ref a)] []))
  have E_9 := (Es'.keep K8)
  have F10 := (Fv'.keep K8 (ninS (k_neN (by omega)) nin0))
  have F11 := (Fc'.keep K8 (ninS (k_neN (by omega)) nin0))
  have F12 := (Fn'.keep K8 (ninS (k_neN (by omega)) nin0))
  have F13 := (Fm'.keep K8 (ninS (k_neN (by omega)) nin0))
  exact g_return X8 d5_18 (by decide) (by decide) ⟨t2, rfl, rfl, fu, nu, E_9, F10, F11, F12, F13, R⟩
set_option maxRecDepth 65536 in
set_option maxHeartbeats 40000000 in
theorem c_lengthU {nw : Bool} {l : Launch} {Z : State} {EL : List (String × Nat)} {a0 : Array Value} (hw : HW Z a0) (hs : Sts Z) {h0 : Heap} {B0 : BP} (a : Addr) (cs : List Int32) (S : StrV Z h0 a 1 (u16 cs)) :
    Con nw l Z EL (⟨"java/lang/String", "length", "()I"⟩ : MethodName) jdk_42_method_54_code 1 (some .int) [] ({ frames := 1, cells := 0, slots := 0, locals := 13 } : Room) #[(.ref a)] h0 B0 [] (PQ (some (.int (Int32.ofNat cs.length))) h0 B0) := by
  refine k_intro (Ls := #[.val (.ref a)]) (by decide +kernel) rfl fun x T0 X0 => ?_
  have hlu := S.len
  rw [u16_len] at hlu
  obtain ⟨t_a, E_a, Fc_a, Fv_a, A_a⟩ := S.op
  refine g_aloadN X0 d1_0 rfl rfl ?_
  refine g_getfield X0 d1_1 (w108 hw) Via.refl Fv_a fun T1 X1 => ?_
  refine g_arraylength X1 d1_4 A_a (Int32.ofNat (2 * cs.length)) (by simp [u16_len]) ?_
  refine g_aloadN X1 d1_5 rfl rfl ?_
  refine g_callVp X1 d1_6 (w109 hw) (w110 hw) (w112 hw) (w111 hw) (w59 hw) (w113 hw) (by decide) pd0 a [] [(.int (Int32.ofNat (2 * cs.length)))] 1 E_a (c_coder hw hs a 1 _ (Or.inr rfl) S) rfl rfl rfl (Nat.le_of_eq rfl) (by decide) (by decide) 0 0 rfl rfl (by decide) (by decide) fun T2 X2 => ?_
  refine g_ishr X2 (Int32.ofNat cs.length) d1_9 (k_shr1 hlu) ?_
  exact g_ireturnI X2 d1_10 (by decide) (by decide) ⟨rfl, rfl, rfl⟩
set_option maxRecDepth 65536 in
set_option maxHeartbeats 40000000 in
theorem c_asbAppU {nw : Bool} {l : Launch} {Z : State} {EL : List (String × Nat)} {a0 : Array Value} (hw : HW Z a0) (hs : Sts Z) {h0 : Heap} {B0 : BP} (s t a ta : Addr) (cs : List Int32) (S : SBS Z h0 s t [] (List.replicate 16 0)) (Fs_ml : Fld Z h0 s "java/lang/AbstractStringBuilder" "maybeLatin1" "Z" (.int 0)) (E_a : Exa Z h0 a "java/lang/String") (Fa_c : Fld Z h0 a "java/lang/String" "coder" "B" (.int 1)) (Fa_v : Fld Z h0 a "java/lang/String" "value" "[B" (.ref ta)) (A_ta : Ay Z h0 ta .byte ((u16 cs).map Value.int)) (hcs : cs.length ≤ 3) (nb_s : ¬ B0 s) (zl_s : Z.heap.size ≤ s)  :
    Con nw l Z EL (⟨"java/lang/AbstractStringBuilder", "append", "(Ljava/lang/String;)Ljava/lang/AbstractStringBuilder;"⟩ : MethodName) jdk_68_method_22_code 3 (some (.object "java/lang/AbstractStringBuilder")) [] ({ frames := 8, cells := 1, slots := 32, locals := 116 } : Room) #[(.ref s), (.ref a)] h0 B0 [s] (fun v h B => ∃ t2, v = some (.ref s) ∧ B0 = B ∧ h0.size ≤ t2 ∧ ¬ B t2 ∧ SBU Z h s t2 cs) := by
  refine k_intro (Ls := #[.val (.ref s), .val (.ref a), .unset]) (by decide +kernel) rfl fun x T0 X0 => ?_
  obtain ⟨E_s, Fs_value, Fs_coder, Fs_count, A_t⟩ := S.op
  have lt_s := k_ltE E_s; have lt_t := A_t.lt
  have lt_s := k_ltE E_s
  have nst : s ≠ t := Ay.ne E_s (w46 hw) A_t
  have Fs_cnt : Fld Z h0 s "java/lang/AbstractStringBuilder" "count" "I" (.int 0) := Fs_count
  have lt_a := k_ltE E_a; have lt_ta := A_ta.lt
  have hl : ((([] : List Int32) ++ List.replicate 16 0).map Value.int).length = 16 := by simp
  refine g_aloadN X0 d6_0 rfl rfl ?_
  refine g_ifnonnullT X0 d6_1 ?_
  refine g_aloadN X0 d6_9 rfl rfl ?_
  refine g_callVp X0 d6_10 (w103 hw) (w104 hw) (w106 hw) (w105 hw) (w59 hw) (w107 hw) (by decide) pd3 a [] [] 0 E_a (c_lengthU hw hs a cs (⟨ta, E_a, Fa_c, Fa_v, A_ta⟩ : StrV Z h0 a 1 (u16 cs))) rfl rfl rfl (Nat.le_of_eq rfl) (by decide) (by decide) 0 0 rfl rfl (by decide) (by decide) fun T1 X1 => ?_
  refine g_istoreN X1 #[.val (.ref s), .val (.ref a), .val (.int (Int32.ofNat cs.length))] d6_13 rfl ?_
  refine g_aloadN X1 d6_14 rfl rfl ?_
  refine g_aloadN X1 d6_15 rfl rfl ?_
  refine g_getfield X1 d6_16 (w85 hw) Via.refl Fs_cnt fun T2 X2 => ?_
  refine g_iloadN X2 d6_19 rfl ?_
  refine g_iadd X2 (Int32.ofNat cs.length) d6_20 (by simp) ?_
  refine g_callP X2 d6_21 (w87 hw) (w90 hw) (w88 hw) (w55 hw) (w91 hw) (by decide) pd4 s [(.int (Int32.ofNat cs.length))] [] 0 E_s (c_ensure hw hs s t cs.length _ Fs_value Fs_coder A_t hl (by omega)) rfl rfl rfl (Nat.le_of_eq rfl) (by decide) (by decide) 0 0 rfl rfl (by decide) (by decide) (fun _ q => nomatch q) fun v3 T3 h3 B3 X3 K3 M3 q3 => ?_
  obtain ⟨ea3, eb3, ec3⟩ := q3; have eb3 := eb3.symm; have ec3 := ec3.symm; subst ea3 eb3 ec3
  show Go x (T3.setTop (mkF x.m 24 #[.val (.ref s), .val (.ref a), .val (.int (Int32.ofNat cs.length))] []))
  refine g_aloadN X3 d6_24 rfl rfl ?_
  refine g_aloadN X3 d6_25 rfl rfl ?_
  refine g_getfield X3 d6_26 (w85 hw) Via.refl Fs_cnt fun T4 X4 => ?_
  refine g_aloadN X4 d6_29 rfl rfl ?_
  refine g_callP X4 d6_30 (w116 hw) (w119 hw) (w117 hw) (w55 hw) (w120 hw) (by decide) pd5 s [(.int (0 : Int32)), (.ref a)] [] 0 E_s (c_putAtU hw hs s t a ta (u16 cs) _ E_s Fs_value Fs_coder Fs_cnt Fs_ml A_t hl nb_s zl_s E_a Fa_c Fa_v A_ta (by rw [u16_len]; omega)) rfl rfl rfl (Nat.le_of_eq rfl) (by decide) (by decide) 1 32 rfl rfl (by decide) (by decide) (k_ws1 ⟨nb_s, zl_s, (Or.inl (List.mem_of_getElem? (i := 0) rfl))⟩) fun v5 T5 h5 B5 X5 K5 M5 q5 => ?_
  obtain ⟨t2, rfl, rfl, fu, nu, Es', Fv', Fc', Fn', Fm', Au⟩ := q5
  have z5 := K5.1
  show Go x (T5.setTop (mkF x.m 33 #[.val (.ref s), .val (.ref a), .val (.int (Int32.ofNat cs.length))] []))
  have lt_u := Au.lt
  refine g_aloadN X5 d6_33 rfl rfl ?_
  refine g_dup X5 d6_34 rfl ?_
  refine g_getfield X5 d6_35 (w85 hw) Via.refl Fn' fun T6 X6 => ?_
  refine g_iloadN X6 d6_38 rfl ?_
  refine g_iadd X6 (Int32.ofNat cs.length) d6_39 (by simp) ?_
  refine g_putfield X6 d6_40 (w85 hw) Via.refl Fn' Es' (Or.inl (w86 hw)) (w46 hw) (ty := .int) (v' := (.int (Int32.ofNat cs.length))) (by decide) rfl rfl nb_s zl_s (Or.inl (List.mem_of_getElem? (i := 0) rfl)) fun T7 h7 X7 W7 => ?_
  have z7 := W7.size; have Fw7 := Fn'.same W7
  refine g_aloadN X7 d6_43 rfl rfl ?_
  have E_8 := (Es'.wr W7)
  have F9 := (Fv'.other W7 (Or.inr (slot_ne (Or.inl (w61 hw)) (Or.inl (w86 hw)) (by decide) (t := (.array .byte)) (t' := .int) (by decide) (by decide))))
  have F10 := (Fc'.other W7 (Or.inr (slot_ne (Or.inl (w63 hw)) (Or.inl (w86 hw)) (by decide) (t := .byte) (t' := .int) (by decide) (by decide))))
  have F11 := (Fm'.other W7 (Or.inr (slot_ne (Or.inl (w283 hw)) (Or.inl (w86 hw)) (by decide) (t := .boolean) (t' := .int) (by decide) (by decide))))
  have A12 := (Au.keep (Keep.of_wr W7) (ninS (k_neN (by omega)) nin0))
  exact g_areturn X7 d6_44 rfl rfl rfl (by decide) (by decide) ⟨t2, rfl, rfl, fu, nu, E_8, F9, F10, Fw7, F11, k_r32 A12⟩
set_option maxRecDepth 65536 in
set_option maxHeartbeats 40000000 in
theorem c_sbAppU {nw : Bool} {l : Launch} {Z : State} {EL : List (String × Nat)} {a0 : Array Value} (hw : HW Z a0) (hs : Sts Z) {h0 : Heap} {B0 : BP} (s t a ta : Addr) (cs : List Int32) (S : SBS Z h0 s t [] (List.replicate 16 0)) (Fs_ml : Fld Z h0 s "java/lang/AbstractStringBuilder" "maybeLatin1" "Z" (.int 0)) (E_a : Exa Z h0 a "java/lang/String") (Fa_c : Fld Z h0 a "java/lang/String" "coder" "B" (.int 1)) (Fa_v : Fld Z h0 a "java/lang/String" "value" "[B" (.ref ta)) (A_ta : Ay Z h0 ta .byte ((u16 cs).map Value.int)) (hcs : cs.length ≤ 3) (nb_s : ¬ B0 s) (zl_s : Z.heap.size ≤ s)  :
    Con nw l Z EL (⟨"java/lang/StringBuilder", "append", "(Ljava/lang/String;)Ljava/lang/StringBuilder;"⟩ : MethodName) jdk_67_method_7_code 2 (some (.object "java/lang/StringBuilder")) [] ({ frames := 9, cells := 1, slots := 32, locals := 130 } : Room) #[(.ref s), (.ref a)] h0 B0 [s] (fun v h B => ∃ t2, v = some (.ref s) ∧ B0 = B ∧ h0.size ≤ t2 ∧ ¬ B t2 ∧ SBU Z h s t2 cs) := by
  refine k_intro (Ls := #[.val (.ref s), .val (.ref a)]) (by decide +kernel) rfl fun x T0 X0 => ?_
  have E_s := S.op.1
  refine g_aloadN X0 d7_0 rfl rfl ?_
  refine g_aloadN X0 d7_1 rfl rfl ?_
  refine g_callU X0 d7_2 (w75 hw) (w77 hw) (w83 hw) rfl (by decide) (w76 hw) (w55 hw) (w79 hw) (by decide) pd6 s [(.ref a)] [] 0 E_s (c_asbAppU hw hs s t a ta cs S Fs_ml E_a Fa_c Fa_v A_ta hcs nb_s zl_s) rfl rfl rfl (Nat.le_of_eq rfl) (by decide) (by decide) 1 32 rfl rfl (by decide) (by decide) (k_ws1 ⟨nb_s, zl_s, (Or.inl (List.mem_of_getElem? (i := 0) rfl))⟩) fun v1 T1 h1 B1 X1 K1 M1 q1 => ?_
  obtain ⟨t2, rfl, rfl, R⟩ := q1
  have z1 := K1.1
  show Go x (T1.setTop (mkF x.m 5 #[.val (.ref s), .val (.ref a)] [(.ref s)]))
  refine g_pop X1 d7_5 rfl ?_
  refine g_aloadN X1 d7_6 rfl rfl ?_
  exact g_areturn X1 d7_7 rfl rfl rfl (by decide) (by decide) ⟨t2, rfl, rfl, R⟩
set_option maxRecDepth 65536 in
set_option maxHeartbeats 40000000 in
theorem c_ensureU {nw : Bool} {l : Launch} {Z : State} {EL : List (String × Nat)} {a0 : Array Value} (hw : HW Z a0) (hs : Sts Z) {h0 : Heap} {B0 : BP} (s t : Addr) (m : Nat) (vs : List Value) (Fv : Fld Z h0 s "java/lang/AbstractStringBuilder" "value" "[B" (.ref t)) (Fc : Fld Z h0 s "java/lang/AbstractStringBuilder" "coder" "B" (.int 1)) (A : Ay Z h0 t .byte vs) (hm2 : vs.length = 2 * 16) (hm : m ≤ 16) :
    Con nw l Z EL (⟨"java/lang/AbstractStringBuilder", "ensureCapacityInternal", "(I)V"⟩ : MethodName) jdk_68_method_9_code 3 none [] ({ frames := 0, cells := 0, slots := 0, locals := 0 } : Room) #[(.ref s), (.int (Int32.ofNat m))] h0 B0 [] (PQ none h0 B0) := by
  refine k_intro (Ls := #[.val (.ref s), .val (.int (Int32.ofNat m)), .unset]) (by decide +kernel) rfl fun x T0 X0 => ?_
  refine g_aloadN X0 d2_0 rfl rfl ?_
  refine g_getfield X0 d2_1 (w60 hw) Via.refl Fv fun T1 X1 => ?_
  refine g_arraylength X1 d2_4 A (32 : Int32) (by rw [hm2]; rfl) ?_
  refine g_aloadN X1 d2_5 rfl rfl ?_
  refine g_getfield X1 d2_6 (w62 hw) Via.refl Fc fun T2 X2 => ?_
  refine g_ishr X2 (16 : Int32) d2_9 (by decide) ?_
  refine g_istoreN X2 #[.val (.ref s), .val (.int (Int32.ofNat m)), .val (.int (16 : Int32))] d2_10 rfl ?_
  refine g_iloadN X2 d2_11 rfl ?_
  refine g_iloadN X2 d2_12 rfl ?_
  refine g_isub X2 ((Int32.ofNat m) - (16 : Int32)) d2_13 rfl ?_
  refine g_ifT X2 d2_14 (XT.i0_le_t (k_le16 hm)) ?_
  exact g_return X2 d2_38 (by decide) (by decide) ⟨rfl, rfl, rfl⟩
set_option maxRecDepth 65536 in
set_option maxHeartbeats 40000000 in
theorem c_inflateU {nw : Bool} {l : Launch} {Z : State} {EL : List (String × Nat)} {a0 : Array Value} (hw : HW Z a0) (hs : Sts Z) {h0 : Heap} {B0 : BP} (s : Addr) (E_s : Exa Z h0 s "java/lang/StringBuilder") (Fc : Fld Z h0 s "java/lang/AbstractStringBuilder" "coder" "B" (.int 1)) :
    Con nw l Z EL (⟨"java/lang/AbstractStringBuilder", "inflate", "()V"⟩ : MethodName) jdk_68_method_11_code 2 none [] ({ frames := 1, cells := 0, slots := 0, locals := 12 } : Room) #[(.ref s)] h0 B0 [] (PQ none h0 B0) := by
  refine k_intro (Ls := #[.val (.ref s), .unset]) (by decide +kernel) rfl fun x T0 X0 => ?_
  refine g_aloadN X0 d37_0 rfl rfl ?_
  refine g_callVp X0 d37_1 (w92 hw) (w93 hw) (w95 hw) (w94 hw) (w55 hw) (w96 hw) (by decide) pd11 s [] [] 0 E_s (c_asbLatU hw hs s Fc) rfl rfl rfl (Nat.le_of_eq rfl) (by decide) (by decide) 0 0 rfl rfl (by decide) (by decide) fun T1 X1 => ?_
  refine g_ifF X1 d37_4 (by decide) ?_
  exact g_return X1 d37_7 (by decide) (by decide) ⟨rfl, rfl, rfl⟩
set_option maxRecDepth 65536 in
set_option maxHeartbeats 40000000 in
theorem c_inflIfN {nw : Bool} {l : Launch} {Z : State} {EL : List (String × Nat)} {a0 : Array Value} (hw : HW Z a0) (hs : Sts Z) {h0 : Heap} {B0 : BP} (s a : Addr) (cs : List Int32) (E_s : Exa Z h0 s "java/lang/StringBuilder") (Fc : Fld Z h0 s "java/lang/AbstractStringBuilder" "coder" "B" (.int 1)) (S : StrV Z h0 a 0 cs) :
    Con nw l Z EL (⟨"java/lang/AbstractStringBuilder", "inflateIfNeededFor", "(Ljava/lang/String;)V"⟩ : MethodName) jdk_68_method_71_code 2 none [] ({ frames := 2, cells := 0, slots := 0, locals := 25 } : Room) #[(.ref s), (.ref a)] h0 B0 [] (PQ none h0 B0) := by
  refine k_intro (Ls := #[.val (.ref s), .val (.ref a)]) (by decide +kernel) rfl fun x T0 X0 => ?_
  obtain ⟨cv, sCS, ncv⟩ := hs.1
  have E_a := S.exa'
  refine g_getstatic X0 d3_0 (w58 hw) Via.refl sCS fun T1 X1 => ?_
  refine g_ifF X1 d3_3 (XT.i0_eq_f ncv) ?_
  refine g_aloadN X1 d3_6 rfl rfl ?_
  refine g_getfield X1 d3_7 (w62 hw) Via.refl Fc fun T2 X2 => ?_
  refine g_aloadN X2 d3_10 rfl rfl ?_
  refine g_callVp X2 d3_11 (w126 hw) (w110 hw) (w112 hw) (w111 hw) (w59 hw) (w113 hw) (by decide) pd0 a [] [(.int (1 : Int32))] 1 E_a (c_coder hw hs a 0 cs (Or.inl rfl) S) rfl rfl rfl (Nat.le_of_eq rfl) (by decide) (by decide) 0 0 rfl rfl (by decide) (by decide) fun T3 X3 => ?_
  refine g_icmpF X3 d3_14 (by decide) ?_
  refine g_aloadN X3 d3_17 rfl rfl ?_
  refine g_callP X3 d3_18 (w254 hw) (w257 hw) (w255 hw) (w55 hw) (w258 hw) (by decide) pd28 s [] [] 0 E_s (c_inflateU hw hs s E_s Fc) rfl rfl rfl (Nat.le_of_eq rfl) (by decide) (by decide) 0 0 rfl rfl (by decide) (by decide) (fun _ q => nomatch q) fun v4 T4 h4 B4 X4 K4 M4 q4 => ?_
  obtain ⟨ea4, eb4, ec4⟩ := q4; have eb4 := eb4.symm; have ec4 := ec4.symm; subst ea4 eb4 ec4
  show Go x (T4.setTop (mkF x.m 21 #[.val (.ref s), .val (.ref a)] []))
  exact g_return X4 d3_21 (by decide) (by decide) ⟨rfl, rfl, rfl⟩
set_option maxRecDepth 65536 in
set_option maxHeartbeats 40000000 in
theorem c_getBIBN {nw : Bool} {l : Launch} {Z : State} {EL : List (String × Nat)} {a0 : Array Value} (hw : HW Z a0) (hs : Sts Z) {h0 : Heap} {B0 : BP} (a ta t : Addr) (m : Nat) (vs : List Value) (E_a : Exa Z h0 a "java/lang/String") (Fa_c : Fld Z h0 a "java/lang/String" "coder" "B" (.int 0)) (Fa_v : Fld Z h0 a "java/lang/String" "value" "[B" (.ref ta)) (A_ta : Ay Z h0 ta .byte [.int 10]) (A : Ay Z h0 t .byte vs) (hm2 : vs.length = 2 * 16) (hlt : m + 1 ≤ 16) (nt : @Ne Nat ta t) (nb_t : ¬ B0 t) (zl_t : Z.heap.size ≤ t)  :
    Con nw l Z EL (⟨"java/lang/String", "getBytes", "([BIB)V"⟩ : MethodName) jdk_42_method_147_code 4 none [] ({ frames := 5, cells := 0, slots := 0, locals := 76 } : Room) #[(.ref a), (.ref t), (.int (Int32.ofNat m)), (.int (1 : Int32))] h0 B0 [t] (fun v h B => v = none ∧ B0 = B ∧ Ay Z h t .byte ((vs.set (2 * m) (.int (lo8 10))).set (2 * m + 1) (.int (hi8 10)))) := by
  refine k_intro (Ls := #[.val (.ref a), .val (.ref t), .val (.int (Int32.ofNat m)), .val (.int (1 : Int32))]) (by decide +kernel) rfl fun x T0 X0 => ?_
  have lt_a := k_ltE E_a; have lt_ta := A_ta.lt
  refine g_aloadN X0 d4_0 rfl rfl ?_
  refine g_callVp X0 d4_1 (w109 hw) (w110 hw) (w112 hw) (w111 hw) (w59 hw) (w113 hw) (by decide) pd0 a [] [] 0 E_a (c_coder hw hs a 0 [10] (Or.inl rfl) (⟨ta, E_a, Fa_c, Fa_v, A_ta⟩ : StrV Z h0 a 0 [10])) rfl rfl rfl (Nat.le_of_eq rfl) (by decide) (by decide) 0 0 rfl rfl (by decide) (by decide) fun T1 X1 => ?_
  refine g_iloadN X1 d4_4 rfl ?_
  refine g_icmpT X1 d4_5 (by decide) ?_
  refine g_aloadN X1 d4_28 rfl rfl ?_
  refine g_getfield X1 d4_29 (w108 hw) Via.refl Fa_v fun T2 X2 => ?_
  refine g_iconst X2 (0 : Int32) d4_32 (by decide) ?_
  refine g_aloadN X2 d4_33 rfl rfl ?_
  refine g_iloadN X2 d4_34 rfl ?_
  refine g_aloadN X2 d4_35 rfl rfl ?_
  refine g_getfield X2 d4_36 (w108 hw) Via.refl Fa_v fun T3 X3 => ?_
  refine g_arraylength X3 d4_39 A_ta (1 : Int32) rfl ?_
  refine g_callS X3 d4_40 (w281 hw) (w261 hw) (w262 hw) (w263 hw) (by decide) pd26 [(.ref ta), (.int (0 : Int32)), (.ref t), (.int (Int32.ofNat m)), (.int (1 : Int32))] [] 0 (c_slInfl1 hw hs ta t m vs A_ta A hm2 hlt nt nb_t zl_t) rfl rfl rfl (Nat.le_of_eq rfl) (by decide) (by decide) 0 0 rfl rfl (by decide) (by decide) (k_ws1 ⟨nb_t, zl_t, (Or.inl (List.mem_of_getElem? (i := 0) rfl))⟩) fun v4 T4 h4 B4 X4 K4 M4 q4 => ?_
  obtain ⟨rfl, rfl, R⟩ := q4
  have z4 := K4.1
  show Go x (T4.setTop (mkF x.m 43 #[.val (.ref a), .val (.ref t), .val (.int (Int32.ofNat m)), .val (.int (1 : Int32))] []))
  exact g_return X4 d4_43 (by decide) (by decide) ⟨rfl, rfl, R⟩
set_option maxRecDepth 65536 in
set_option maxHeartbeats 40000000 in
theorem c_putAtN {nw : Bool} {l : Launch} {Z : State} {EL : List (String × Nat)} {a0 : Array Value} (hw : HW Z a0) (hs : Sts Z) {h0 : Heap} {B0 : BP} (s t a ta : Addr) (m : Nat) (vs : List Value) (E_s : Exa Z h0 s "java/lang/StringBuilder") (Fs_value : Fld Z h0 s "java/lang/AbstractStringBuilder" "value" "[B" (.ref t)) (Fs_coder : Fld Z h0 s "java/lang/AbstractStringBuilder" "coder" "B" (.int 1)) (E_a : Exa Z h0 a "java/lang/String") (Fa_c : Fld Z h0 a "java/lang/String" "coder" "B" (.int 0)) (Fa_v : Fld Z h0 a "java/lang/String" "value" "[B" (.ref ta)) (A_ta : Ay Z h0 ta .byte [.int 10]) (A : Ay Z h0 t .byte vs) (hm2 : vs.length = 2 * 16) (hlt : m + 1 ≤ 16) (nt : @Ne Nat ta t) (nb_t : ¬ B0 t) (zl_t : Z.heap.size ≤ t)  :
    Con nw l Z EL (⟨"java/lang/AbstractStringBuilder", "putStringAt", "(ILjava/lang/String;)V"⟩ : MethodName) jdk_68_method_73_code 3 none [] ({ frames := 6, cells := 0, slots := 0, locals := 91 } : Room) #[(.ref s), (.int (Int32.ofNat m)), (.ref a)] h0 B0 [t] (fun v h B => v = none ∧ B0 = B ∧ Ay Z h t .byte ((vs.set (2 * m) (.int (lo8 10))).set (2 * m + 1) (.int (hi8 10)))) := by
  refine k_intro (Ls := #[.val (.ref s), .val (.int (Int32.ofNat m)), .val (.ref a)]) (by decide +kernel) rfl fun x T0 X0 => ?_
  have lt_a := k_ltE E_a; have lt_ta := A_ta.lt
  refine g_aloadN X0 d5_0 rfl rfl ?_
  refine g_aloadN X0 d5_1 rfl rfl ?_
  refine g_callP X0 d5_2 (w121 hw) (w124 hw) (w122 hw) (w55 hw) (w125 hw) (by decide) pd1 s [(.ref a)] [] 0 E_s (c_inflIfN hw hs s a [10] E_s Fs_coder (⟨ta, E_a, Fa_c, Fa_v, A_ta⟩ : StrV Z h0 a 0 [10])) rfl rfl rfl (Nat.le_of_eq rfl) (by decide) (by decide) 0 0 rfl rfl (by decide) (by decide) (fun _ q => nomatch q) fun v1 T1 h1 B1 X1 K1 M1 q1 => ?_
  obtain ⟨ea1, eb1, ec1⟩ := q1; have eb1 := eb1.symm; have ec1 := ec1.symm; subst ea1 eb1 ec1
  show Go x (T1.setTop (mkF x.m 5 #[.val (.ref s), .val (.int (Int32.ofNat m)), .val (.ref a)] []))
  refine g_aloadN X1 d5_5 rfl rfl ?_
  refine g_aloadN X1 d5_6 rfl rfl ?_
  refine g_getfield X1 d5_7 (w60 hw) Via.refl Fs_value fun T2 X2 => ?_
  refine g_iloadN X2 d5_10 rfl ?_
  refine g_aloadN X2 d5_11 rfl rfl ?_
  refine g_getfield X2 d5_12 (w62 hw) Via.refl Fs_coder fun T3 X3 => ?_
  refine g_callV X3 d5_15 (w127 hw) (w128 hw) (w130 hw) (w129 hw) (w59 hw) (w131 hw) (by decide) pd2 a [(.ref t), (.int (Int32.ofNat m)), (.int (1 : Int32))] [] 0 E_a (c_getBIBN hw hs a ta t m vs E_a Fa_c Fa_v A_ta A hm2 hlt nt nb_t zl_t) rfl rfl rfl (Nat.le_of_eq rfl) (by decide) (by decide) 0 0 rfl rfl (by decide) (by decide) (k_ws1 ⟨nb_t, zl_t, (Or.inl (List.mem_of_getElem? (i := 0) rfl))⟩) fun v4 T4 h4 B4 X4 K4 M4 q4 => ?_
  obtain ⟨rfl, rfl, R⟩ := q4
  have z4 := K4.1
  show Go x (T4.setTop (mkF x.m 18 #[.val (.ref s), .val (.int (Int32.ofNat m)), .val (.ref a)] []))
  exact g_return X4 d5_18 (by decide) (by decide) ⟨rfl, rfl, R⟩
set_option maxRecDepth 65536 in
set_option maxHeartbeats 40000000 in
theorem c_asbAppNl {nw : Bool} {l : Launch} {Z : State} {EL : List (String × Nat)} {a0 : Array Value} (hw : HW Z a0) (hs : Sts Z) {h0 : Heap} {B0 : BP} (s t a ta : Addr) (cs : List Int32) (S : SBU Z h0 s t cs) (E_a : Exa Z h0 a "java/lang/String") (Fa_c : Fld Z h0 a "java/lang/String" "coder" "B" (.int 0)) (Fa_v : Fld Z h0 a "java/lang/String" "value" "[B" (.ref ta)) (A_ta : Ay Z h0 ta .byte [.int 10]) (hcs : cs.length ≤ 3) (nt : @Ne Nat ta t) (nb_s : ¬ B0 s) (zl_s : Z.heap.size ≤ s) (nb_t : ¬ B0 t) (zl_t : Z.heap.size ≤ t)  :
    Con nw l Z EL (⟨"java/lang/AbstractStringBuilder", "append", "(Ljava/lang/String;)Ljava/lang/AbstractStringBuilder;"⟩ : MethodName) jdk_68_method_22_code 3 (some (.object "java/lang/AbstractStringBuilder")) [] ({ frames := 7, cells := 0, slots := 0, locals := 105 } : Room) #[(.ref s), (.ref a)] h0 B0 [s, t] (fun v h B => v = some (.ref s) ∧ B0 = B ∧ SBU Z h s t (cs ++ [10])) := by
  refine k_intro (Ls := #[.val (.ref s), .val (.ref a), .unset]) (by decide +kernel) rfl fun x T0 X0 => ?_
  obtain ⟨E_s, Fs_value, Fs_coder, Fs_count, Fs_ml, A_t⟩ := S.op
  have lt_t := A_t.lt
  have lt_s := k_ltE E_s
  have nst : s ≠ t := Ay.ne E_s (w46 hw) A_t
  have lt_a := k_ltE E_a; have lt_ta := A_ta.lt
  have hl : ((u16 cs).map Value.int ++ List.replicate (32 - 2 * cs.length) (Value.int 0)).length = 2 * 16 := by simp [u16_len]; omega
  refine g_aloadN X0 d6_0 rfl rfl ?_
  refine g_ifnonnullT X0 d6_1 ?_
  refine g_aloadN X0 d6_9 rfl rfl ?_
  refine g_callVp X0 d6_10 (w103 hw) (w104 hw) (w106 hw) (w105 hw) (w59 hw) (w107 hw) (by decide) pd3 a [] [] 0 E_a (c_lengthL hw hs a [10] (⟨ta, E_a, Fa_c, Fa_v, A_ta⟩ : StrV Z h0 a 0 [10])) rfl rfl rfl (Nat.le_of_eq rfl) (by decide) (by decide) 0 0 rfl rfl (by decide) (by decide) fun T1 X1 => ?_
  refine g_istoreN X1 #[.val (.ref s), .val (.ref a), .val (.int (Int32.ofNat 1))] d6_13 rfl ?_
  refine g_aloadN X1 d6_14 rfl rfl ?_
  refine g_aloadN X1 d6_15 rfl rfl ?_
  refine g_getfield X1 d6_16 (w85 hw) Via.refl Fs_count fun T2 X2 => ?_
  refine g_iloadN X2 d6_19 rfl ?_
  refine g_iadd X2 (Int32.ofNat (cs.length + 1)) d6_20 (k_add _ _) ?_
  refine g_callP X2 d6_21 (w87 hw) (w90 hw) (w88 hw) (w55 hw) (w91 hw) (by decide) pd4 s [(.int (Int32.ofNat (cs.length + 1)))] [] 0 E_s (c_ensureU hw hs s t (cs.length + 1) _ Fs_value Fs_coder A_t hl (by omega)) rfl rfl rfl (Nat.le_of_eq rfl) (by decide) (by decide) 0 0 rfl rfl (by decide) (by decide) (fun _ q => nomatch q) fun v3 T3 h3 B3 X3 K3 M3 q3 => ?_
  obtain ⟨ea3, eb3, ec3⟩ := q3; have eb3 := eb3.symm; have ec3 := ec3.symm; subst ea3 eb3 ec3
  show Go x (T3.setTop (mkF x.m 24 #[.val (.ref s), .val (.ref a), .val (.int (Int32.ofNat 1))] []))
  refine g_aloadN X3 d6_24 rfl rfl ?_
  refine g_aloadN X3 d6_25 rfl rfl ?_
  refine g_getfield X3 d6_26 (w85 hw) Via.refl Fs_count fun T4 X4 => ?_
  refine g_aloadN X4 d6_29 rfl rfl ?_
  refine g_callP X4 d6_30 (w116 hw) (w119 hw) (w117 hw) (w55 hw) (w120 hw) (by decide) pd5 s [(.int (Int32.ofNat cs.length)), (.ref a)] [] 0 E_s (c_putAtN hw hs s t a ta cs.length _ E_s Fs_value Fs_coder E_a Fa_c Fa_v A_ta A_t hl (by omega) nt nb_t zl_t) rfl rfl rfl (Nat.le_of_eq rfl) (by decide) (by decide) 0 0 rfl rfl (by decide) (by decide) (k_ws1 ⟨nb_t, zl_t, (Or.inl (List.mem_of_getElem? (i := 1) rfl))⟩) fun v5 T5 h5 B5 X5 K5 M5 q5 => ?_
  obtain ⟨rfl, rfl, At'⟩ := q5
  have z5 := K5.1
  show Go x (T5.setTop (mkF x.m 33 #[.val (.ref s), .val (.ref a), .val (.int (Int32.ofNat 1))] []))
  rw [k_app16 (by omega)] at At'
  refine g_aloadN X5 d6_33 rfl rfl ?_
  refine g_dup X5 d6_34 rfl ?_
  have F6 := (Fs_count.keep K5 (ninS nst nin0))
  refine g_getfield X5 d6_35 (w85 hw) Via.refl F6 fun T7 X7 => ?_
  refine g_iloadN X7 d6_38 rfl ?_
  refine g_iadd X7 (Int32.ofNat (cs ++ [10]).length) d6_39 ((k_add _ _).trans (congrArg Int32.ofNat (by simp))) ?_
  have E_8 := (E_s.keep K5)
  refine g_putfield X7 d6_40 (w85 hw) Via.refl F6 E_8 (Or.inl (w86 hw)) (w46 hw) (ty := .int) (v' := (.int (Int32.ofNat (cs ++ [10]).length))) (by decide) rfl rfl nb_s zl_s (Or.inl (List.mem_of_getElem? (i := 0) rfl)) fun T9 h9 X9 W9 => ?_
  have z9 := W9.size; have Fw9 := F6.same W9
  refine g_aloadN X9 d6_43 rfl rfl ?_
  have E_10 := (E_8.wr W9)
  have F11 := ((Fs_value.keep K5 (ninS nst nin0)).other W9 (Or.inr (slot_ne (Or.inl (w61 hw)) (Or.inl (w86 hw)) (by decide) (t := (.array .byte)) (t' := .int) (by decide) (by decide))))
  have F12 := ((Fs_coder.keep K5 (ninS nst nin0)).other W9 (Or.inr (slot_ne (Or.inl (w63 hw)) (Or.inl (w86 hw)) (by decide) (t := .byte) (t' := .int) (by decide) (by decide))))
  have F13 := ((Fs_ml.keep K5 (ninS nst nin0)).other W9 (Or.inr (slot_ne (Or.inl (w283 hw)) (Or.inl (w86 hw)) (by decide) (t := .boolean) (t' := .int) (by decide) (by decide))))
  have A14 := (At'.keep (Keep.of_wr W9) (ninS (Ne.symm nst) nin0))
  exact g_areturn X9 d6_44 rfl rfl rfl (by decide) (by decide) ⟨rfl, rfl, E_10, F11, F12, Fw9, F13, A14⟩
set_option maxRecDepth 65536 in
set_option maxHeartbeats 40000000 in
theorem c_sbAppNl {nw : Bool} {l : Launch} {Z : State} {EL : List (String × Nat)} {a0 : Array Value} (hw : HW Z a0) (hs : Sts Z) {h0 : Heap} {B0 : BP} (s t a ta : Addr) (cs : List Int32) (S : SBU Z h0 s t cs) (E_a : Exa Z h0 a "java/lang/String") (Fa_c : Fld Z h0 a "java/lang/String" "coder" "B" (.int 0)) (Fa_v : Fld Z h0 a "java/lang/String" "value" "[B" (.ref ta)) (A_ta : Ay Z h0 ta .byte [.int 10]) (hcs : cs.length ≤ 3) (nt : @Ne Nat ta t) (nb_s : ¬ B0 s) (zl_s : Z.heap.size ≤ s) (nb_t : ¬ B0 t) (zl_t : Z.heap.size ≤ t)  :
    Con nw l Z EL (⟨"java/lang/StringBuilder", "append", "(Ljava/lang/String;)Ljava/lang/StringBuilder;"⟩ : MethodName) jdk_67_method_7_code 2 (some (.object "java/lang/StringBuilder")) [] ({ frames := 8, cells := 0, slots := 0, locals := 119 } : Room) #[(.ref s), (.ref a)] h0 B0 [s, t] (fun v h B => v = some (.ref s) ∧ B0 = B ∧ SBU Z h s t (cs ++ [10])) := by
  refine k_intro (Ls := #[.val (.ref s), .val (.ref a)]) (by decide +kernel) rfl fun x T0 X0 => ?_
  have E_s := S.op.1
  refine g_aloadN X0 d7_0 rfl rfl ?_
  refine g_aloadN X0 d7_1 rfl rfl ?_
  refine g_callU X0 d7_2 (w75 hw) (w77 hw) (w83 hw) rfl (by decide) (w76 hw) (w55 hw) (w79 hw) (by decide) pd6 s [(.ref a)] [] 0 E_s (c_asbAppNl hw hs s t a ta cs S E_a Fa_c Fa_v A_ta hcs nt nb_s zl_s nb_t zl_t) rfl rfl rfl (Nat.le_of_eq rfl) (by decide) (by decide) 0 0 rfl rfl (by decide) (by decide) (k_wsC ⟨nb_s, zl_s, (Or.inl (List.mem_of_getElem? (i := 0) rfl))⟩ (k_wsC ⟨nb_t, zl_t, (Or.inl (List.mem_of_getElem? (i := 1) rfl))⟩ (fun _ q => nomatch q))) fun v1 T1 h1 B1 X1 K1 M1 q1 => ?_
  obtain ⟨rfl, rfl, R⟩ := q1
  have z1 := K1.1
  show Go x (T1.setTop (mkF x.m 5 #[.val (.ref s), .val (.ref a)] [(.ref s)]))
  refine g_pop X1 d7_5 rfl ?_
  refine g_aloadN X1 d7_6 rfl rfl ?_
  exact g_areturn X1 d7_7 rfl rfl rfl (by decide) (by decide) ⟨rfl, rfl, R⟩
set_option maxRecDepth 65536 in
set_option maxHeartbeats 40000000 in
theorem c_initAVU {nw : Bool} {l : Launch} {Z : State} {EL : List (String × Nat)} {a0 : Array Value} (hw : HW Z a0) (hs : Sts Z) {h0 : Heap} {B0 : BP} (a s t : Addr) (cs : List Int32) (E_a : Exa Z h0 a "java/lang/String") {u_value : Value} (F_value : Fld Z h0 a "java/lang/String" "value" "[B" u_value) {u_coder : Value} (F_coder : Fld Z h0 a "java/lang/String" "coder" "B" u_coder) (nb : ¬ B0 a) (zl : Z.heap.size ≤ a) (S : SBU Z h0 s t cs) (hcs : cs.length ≤ 4) :
    Con nw l Z EL (⟨"java/lang/String", "<init>", "(Ljava/lang/AbstractStringBuilder;Ljava/lang/Void;)V"⟩ : MethodName) jdk_42_method_150_code 5 none [] ({ frames := 3, cells := 1, slots := 16, locals := 49 } : Room) #[(.ref a), (.ref s), .null] h0 B0 [a] (fun v h B => ∃ r, v = none ∧ B0 = B ∧ h0.size ≤ r ∧ ¬ B r ∧ Exa Z h a "java/lang/String" ∧ Fld Z h a "java/lang/String" "coder" "B" (.int 1) ∧ Fld Z h a "java/lang/String" "value" "[B" (.ref r) ∧ Ay Z h r .byte ((u16 cs).map Value.int)) := by
  refine k_intro (Ls := #[.val (.ref a), .val (.ref s), .val .null, .unset, .unset]) (by decide +kernel) rfl fun x T0 X0 => ?_
  obtain ⟨cv, sCS, ncv⟩ := hs.1
  have lt_a := k_ltE E_a
  obtain ⟨E_s, Fs_value, Fs_coder, Fs_count, Fs_ml, A_t⟩ := S.op
  have lt_t := A_t.lt
  have lt_s := k_ltE E_s
  have nst : s ≠ t := Ay.ne E_s (w46 hw) A_t
  have nas : a ≠ s := ne_exa E_a E_s (by decide)
  have nat' : a ≠ t := Ay.ne E_a (w98 hw) A_t
  have hl : ((u16 cs).map Value.int ++ List.replicate (32 - 2 * cs.length) (Value.int 0)).length = 2 * 16 := by simp [u16_len]; omega
  refine g_aloadN X0 d16_0 rfl rfl ?_
  refine g_init X0 d16_1 rfl rfl (w149 hw) (w26 hw) (w27 hw) 0 rfl (by decide) (Nat.le_of_eq rfl) (by decide) fun T1 X1 => ?_
  refine g_aloadN X1 d16_4 rfl rfl ?_
  refine g_callVp X1 d16_5 (w150 hw) (w151 hw) (w153 hw) (w152 hw) (w55 hw) (w154 hw) (by decide) pd10 s [] [] 0 E_s (c_getValue hw hs s t Fs_value) rfl rfl rfl (Nat.le_of_eq rfl) (by decide) (by decide) 0 0 rfl rfl (by decide) (by decide) fun T2 X2 => ?_
  refine g_astoreN X2 #[.val (.ref a), .val (.ref s), .val .null, .val (.ref t), .unset] d16_8 rfl rfl ?_
  refine g_aloadN X2 d16_9 rfl rfl ?_
  refine g_callW X2 d16_10 (w155 hw) (w156 hw) (w158 hw) (w159 hw) (w47 hw) (w160 hw) (w83 hw) rfl (by decide) pd3 s [] [] 0 E_s (c_sbLen hw hs s _ E_s Fs_count) rfl rfl rfl (Nat.le_of_eq rfl) (by decide) (by decide) 0 0 rfl rfl (by decide) (by decide) (fun _ q => nomatch q) fun v3 T3 h3 B3 X3 K3 M3 q3 => ?_
  obtain ⟨ea3, eb3, ec3⟩ := q3; have eb3 := eb3.symm; have ec3 := ec3.symm; subst ea3 eb3 ec3
  show Go x (T3.setTop (mkF x.m 13 #[.val (.ref a), .val (.ref s), .val .null, .val (.ref t), .unset] [(.int (Int32.ofNat cs.length))]))
  refine g_istore X3 #[.val (.ref a), .val (.ref s), .val .null, .val (.ref t), .val (.int (Int32.ofNat cs.length))] d16_13 rfl ?_
  refine g_aloadN X3 d16_15 rfl rfl ?_
  refine g_callVp X3 d16_16 (w163 hw) (w93 hw) (w95 hw) (w94 hw) (w55 hw) (w96 hw) (by decide) pd11 s [] [] 0 E_s (c_asbLatU hw hs s Fs_coder) rfl rfl rfl (Nat.le_of_eq rfl) (by decide) (by decide) 0 0 rfl rfl (by decide) (by decide) fun T4 X4 => ?_
  refine g_ifT X4 d16_19 (by decide) ?_
  refine g_getstatic X4 d16_41 (w114 hw) Via.refl sCS fun T5 X5 => ?_
  refine g_ifF X5 d16_44 (XT.i0_eq_f ncv) ?_
  refine g_aloadN X5 d16_47 rfl rfl ?_
  refine g_getfield X5 d16_48 (w282 hw) Via.refl Fs_ml fun T6 X6 => ?_
  refine g_ifT X6 d16_51 (by decide) ?_
  refine g_aloadN X6 d16_79 rfl rfl ?_
  refine g_iconst X6 (1 : Int32) d16_80 (by decide) ?_
  refine g_putfield X6 d16_81 (w115 hw) Via.refl F_coder E_a (Or.inr ⟨(w100 hw), rfl, rfl⟩) (w98 hw) (ty := .byte) (v' := (.int (1 : Int32))) (by decide) rfl rfl nb zl (Or.inl (List.mem_of_getElem? (i := 0) rfl)) fun T7 h7 X7 W7 => ?_
  have z7 := W7.size; have Fw7 := F_coder.same W7
  refine g_aloadN X7 d16_84 rfl rfl ?_
  refine g_aloadN X7 d16_85 rfl rfl ?_
  refine g_iconst X7 (0 : Int32) d16_86 (by decide) ?_
  refine g_iload X7 d16_87 rfl ?_
  refine g_iconst X7 (1 : Int32) d16_89 (by decide) ?_
  refine g_ishl X7 (Int32.ofNat (2 * cs.length)) d16_90 (k_shl1 (by omega)) ?_
  have A8 := (A_t.keep (Keep.of_wr W7) (ninS (Ne.symm nat') nin0))
  refine g_callS X7 d16_91 (w164 hw) (w165 hw) (w166 hw) (w167 hw) (by decide) pd9 [(.ref t), (.int (0 : Int32)), (.int (Int32.ofNat (2 * cs.length)))] [(.ref a)] 1 (c_cor0 hw hs t (2 * cs.length) _ A8 (by rw [hl]; omega) (by omega)) rfl rfl rfl (Nat.le_of_eq rfl) (by decide) (by decide) 1 16 rfl rfl (by decide) (by decide) (fun _ q => nomatch q) fun v9 T9 h9 B9 X9 K9 M9 q9 => ?_
  obtain ⟨r, rfl, rfl, fr, nbr, Ar, Er⟩ := q9
  have z9 := K9.1
  show Go x (T9.setTop (mkF x.m 94 #[.val (.ref a), .val (.ref s), .val .null, .val (.ref t), .val (.int (Int32.ofNat cs.length))] [(.ref r), (.ref a)]))
  rw [k_take16] at Ar
  have lt_r := Ar.lt
  have F10 := ((F_value.other W7 (Or.inr (slot_ne (Or.inr (w99 hw)) (Or.inr (w100 hw)) (by decide) (t := (.array .byte)) (t' := .byte) (by decide) (by decide)))).keep K9 nin0)
  have E_11 := ((E_a.wr W7).keep K9)
  refine g_putfield X9 d16_94 (w108 hw) Via.refl F10 E_11 (Or.inr ⟨(w99 hw), rfl, rfl⟩) (w98 hw) (ty := (.array .byte)) (v' := (.ref r)) (by decide) rfl rfl nb zl (Or.inl (List.mem_of_getElem? (i := 0) rfl)) fun T12 h12 X12 W12 => ?_
  have z12 := W12.size; have Fw12 := F10.same W12
  have E_13 := (E_11.wr W12)
  have F14 := ((Fw7.keep K9 nin0).other W12 (Or.inr (slot_ne (Or.inr (w100 hw)) (Or.inr (w99 hw)) (by decide) (t := .byte) (t' := (.array .byte)) (by decide) (by decide))))
  have A15 := (Ar.keep (Keep.of_wr W12) (ninS (k_neN (by omega)) nin0))
  exact g_return X12 d16_97 (by decide) (by decide) ⟨r, rfl, rfl, by omega, nbr, E_13, F14, Fw12, A15⟩
set_option maxRecDepth 65536 in
set_option maxHeartbeats 40000000 in
theorem c_initSBdU {nw : Bool} {l : Launch} {Z : State} {EL : List (String × Nat)} {a0 : Array Value} (hw : HW Z a0) (hs : Sts Z) {h0 : Heap} {B0 : BP} (a s t : Addr) (cs : List Int32) (E_a : Exa Z h0 a "java/lang/String") {u_value : Value} (F_value : Fld Z h0 a "java/lang/String" "value" "[B" u_value) {u_coder : Value} (F_coder : Fld Z h0 a "java/lang/String" "coder" "B" u_coder) (nb : ¬ B0 a) (zl : Z.heap.size ≤ a) (S : SBU Z h0 s t cs) (hcs : cs.length ≤ 4) :
    Con nw l Z EL (⟨"java/lang/String", "<init>", "(Ljava/lang/StringBuilder;)V"⟩ : MethodName) jdk_42_method_53_code 2 none [] ({ frames := 4, cells := 1, slots := 16, locals := 65 } : Room) #[(.ref a), (.ref s)] h0 B0 [a] (fun v h B => ∃ r, v = none ∧ B0 = B ∧ h0.size ≤ r ∧ ¬ B r ∧ Exa Z h a "java/lang/String" ∧ Fld Z h a "java/lang/String" "coder" "B" (.int 1) ∧ Fld Z h a "java/lang/String" "value" "[B" (.ref r) ∧ Ay Z h r .byte ((u16 cs).map Value.int)) := by
  refine k_intro (Ls := #[.val (.ref a), .val (.ref s)]) (by decide +kernel) rfl fun x T0 X0 => ?_
  have lt_a := k_ltE E_a
  refine g_aloadN X0 d17_0 rfl rfl ?_
  refine g_aloadN X0 d17_1 rfl rfl ?_
  refine g_aconst_null X0 d17_2 ?_
  refine g_callI X0 d17_3 (w146 hw) (w147 hw) (w59 hw) (w148 hw) rfl (by decide) pd12 a [(.ref s), .null] [] 0 (c_initAVU hw hs a s t cs E_a F_value F_coder nb zl S hcs) rfl rfl rfl (Nat.le_of_eq rfl) (by decide) (by decide) 1 16 rfl rfl (by decide) (by decide) (k_ws1 ⟨nb, zl, (Or.inl (List.mem_of_getElem? (i := 0) rfl))⟩) fun v1 T1 h1 B1 X1 K1 M1 q1 => ?_
  obtain ⟨r, rfl, rfl, R⟩ := q1
  have z1 := K1.1
  show Go x (T1.setTop (mkF x.m 6 #[.val (.ref a), .val (.ref s)] []))
  exact g_return X1 d17_6 (by decide) (by decide) ⟨r, rfl, rfl, R⟩
set_option maxRecDepth 65536 in
set_option maxHeartbeats 40000000 in
theorem c_toStrU {nw : Bool} {l : Launch} {Z : State} {EL : List (String × Nat)} {a0 : Array Value} (hw : HW Z a0) (hs : Sts Z) {h0 : Heap} {B0 : BP} (s t : Addr) (cs : List Int32)  (S : SBU Z h0 s t cs) (hcs : cs.length ≤ 4) :
    Con nw l Z EL (⟨"java/lang/StringBuilder", "toString", "()Ljava/lang/String;"⟩ : MethodName) jdk_67_method_42_code 1 (some (.object "java/lang/String")) [] ({ frames := 5, cells := 2, slots := 20, locals := 79 } : Room) #[(.ref s)] h0 B0 [] (fun v h B => ∃ a r, v = some (.ref a) ∧ B0 = B ∧ h0.size ≤ a ∧ ¬ B a ∧ h0.size ≤ r ∧ ¬ B r ∧ Exa Z h a "java/lang/String" ∧ Fld Z h a "java/lang/String" "coder" "B" (.int 1) ∧ Fld Z h a "java/lang/String" "value" "[B" (.ref r) ∧ Ay Z h r .byte ((u16 cs).map Value.int)) := by
  refine k_intro (Ls := #[.val (.ref s)]) (by decide +kernel) rfl fun x T0 X0 => ?_
  have E_s := S.op.1; have lt_s := k_ltE E_s
  refine g_new X0 d18_0 (w141 hw) (w98 hw) (w59 hw) 1 4 rfl rfl (by decide) (by decide) fun T1 h1 b1 X1 E1 eb1 nb1 Ex1 D1 => ?_
  have z1 := E1.1; have lt1 : @LT.lt Nat _ b1 h1.size := Ex1.lt; have zl1 : @LE.le Nat _ Z.heap.size b1 := eb1 ▸ X0.szZ; have fr1 : @LE.le Nat _ h0.size b1 := eb1 ▸ X0.sz
  have F1_value : Fld Z h1 b1 "java/lang/String" "value" "[B" .null := D1 (Or.inr (w99 hw)) (ty := (.array .byte)) (by decide)
  have F1_coder : Fld Z h1 b1 "java/lang/String" "coder" "B" (.int (0 : Int32)) := D1 (Or.inr (w100 hw)) (ty := .byte) (by decide)
  refine g_dup X1 d18_3 rfl ?_
  refine g_aloadN X1 d18_4 rfl rfl ?_
  have S' := S.ext E1
  refine g_callI X1 d18_5 (w142 hw) (w143 hw) (w59 hw) (w145 hw) rfl (by decide) pd13 b1 [(.ref s)] [(.ref b1)] 1 (c_initSBdU hw hs b1 s t cs Ex1 F1_value F1_coder nb1 zl1 S' hcs) rfl rfl rfl (Nat.le_of_eq rfl) (by decide) (by decide) 2 20 rfl rfl (by decide) (by decide) (k_ws1 ⟨nb1, zl1, (Or.inr fr1)⟩) fun v2 T2 h2 B2 X2 K2 M2 q2 => ?_
  obtain ⟨r, rfl, rfl, fr, R⟩ := q2
  have z2 := K2.1
  show Go x (T2.setTop (mkF x.m 8 #[.val (.ref s)] [(.ref b1)]))
  exact g_areturn X2 d18_8 rfl rfl rfl (by decide) (by decide) ⟨_, r, rfl, rfl, fr1, nb1, by omega, R⟩
set_option maxRecDepth 65536 in
set_option maxHeartbeats 40000000 in
theorem c_isSurr {nw : Bool} {l : Launch} {Z : State} {EL : List (String × Nat)} {a0 : Array Value} (hw : HW Z a0) (hs : Sts Z) {h0 : Heap} {B0 : BP} (c : Int32) (hns : NS c) :
    Con nw l Z EL (⟨"java/lang/Character", "isSurrogate", "(C)Z"⟩ : MethodName) jdk_89_method_16_code 1 (some .boolean) [] ({ frames := 0, cells := 0, slots := 0, locals := 0 } : Room) #[(.int c)] h0 B0 [] (PQ (some (.int (0 : Int32))) h0 B0) := by
  refine k_intro (Ls := #[.val (.int c)]) (by decide +kernel) rfl fun x T0 X0 => ?_
  refine g_iloadN X0 d38_0 rfl ?_
  refine g_ldcI X0 d38_1 (w292 hw) ?_
  by_cases hlo : c < (55296 : Int32)
  ·
    refine g_icmpT X0 d38_3 (XT.ii_lt_t hlo) ?_
    refine g_iconst X0 (0 : Int32) d38_16 (by decide) ?_
    exact g_ireturn (w' := (0 : Int32)) X0 d38_17 (Or.inl rfl) (by decide) (by decide) (by decide) ⟨rfl, rfl, rfl⟩
  ·
    refine g_icmpF X0 d38_3 (XT.ii_lt_f hlo) ?_
    refine g_iloadN X0 d38_6 rfl ?_
    refine g_ldcI X0 d38_7 (w293 hw) ?_
    refine g_icmpT X0 d38_9 (XT.ii_ge_t (Or.resolve_left hns hlo)) ?_
    refine g_iconst X0 (0 : Int32) d38_16 (by decide) ?_
    exact g_ireturn (w' := (0 : Int32)) X0 d38_17 (Or.inl rfl) (by decide) (by decide) (by decide) ⟨rfl, rfl, rfl⟩
set_option maxRecDepth 65536 in
set_option maxHeartbeats 40000000 in
theorem c_getChar {nw : Bool} {l : Launch} {Z : State} {EL : List (String × Nat)} {a0 : Array Value} (hw : HW Z a0) (hs : Sts Z) {h0 : Heap} {B0 : BP} (t : Addr) (i : Nat) (cs : List Int32) (A : Ay Z h0 t .byte ((u16 cs).map Value.int)) (hi : i < cs.length) (h16 : C16 cs[i]) :
    Con nw l Z EL (⟨"java/lang/StringUTF16", "getChar", "([BI)C"⟩ : MethodName) jdk_52_method_5_code 2 (some .char) [] ({ frames := 0, cells := 0, slots := 0, locals := 0 } : Room) #[(.ref t), (.int (Int32.ofNat i))] h0 B0 [] (PQ (some (.int (cs[i]))) h0 B0) := by
  refine k_intro (Ls := #[.val (.ref t), .val (.int (Int32.ofNat i))]) (by decide +kernel) rfl fun x T0 X0 => ?_
  obtain ⟨sAD, sHI, sLO⟩ := hs.2.2.1
  have hl : 2 * cs.length < 2 ^ 31 := by simpa [u16_len] using A.len
  refine g_getstatic X0 d39_0 (w245 hw) Via.refl sAD fun T1 X1 => ?_
  refine g_ifT X1 d39_3 (by decide) ?_
  refine g_iloadN X1 d39_28 rfl ?_
  refine g_iconst X1 (1 : Int32) d39_29 (by decide) ?_
  refine g_ishl X1 (Int32.ofNat (2 * i)) d39_30 (k_shl1 (by omega)) ?_
  refine g_istoreN X1 #[.val (.ref t), .val (.int (Int32.ofNat (2 * i)))] d39_31 rfl ?_
  refine g_aloadN X1 d39_32 rfl rfl ?_
  refine g_iloadN X1 d39_33 rfl ?_
  refine g_iinc X1 #[.val (.ref t), .val (.int (Int32.ofNat (2 * i + 1)))] d39_34 rfl (k_inc _) rfl ?_
  refine g_baload X1 d39_37 A (2 * i) rfl (v := .int (lo8 cs[i])) (by rw [List.getElem?_map, u16_lo cs i hi]; rfl) ?_
  refine g_sipush X1 (255 : Int32) d39_38 (by decide) ?_
  refine g_iand X1 ((lo8 cs[i]) &&& (255 : Int32)) d39_41 rfl ?_
  refine g_getstatic X1 d39_42 (w246 hw) Via.refl sHI fun T2 X2 => ?_
  refine g_ishl X2 (((lo8 cs[i]) &&& (255 : Int32)) <<< ((0 : Int32) &&& 31)) d39_45 rfl ?_
  refine g_aloadN X2 d39_46 rfl rfl ?_
  refine g_iloadN X2 d39_47 rfl ?_
  refine g_baload X2 d39_48 A (2 * i + 1) rfl (v := .int (hi8 cs[i])) (by rw [List.getElem?_map, u16_hi cs i hi]; rfl) ?_
  refine g_sipush X2 (255 : Int32) d39_49 (by decide) ?_
  refine g_iand X2 ((hi8 cs[i]) &&& (255 : Int32)) d39_52 rfl ?_
  refine g_getstatic X2 d39_53 (w247 hw) Via.refl sLO fun T3 X3 => ?_
  refine g_ishl X3 (((hi8 cs[i]) &&& (255 : Int32)) <<< ((8 : Int32) &&& 31)) d39_56 rfl ?_
  refine g_ior X3 ((((lo8 cs[i]) &&& (255 : Int32)) <<< ((0 : Int32) &&& 31)) ||| (((hi8 cs[i]) &&& (255 : Int32)) <<< ((8 : Int32) &&& 31))) d39_57 rfl ?_
  refine g_i2c X3 (cs[i]) d39_58 (k_get16 h16) ?_
  exact g_ireturn (w' := (cs[i])) X3 d39_59 (Or.inr (Or.inr (Or.inl rfl))) (nar_c16 h16) (by decide) (by decide) ⟨rfl, rfl, rfl⟩
set_option maxRecDepth 65536 in
set_option maxHeartbeats 40000000 in
theorem c_encU16 {nw : Bool} {l : Launch} {Z : State} {EL : List (String × Nat)} {a0 : Array Value} (hw : HW Z a0) (hs : Sts Z) {h0 : Heap} {B0 : BP} (t : Addr) (cs : List Int32) (A : Ay Z h0 t .byte ((u16 cs).map Value.int)) (hcap : cs.length ≤ 4) (hc16 : ∀ c ∈ cs, C16 c) (hns : ∀ c ∈ cs, NS c) :
    Con nw l Z EL (⟨"java/lang/String", "encodeUTF8_UTF16", "([BZ)[B"⟩ : MethodName) jdk_42_method_47_code 9 (some (.array .byte)) [] ({ frames := 2, cells := 2, slots := 44, locals := 32 } : Room) #[(.ref t), (.int (1 : Int32))] h0 B0 [] (fun v h B => ∃ r, v = some (.ref r) ∧ B0 = B ∧ h0.size ≤ r ∧ ¬ B r ∧ Ay Z h r .byte ((cs.flatMap n8).map Value.int)) := by
  refine k_intro (Ls := #[.val (.ref t), .val (.int (1 : Int32)), .unset, .unset, .unset, .unset, .unset, .unset, .unset]) (by decide +kernel) rfl fun x T0 X0 => ?_
  have hl : 2 * cs.length < 2 ^ 31 := by omega
  have hl' : cs.length < 2 ^ 31 := by omega
  have lt_t := A.lt
  refine g_iconst X0 (0 : Int32) d40_0 (by decide) ?_
  refine g_istoreN X0 #[.val (.ref t), .val (.int (1 : Int32)), .val (.int (0 : Int32)), .unset, .unset, .unset, .unset, .unset, .unset] d40_1 rfl ?_
  refine g_iconst X0 (0 : Int32) d40_2 (by decide) ?_
  refine g_istoreN X0 #[.val (.ref t), .val (.int (1 : Int32)), .val (.int (0 : Int32)), .val (.int (0 : Int32)), .unset, .unset, .unset, .unset, .unset] d40_3 rfl ?_
  refine g_aloadN X0 d40_4 rfl rfl ?_
  refine g_arraylength X0 d40_5 A (Int32.ofNat (2 * cs.length)) (by simp [u16_len]) ?_
  refine g_iconst X0 (1 : Int32) d40_6 (by decide) ?_
  refine g_ishr X0 (Int32.ofNat cs.length) d40_7 (k_shr1 hl) ?_
  refine g_istore X0 #[.val (.ref t), .val (.int (1 : Int32)), .val (.int (0 : Int32)), .val (.int (0 : Int32)), .val (.int (Int32.ofNat cs.length)), .unset, .unset, .unset, .unset] d40_8 rfl ?_
  refine g_iload X0 d40_10 rfl ?_
  refine g_iconst X0 (3 : Int32) d40_12 (by decide) ?_
  refine g_imul X0 (Int32.ofNat (3 * cs.length)) d40_13 (k_mul3 _ hcap) ?_
  refine g_newarray X0 d40_14 rfl (w6 hw) (3 * cs.length) 12 rfl (by omega) (by decide) 1 12 rfl rfl (by decide) (by decide) fun T1 h1 b1 X1 E1 eb1 nb1 A1 => ?_
  have z1 := E1.1; have lt1 : @LT.lt Nat _ b1 h1.size := A1.lt; have zl1 : @LE.le Nat _ Z.heap.size b1 := eb1 ▸ X0.szZ; have fr1 : @LE.le Nat _ h0.size b1 := eb1 ▸ X0.sz
  have Ab0 : Ay Z h1 b1 .byte (List.replicate (3 * cs.length) (Value.int 0)) := A1
  refine g_astore X1 #[.val (.ref t), .val (.int (1 : Int32)), .val (.int (0 : Int32)), .val (.int (0 : Int32)), .val (.int (Int32.ofNat cs.length)), .val (.ref b1), .unset, .unset, .unset] d40_16 rfl rfl ?_
  have A2 := (A.ext E1)
  have loop2 : ∀ (d i : Nat) (hi : i + d = cs.length) (P : List Int32) (eP : P = (cs.take i).flatMap n8) (s6 : Slot) (hs6 : LS s6) (T : State) (h : Heap) (X : Wk nw l Z EL "java/lang/String" jdk_42_method_47_code 9 (some (.array .byte)) "encodeUTF8_UTF16" ({ frames := 2, cells := 2, slots := 44, locals := 32 } : Room) h0 B0 [] (fun v h B => ∃ r, v = some (.ref r) ∧ B0 = B ∧ h0.size ≤ r ∧ ¬ B r ∧ Ay Z h r .byte ((cs.flatMap n8).map Value.int)) x T h B0 1 12) (At : Ay Z h t .byte ((u16 cs).map Value.int)) (A : Ay Z h b1 .byte (P.map Value.int ++ List.replicate (3 * cs.length - P.length) (Value.int 0))), Go x (T.setTop (mkF x.m 58 #[.val (.ref t), .val (.int (1 : Int32)), .val (.int (Int32.ofNat P.length)), .val (.int (Int32.ofNat i)), .val (.int (Int32.ofNat cs.length)), .val (.ref b1), s6, .unset, .unset] [])) := by
    intro d
    induction d with
    | zero =>
      intro i hi P eP s6 hs6 T h X At A
      obtain rfl : i = cs.length := by omega
      rw [List.take_length] at eP
      have hP : P.length ≤ 3 * cs.length := eP ▸ n8_len cs
      have hlA : (P.map Value.int ++ List.replicate (3 * cs.length - P.length) (Value.int 0)).length = 3 * cs.length := by simp; omega
      refine g_iloadN X d40_58 rfl ?_
      refine g_iload X d40_59 rfl ?_
      refine g_icmpT X d40_61 (XT.ii_ge_t (k_nlt (Nat.le_refl _) hl')) ?_
      refine g_iloadN X d40_355 rfl ?_
      refine g_aload X d40_356 rfl rfl ?_
      refine g_arraylength X d40_358 A (Int32.ofNat (3 * cs.length)) (by rw [hlA]) ?_
      by_cases he : (Int32.ofNat P.length) = (Int32.ofNat (3 * cs.length))
      ·
        refine g_icmpF X d40_359 (XT.ii_ne_f he) ?_
        have he := (k_eqn (by omega) (by omega)).mp he
        refine g_aload X d40_362 rfl rfl ?_
        exact g_areturn X d40_364 rfl rfl rfl (by decide) (by decide) ⟨b1, rfl, rfl, fr1, nb1, by rw [← eP]; simpa [he] using A⟩
      ·
        refine g_icmpT X d40_359 (XT.ii_ne_t he) ?_
        have hne : P.length < 3 * cs.length := Nat.lt_of_le_of_ne hP fun g => he (by rw [g])
        refine g_aload X d40_365 rfl rfl ?_
        refine g_iloadN X d40_367 rfl ?_
        refine g_callS X d40_368 (w294 hw) (w295 hw) (w166 hw) (w296 hw) (by decide) pd18 [(.ref b1), (.int (Int32.ofNat P.length))] [] 0 (c_copyOfB hw hs b1 P.length _ A (by rw [hlA]; exact hne) (by omega)) rfl rfl rfl (Nat.le_of_eq rfl) (by decide) (by decide) 2 44 rfl rfl (by decide) (by decide) (fun _ q => nomatch q) fun v3 T3 h3 B3 X3 K3 M3 q3 => ?_
        obtain ⟨r, rfl, rfl, fr, nbr, Ar, Er⟩ := q3
        have z3 := K3.1
        show Go x (T3.setTop (mkF x.m 371 #[.val (.ref t), .val (.int (1 : Int32)), .val (.int (Int32.ofNat P.length)), .val (.int (Int32.ofNat cs.length)), .val (.int (Int32.ofNat cs.length)), .val (.ref b1), s6, .unset, .unset] [(.ref r)]))
        exact g_areturn X3 d40_371 rfl rfl rfl (by decide) (by decide) ⟨r, rfl, rfl, Nat.le_trans X.sz fr, nbr, by rw [← eP]; simpa using Ar⟩
    | succ d ih =>
      intro i hi P eP s6 hs6 T h X At A
      have hil : i < cs.length := by omega
      have hP : P.length ≤ 3 * i := by have := n8_len (cs.take i); rw [← eP] at this; simp at this; omega
      refine g_iloadN X d40_58 rfl ?_
      refine g_iload X d40_59 rfl ?_
      refine g_icmpF X d40_61 (XT.ii_ge_f (k_lt hil hl')) ?_
      refine g_aloadN X d40_64 rfl rfl ?_
      refine g_iloadN X d40_65 rfl ?_
      refine g_iinc X #[.val (.ref t), .val (.int (1 : Int32)), .val (.int (Int32.ofNat P.length)), .val (.int (Int32.ofNat (i + 1))), .val (.int (Int32.ofNat cs.length)), .val (.ref b1), s6, .unset, .unset] d40_66 rfl (k_inc i) rfl ?_
      refine g_callSp X d40_69 (w287 hw) (w249 hw) (w227 hw) (w250 hw) (by decide) pd29 [(.ref t), (.int (Int32.ofNat i))] [] 0 (c_getChar hw hs t i cs At hil (hc16 _ (List.getElem_mem hil))) rfl rfl rfl (Nat.le_of_eq rfl) (by decide) (by decide) 1 12 rfl rfl (by decide) (by decide) fun T4 X4 => ?_
      refine g_istore X4 #[.val (.ref t), .val (.int (1 : Int32)), .val (.int (Int32.ofNat P.length)), .val (.int (Int32.ofNat (i + 1))), .val (.int (Int32.ofNat cs.length)), .val (.ref b1), .val (.int (cs[i])), .unset, .unset] d40_72 (by rcases hs6 with rfl | ⟨u, rfl⟩ <;> rfl) ?_
      refine g_iload X4 d40_74 rfl ?_
      refine g_sipush X4 (128 : Int32) d40_76 (by decide) ?_
      by_cases ha : (cs[i]) < (128 : Int32)
      ·
        refine g_icmpF X4 d40_79 (XT.ii_ge_f ha) ?_
        refine g_aload X4 d40_82 rfl rfl ?_
        refine g_iloadN X4 d40_84 rfl ?_
        refine g_iinc X4 #[.val (.ref t), .val (.int (1 : Int32)), .val (.int (Int32.ofNat (P ++ [(lo8 cs[i])]).length)), .val (.int (Int32.ofNat (i + 1))), .val (.int (Int32.ofNat cs.length)), .val (.ref b1), .val (.int (cs[i])), .unset, .unset] d40_85 rfl ((k_inc _).trans (congrArg Int32.ofNat (by simp))) rfl ?_
        refine g_iload X4 d40_88 rfl ?_
        refine g_i2b X4 (lo8 cs[i]) d40_90 rfl ?_
        refine g_bastore X4 d40_91 A P.length rfl (lo8 cs[i]) (nar_b8 _) (by simp; omega) nb1 zl1 (Or.inr fr1) fun T5 h5 X5 K5 A5 => ?_
        have z5 := K5.1
        rw [k_put (by first | omega | (simp; omega))] at A5
        refine g_goto X5 d40_92 ?_
        refine g_goto X5 d40_352 ?_
        have A6 := (At.keep K5 (ninS (k_neN (by omega)) nin0))
        exact ih (i + 1) (by omega) _ (by rw [n8_take hil, ← eP, n8, if_pos ha]) (.val (.int cs[i])) (Or.inr ⟨_, rfl⟩) T5 h5 X5 A6 A5
      ·
        refine g_icmpT X4 d40_79 (XT.ii_ge_t ha) ?_
        refine g_iload X4 d40_95 rfl ?_
        refine g_sipush X4 (2048 : Int32) d40_97 (by decide) ?_
        by_cases hb : (cs[i]) < (2048 : Int32)
        ·
          refine g_icmpF X4 d40_100 (XT.ii_ge_f hb) ?_
          refine g_aload X4 d40_103 rfl rfl ?_
          refine g_iloadN X4 d40_105 rfl ?_
          refine g_iinc X4 #[.val (.ref t), .val (.int (1 : Int32)), .val (.int (Int32.ofNat (P ++ [(n2a cs[i])]).length)), .val (.int (Int32.ofNat (i + 1))), .val (.int (Int32.ofNat cs.length)), .val (.ref b1), .val (.int (cs[i])), .unset, .unset] d40_106 rfl ((k_inc _).trans (congrArg Int32.ofNat (by simp))) rfl ?_
          refine g_sipush X4 (192 : Int32) d40_109 (by decide) ?_
          refine g_iload X4 d40_112 rfl ?_
          refine g_bipush X4 (6 : Int32) d40_114 (by decide) ?_
          refine g_ishr X4 ((cs[i]) >>> ((6 : Int32) &&& 31)) d40_116 rfl ?_
          refine g_ior X4 ((192 : Int32) ||| ((cs[i]) >>> ((6 : Int32) &&& 31))) d40_117 rfl ?_
          refine g_i2b X4 (n2a cs[i]) d40_118 rfl ?_
          refine g_bastore X4 d40_119 A P.length rfl (n2a cs[i]) (nar_b8 _) (by simp; omega) nb1 zl1 (Or.inr fr1) fun T7 h7 X7 K7 A7 => ?_
          have z7 := K7.1
          rw [k_put (by first | omega | (simp; omega))] at A7
          refine g_aload X7 d40_120 rfl rfl ?_
          refine g_iloadN X7 d40_122 rfl ?_
          refine g_iinc X7 #[.val (.ref t), .val (.int (1 : Int32)), .val (.int (Int32.ofNat ((P ++ [(n2a cs[i])]) ++ [(n2b cs[i])]).length)), .val (.int (Int32.ofNat (i + 1))), .val (.int (Int32.ofNat cs.length)), .val (.ref b1), .val (.int (cs[i])), .unset, .unset] d40_123 rfl ((k_inc _).trans (congrArg Int32.ofNat (by simp))) rfl ?_
          refine g_sipush X7 (128 : Int32) d40_126 (by decide) ?_
          refine g_iload X7 d40_129 rfl ?_
          refine g_bipush X7 (63 : Int32) d40_131 (by decide) ?_
          refine g_iand X7 ((cs[i]) &&& (63 : Int32)) d40_133 rfl ?_
          refine g_ior X7 ((128 : Int32) ||| ((cs[i]) &&& (63 : Int32))) d40_134 rfl ?_
          refine g_i2b X7 (n2b cs[i]) d40_135 rfl ?_
          refine g_bastore X7 d40_136 A7 ((P ++ [(n2a cs[i])]).length) rfl (n2b cs[i]) (nar_b8 _) (by simp; omega) nb1 zl1 (Or.inr fr1) fun T8 h8 X8 K8 A8 => ?_
          have z8 := K8.1
          rw [k_put (by first | omega | (simp; omega))] at A8
          refine g_goto X8 d40_137 ?_
          refine g_goto X8 d40_352 ?_
          have A9 := ((At.keep K7 (ninS (k_neN (by omega)) nin0)).keep K8 (ninS (k_neN (by omega)) nin0))
          exact ih (i + 1) (by omega) _ (by rw [n8_take hil, ← eP, n8, if_neg ha, if_pos hb]; simp) (.val (.int cs[i])) (Or.inr ⟨_, rfl⟩) T8 h8 X8 A9 A8
        ·
          refine g_icmpT X4 d40_100 (XT.ii_ge_t hb) ?_
          refine g_iload X4 d40_140 rfl ?_
          refine g_callSp X4 d40_142 (w288 hw) (w289 hw) (w290 hw) (w291 hw) (by decide) pd30 [(.int (cs[i]))] [] 0 (c_isSurr hw hs cs[i] (hns _ (List.getElem_mem hil))) rfl rfl rfl (Nat.le_of_eq rfl) (by decide) (by decide) 1 12 rfl rfl (by decide) (by decide) fun T10 X10 => ?_
          refine g_ifT X10 d40_145 (by decide) ?_
          refine g_aload X10 d40_298 rfl rfl ?_
          refine g_iloadN X10 d40_300 rfl ?_
          refine g_iinc X10 #[.val (.ref t), .val (.int (1 : Int32)), .val (.int (Int32.ofNat (P ++ [(n3a cs[i])]).length)), .val (.int (Int32.ofNat (i + 1))), .val (.int (Int32.ofNat cs.length)), .val (.ref b1), .val (.int (cs[i])), .unset, .unset] d40_301 rfl ((k_inc _).trans (congrArg Int32.ofNat (by simp))) rfl ?_
          refine g_sipush X10 (224 : Int32) d40_304 (by decide) ?_
          refine g_iload X10 d40_307 rfl ?_
          refine g_bipush X10 (12 : Int32) d40_309 (by decide) ?_
          refine g_ishr X10 ((cs[i]) >>> ((12 : Int32) &&& 31)) d40_311 rfl ?_
          refine g_ior X10 ((224 : Int32) ||| ((cs[i]) >>> ((12 : Int32) &&& 31))) d40_312 rfl ?_
          refine g_i2b X10 (n3a cs[i]) d40_313 rfl ?_
          refine g_bastore X10 d40_314 A P.length rfl (n3a cs[i]) (nar_b8 _) (by simp; omega) nb1 zl1 (Or.inr fr1) fun T11 h11 X11 K11 A11 => ?_
          have z11 := K11.1
          rw [k_put (by first | omega | (simp; omega))] at A11
          refine g_aload X11 d40_315 rfl rfl ?_
          refine g_iloadN X11 d40_317 rfl ?_
          refine g_iinc X11 #[.val (.ref t), .val (.int (1 : Int32)), .val (.int (Int32.ofNat ((P ++ [(n3a cs[i])]) ++ [(n3b cs[i])]).length)), .val (.int (Int32.ofNat (i + 1))), .val (.int (Int32.ofNat cs.length)), .val (.ref b1), .val (.int (cs[i])), .unset, .unset] d40_318 rfl ((k_inc _).trans (congrArg Int32.ofNat (by simp))) rfl ?_
          refine g_sipush X11 (128 : Int32) d40_321 (by decide) ?_
          refine g_iload X11 d40_324 rfl ?_
          refine g_bipush X11 (6 : Int32) d40_326 (by decide) ?_
          refine g_ishr X11 ((cs[i]) >>> ((6 : Int32) &&& 31)) d40_328 rfl ?_
          refine g_bipush X11 (63 : Int32) d40_329 (by decide) ?_
          refine g_iand X11 (((cs[i]) >>> ((6 : Int32) &&& 31)) &&& (63 : Int32)) d40_331 rfl ?_
          refine g_ior X11 ((128 : Int32) ||| (((cs[i]) >>> ((6 : Int32) &&& 31)) &&& (63 : Int32))) d40_332 rfl ?_
          refine g_i2b X11 (n3b cs[i]) d40_333 rfl ?_
          refine g_bastore X11 d40_334 A11 ((P ++ [(n3a cs[i])]).length) rfl (n3b cs[i]) (nar_b8 _) (by simp; omega) nb1 zl1 (Or.inr fr1) fun T12 h12 X12 K12 A12 => ?_
          have z12 := K12.1
          rw [k_put (by first | omega | (simp; omega))] at A12
          refine g_aload X12 d40_335 rfl rfl ?_
          refine g_iloadN X12 d40_337 rfl ?_
          refine g_iinc X12 #[.val (.ref t), .val (.int (1 : Int32)), .val (.int (Int32.ofNat (((P ++ [(n3a cs[i])]) ++ [(n3b cs[i])]) ++ [(n2b cs[i])]).length)), .val (.int (Int32.ofNat (i + 1))), .val (.int (Int32.ofNat cs.length)), .val (.ref b1), .val (.int (cs[i])), .unset, .unset] d40_338 rfl ((k_inc _).trans (congrArg Int32.ofNat (by simp))) rfl ?_
          refine g_sipush X12 (128 : Int32) d40_341 (by decide) ?_
          refine g_iload X12 d40_344 rfl ?_
          refine g_bipush X12 (63 : Int32) d40_346 (by decide) ?_
          refine g_iand X12 ((cs[i]) &&& (63 : Int32)) d40_348 rfl ?_
          refine g_ior X12 ((128 : Int32) ||| ((cs[i]) &&& (63 : Int32))) d40_349 rfl ?_
          refine g_i2b X12 (n2b cs[i]) d40_350 rfl ?_
          refine g_bastore X12 d40_351 A12 (((P ++ [(n3a cs[i])]) ++ [(n3b cs[i])]).length) rfl (n2b cs[i]) (nar_b8 _) (by simp; omega) nb1 zl1 (Or.inr fr1) fun T13 h13 X13 K13 A13 => ?_
          have z13 := K13.1
          rw [k_put (by first | omega | (simp; omega))] at A13
          refine g_goto X13 d40_352 ?_
          have A14 := (((At.keep K11 (ninS (k_neN (by omega)) nin0)).keep K12 (ninS (k_neN (by omega)) nin0)).keep K13 (ninS (k_neN (by omega)) nin0))
          exact ih (i + 1) (by omega) _ (by rw [n8_take hil, ← eP, n8, if_neg ha, if_neg hb]; simp) (.val (.int cs[i])) (Or.inr ⟨_, rfl⟩) T13 h13 X13 A14 A13
  have loop1 : ∀ (d i : Nat) (hi : i + d = cs.length) (P : List Int32) (eP : P = (cs.take i).flatMap n8) (s6 : Slot) (hs6 : LS s6) (T : State) (h : Heap) (X : Wk nw l Z EL "java/lang/String" jdk_42_method_47_code 9 (some (.array .byte)) "encodeUTF8_UTF16" ({ frames := 2, cells := 2, slots := 44, locals := 32 } : Room) h0 B0 [] (fun v h B => ∃ r, v = some (.ref r) ∧ B0 = B ∧ h0.size ≤ r ∧ ¬ B r ∧ Ay Z h r .byte ((cs.flatMap n8).map Value.int)) x T h B0 1 12) (At : Ay Z h t .byte ((u16 cs).map Value.int)) (A : Ay Z h b1 .byte (P.map Value.int ++ List.replicate (3 * cs.length - P.length) (Value.int 0))), Go x (T.setTop (mkF x.m 18 #[.val (.ref t), .val (.int (1 : Int32)), .val (.int (Int32.ofNat P.length)), .val (.int (Int32.ofNat i)), .val (.int (Int32.ofNat cs.length)), .val (.ref b1), s6, .unset, .unset] [])) := by
    intro d
    induction d with
    | zero =>
      intro i hi P eP s6 hs6 T h X At A
      obtain rfl : i = cs.length := by omega
      refine g_iloadN X d40_18 rfl ?_
      refine g_iload X d40_19 rfl ?_
      refine g_icmpT X d40_21 (XT.ii_ge_t (k_nlt (Nat.le_refl _) hl')) ?_
      exact loop2 0 cs.length (by omega) P eP s6 hs6 T h X At A
    | succ d ih =>
      intro i hi P eP s6 hs6 T h X At A
      have hil : i < cs.length := by omega
      have hP : P.length ≤ 3 * i := by have := n8_len (cs.take i); rw [← eP] at this; simp at this; omega
      refine g_iloadN X d40_18 rfl ?_
      refine g_iload X d40_19 rfl ?_
      refine g_icmpF X d40_21 (XT.ii_ge_f (k_lt hil hl')) ?_
      refine g_aloadN X d40_24 rfl rfl ?_
      refine g_iloadN X d40_25 rfl ?_
      refine g_callSp X d40_26 (w287 hw) (w249 hw) (w227 hw) (w250 hw) (by decide) pd29 [(.ref t), (.int (Int32.ofNat i))] [] 0 (c_getChar hw hs t i cs At hil (hc16 _ (List.getElem_mem hil))) rfl rfl rfl (Nat.le_of_eq rfl) (by decide) (by decide) 1 12 rfl rfl (by decide) (by decide) fun T15 X15 => ?_
      refine g_istore X15 #[.val (.ref t), .val (.int (1 : Int32)), .val (.int (Int32.ofNat P.length)), .val (.int (Int32.ofNat i)), .val (.int (Int32.ofNat cs.length)), .val (.ref b1), .val (.int (cs[i])), .unset, .unset] d40_29 (by rcases hs6 with rfl | ⟨u, rfl⟩ <;> rfl) ?_
      refine g_iload X15 d40_31 rfl ?_
      refine g_sipush X15 (128 : Int32) d40_33 (by decide) ?_
      by_cases ha : (cs[i]) < (128 : Int32)
      ·
        refine g_icmpT X15 d40_36 (XT.ii_lt_t ha) ?_
        refine g_aload X15 d40_42 rfl rfl ?_
        refine g_iloadN X15 d40_44 rfl ?_
        refine g_iinc X15 #[.val (.ref t), .val (.int (1 : Int32)), .val (.int (Int32.ofNat (P ++ [(lo8 cs[i])]).length)), .val (.int (Int32.ofNat i)), .val (.int (Int32.ofNat cs.length)), .val (.ref b1), .val (.int (cs[i])), .unset, .unset] d40_45 rfl ((k_inc _).trans (congrArg Int32.ofNat (by simp))) rfl ?_
        refine g_iload X15 d40_48 rfl ?_
        refine g_i2b X15 (lo8 cs[i]) d40_50 rfl ?_
        refine g_bastore X15 d40_51 A P.length rfl (lo8 cs[i]) (nar_b8 _) (by simp; omega) nb1 zl1 (Or.inr fr1) fun T16 h16 X16 K16 A16 => ?_
        have z16 := K16.1
        rw [k_put (by first | omega | (simp; omega))] at A16
        refine g_iinc X16 #[.val (.ref t), .val (.int (1 : Int32)), .val (.int (Int32.ofNat (P ++ [(lo8 cs[i])]).length)), .val (.int (Int32.ofNat (i + 1))), .val (.int (Int32.ofNat cs.length)), .val (.ref b1), .val (.int (cs[i])), .unset, .unset] d40_52 rfl (k_inc i) rfl ?_
        refine g_goto X16 d40_55 ?_
        have A17 := (At.keep K16 (ninS (k_neN (by omega)) nin0))
        exact ih (i + 1) (by omega) _ (by rw [n8_take hil, ← eP, n8, if_pos ha]) (.val (.int cs[i])) (Or.inr ⟨_, rfl⟩) T16 h16 X16 A17 A16
      ·
        refine g_icmpF X15 d40_36 (XT.ii_lt_f ha) ?_
        refine g_goto X15 d40_39 ?_
        exact loop2 (d + 1) i hi P eP (.val (.int cs[i])) (Or.inr ⟨_, rfl⟩) T15 h X15 At A
  exact loop1 cs.length 0 (by omega) [] (by simp) .unset (Or.inl rfl) T1 h1 X1 A2 (by simpa using Ab0)
set_option maxRecDepth 65536 in
set_option maxHeartbeats 40000000 in
theorem c_encUU {nw : Bool} {l : Launch} {Z : State} {EL : List (String × Nat)} {a0 : Array Value} (hw : HW Z a0) (hs : Sts Z) {h0 : Heap} {B0 : BP} (t : Addr) (cs : List Int32) (A : Ay Z h0 t .byte ((u16 cs).map Value.int)) (hcap : cs.length ≤ 4) (hc16 : ∀ c ∈ cs, C16 c) (hns : ∀ c ∈ cs, NS c) :
    Con nw l Z EL (⟨"java/lang/String", "encodeUTF8", "(B[BZ)[B"⟩ : MethodName) jdk_42_method_46_code 9 (some (.array .byte)) [] ({ frames := 3, cells := 2, slots := 44, locals := 52 } : Room) #[(.int (1 : Int32)), (.ref t), (.int (1 : Int32))] h0 B0 [] (fun v h B => ∃ r, v = some (.ref r) ∧ B0 = B ∧ h0.size ≤ r ∧ ¬ B r ∧ Ay Z h r .byte ((cs.flatMap n8).map Value.int)) := by
  refine k_intro (Ls := #[.val (.int (1 : Int32)), .val (.ref t), .val (.int (1 : Int32)), .unset, .unset, .unset, .unset, .unset, .unset]) (by decide +kernel) rfl fun x T0 X0 => ?_
  refine g_iloadN X0 d24_0 rfl ?_
  refine g_iconst X0 (1 : Int32) d24_1 (by decide) ?_
  refine g_icmpF X0 d24_2 (by decide) ?_
  refine g_aloadN X0 d24_5 rfl rfl ?_
  refine g_iloadN X0 d24_6 rfl ?_
  refine g_callS X0 d24_7 (w284 hw) (w285 hw) (w59 hw) (w286 hw) (by decide) pd31 [(.ref t), (.int (1 : Int32))] [] 0 (c_encU16 hw hs t cs A hcap hc16 hns) rfl rfl rfl (Nat.le_of_eq rfl) (by decide) (by decide) 2 44 rfl rfl (by decide) (by decide) (fun _ q => nomatch q) fun v1 T1 h1 B1 X1 K1 M1 q1 => ?_
  obtain ⟨r, rfl, rfl, R⟩ := q1
  have z1 := K1.1
  show Go x (T1.setTop (mkF x.m 10 #[.val (.int (1 : Int32)), .val (.ref t), .val (.int (1 : Int32)), .unset, .unset, .unset, .unset, .unset, .unset] [(.ref r)]))
  exact g_areturn X1 d24_10 rfl rfl rfl (by decide) (by decide) ⟨r, rfl, rfl, R⟩
set_option maxRecDepth 65536 in
set_option maxHeartbeats 40000000 in
theorem c_encodeU {nw : Bool} {l : Launch} {Z : State} {EL : List (String × Nat)} {a0 : Array Value} (hw : HW Z a0) (hs : Sts Z) {h0 : Heap} {B0 : BP} (u t : Addr) (cs : List Int32) (sU : Sta Z Z.heap "sun/nio/cs/UTF_8" "INSTANCE" "Lsun/nio/cs/UTF_8;" (.ref u)) (A : Ay Z h0 t .byte ((u16 cs).map Value.int)) (hcap : cs.length ≤ 4) (hc16 : ∀ c ∈ cs, C16 c) (hns : ∀ c ∈ cs, NS c) :
    Con nw l Z EL (⟨"java/lang/String", "encode", "(Ljava/nio/charset/Charset;B[B)[B"⟩ : MethodName) jdk_42_method_18_code 3 (some (.array .byte)) [] ({ frames := 4, cells := 2, slots := 44, locals := 72 } : Room) #[(.ref u), (.int (1 : Int32)), (.ref t)] h0 B0 [] (fun v h B => ∃ r, v = some (.ref r) ∧ B0 = B ∧ h0.size ≤ r ∧ ¬ B r ∧ Ay Z h r .byte ((cs.flatMap n8).map Value.int)) := by
  refine k_intro (Ls := #[.val (.ref u), .val (.int (1 : Int32)), .val (.ref t)]) (by decide +kernel) rfl fun x T0 X0 => ?_
  refine g_aloadN X0 d25_0 rfl rfl ?_
  refine g_getstatic X0 d25_1 (w189 hw) Via.refl sU fun T1 X1 => ?_
  refine g_acmpF X1 d25_4 rfl rfl (XT.aa_ne_f rfl) ?_
  refine g_iloadN X1 d25_7 rfl ?_
  refine g_aloadN X1 d25_8 rfl rfl ?_
  refine g_iconst X1 (1 : Int32) d25_9 (by decide) ?_
  refine g_callS X1 d25_10 (w191 hw) (w192 hw) (w59 hw) (w193 hw) (by decide) pd19 [(.int (1 : Int32)), (.ref t), (.int (1 : Int32))] [] 0 (c_encUU hw hs t cs A hcap hc16 hns) rfl rfl rfl (Nat.le_of_eq rfl) (by decide) (by decide) 2 44 rfl rfl (by decide) (by decide) (fun _ q => nomatch q) fun v2 T2 h2 B2 X2 K2 M2 q2 => ?_
  obtain ⟨r, rfl, rfl, R⟩ := q2
  have z2 := K2.1
  show Go x (T2.setTop (mkF x.m 13 #[.val (.ref u), .val (.int (1 : Int32)), .val (.ref t)] [(.ref r)]))
  exact g_areturn X2 d25_13 rfl rfl rfl (by decide) (by decide) ⟨r, rfl, rfl, R⟩
set_option maxRecDepth 65536 in
set_option maxHeartbeats 40000000 in
theorem c_getBytesU {nw : Bool} {l : Launch} {Z : State} {EL : List (String × Nat)} {a0 : Array Value} (hw : HW Z a0) (hs : Sts Z) {h0 : Heap} {B0 : BP} (a ta u : Addr) (cs : List Int32) (sU : Sta Z Z.heap "sun/nio/cs/UTF_8" "INSTANCE" "Lsun/nio/cs/UTF_8;" (.ref u)) (E_a : Exa Z h0 a "java/lang/String") (Fa_c : Fld Z h0 a "java/lang/String" "coder" "B" (.int 1)) (Fa_v : Fld Z h0 a "java/lang/String" "value" "[B" (.ref ta)) (A_ta : Ay Z h0 ta .byte ((u16 cs).map Value.int)) (hcap : cs.length ≤ 4) (hc16 : ∀ c ∈ cs, C16 c) (hns : ∀ c ∈ cs, NS c) :
    Con nw l Z EL (⟨"java/lang/String", "getBytes", "(Ljava/nio/charset/Charset;)[B"⟩ : MethodName) jdk_42_method_64_code 2 (some (.array .byte)) [] ({ frames := 5, cells := 2, slots := 44, locals := 86 } : Room) #[(.ref a), (.ref u)] h0 B0 [] (fun v h B => ∃ r, v = some (.ref r) ∧ B0 = B ∧ h0.size ≤ r ∧ ¬ B r ∧ Ay Z h r .byte ((cs.flatMap n8).map Value.int)) := by
  refine k_intro (Ls := #[.val (.ref a), .val (.ref u)]) (by decide +kernel) rfl fun x T0 X0 => ?_
  have lt_a := k_ltE E_a; have lt_ta := A_ta.lt
  refine g_aloadN X0 d26_0 rfl rfl ?_
  refine g_ifnonnullT X0 d26_1 ?_
  refine g_aloadN X0 d26_12 rfl rfl ?_
  refine g_aloadN X0 d26_13 rfl rfl ?_
  refine g_callVp X0 d26_14 (w109 hw) (w110 hw) (w112 hw) (w111 hw) (w59 hw) (w113 hw) (by decide) pd0 a [] [(.ref u)] 1 E_a (c_coder hw hs a 1 (u16 cs) (Or.inr rfl) ⟨ta, E_a, Fa_c, Fa_v, A_ta⟩) rfl rfl rfl (Nat.le_of_eq rfl) (by decide) (by decide) 0 0 rfl rfl (by decide) (by decide) fun T1 X1 => ?_
  refine g_aloadN X1 d26_17 rfl rfl ?_
  refine g_getfield X1 d26_18 (w108 hw) Via.refl Fa_v fun T2 X2 => ?_
  refine g_callS X2 d26_21 (w186 hw) (w187 hw) (w59 hw) (w188 hw) (by decide) pd20 [(.ref u), (.int (1 : Int32)), (.ref ta)] [] 0 (c_encodeU hw hs u ta cs sU A_ta hcap hc16 hns) rfl rfl rfl (Nat.le_of_eq rfl) (by decide) (by decide) 2 44 rfl rfl (by decide) (by decide) (fun _ q => nomatch q) fun v3 T3 h3 B3 X3 K3 M3 q3 => ?_
  obtain ⟨r, rfl, rfl, R⟩ := q3
  have z3 := K3.1
  show Go x (T3.setTop (mkF x.m 24 #[.val (.ref a), .val (.ref u)] [(.ref r)]))
  exact g_areturn X3 d26_24 rfl rfl rfl (by decide) (by decide) ⟨r, rfl, rfl, R⟩
set_option maxRecDepth 65536 in
set_option maxHeartbeats 40000000 in
theorem c_compress5 {nw : Bool} {l : Launch} {Z : State} {EL : List (String × Nat)} {a0 : Array Value} (hw : HW Z a0) (hs : Sts Z) {h0 : Heap} {B0 : BP} (a1 a2 : Addr) (cs : List Int32) (Aa : Ay Z h0 a1 .char (cs.map Value.int)) (Ab : Ay Z h0 a2 .byte (List.replicate cs.length (.int 0))) (ne : @Ne Nat a1 a2) (nb : ¬ B0 a2) (zl : Z.heap.size ≤ a2) :
    Con nw l Z EL (⟨"java/lang/StringUTF16", "compress", "([CI[BII)I"⟩ : MethodName) jdk_52_method_21_code 7 (some .int) [] ({ frames := 0, cells := 0, slots := 0, locals := 0 } : Room) #[(.ref a1), (.int (0 : Int32)), (.ref a2), (.int (0 : Int32)), (.int (Int32.ofNat cs.length))] h0 B0 [a2] (fun v h B => ∃ i, i ≤ cs.length ∧ v = some (.int (Int32.ofNat i)) ∧ B0 = B ∧ (∀ c ∈ cs.take i, ¬ 255 < c) ∧ (∀ hi : i < cs.length, 255 < cs[i]) ∧ Ay Z h a2 .byte ((cs.take i).map (fun c => Value.int (lo8 c)) ++ List.replicate (cs.length - i) (.int 0))) := by
  refine k_intro (Ls := #[.val (.ref a1), .val (.int (0 : Int32)), .val (.ref a2), .val (.int (0 : Int32)), .val (.int (Int32.ofNat cs.length)), .unset, .unset]) (by decide +kernel) rfl fun x T0 X0 => ?_
  have hlen : cs.length < 2 ^ 31 := by simpa using Aa.len
  refine g_iconst X0 (0 : Int32) d41_0 (by decide) ?_
  refine g_istore X0 #[.val (.ref a1), .val (.int (0 : Int32)), .val (.ref a2), .val (.int (0 : Int32)), .val (.int (Int32.ofNat cs.length)), .val (.int (0 : Int32)), .unset] d41_1 rfl ?_
  have loop : ∀ (d i : Nat) (hi : i + d = cs.length) (s6 : Slot) (h6 : LS s6) (T : State) (h : Heap) (X : Wk nw l Z EL "java/lang/StringUTF16" jdk_52_method_21_code 7 (some .int) "compress" ({ frames := 0, cells := 0, slots := 0, locals := 0 } : Room) h0 B0 [a2] (fun v h B => ∃ i, i ≤ cs.length ∧ v = some (.int (Int32.ofNat i)) ∧ B0 = B ∧ (∀ c ∈ cs.take i, ¬ 255 < c) ∧ (∀ hi : i < cs.length, 255 < cs[i]) ∧ Ay Z h a2 .byte ((cs.take i).map (fun c => Value.int (lo8 c)) ++ List.replicate (cs.length - i) (.int 0))) x T h B0 0 0) (hlo : ∀ c ∈ cs.take i, ¬ 255 < c) (A : Ay Z h a2 .byte ((cs.take i).map (fun c => Value.int (lo8 c)) ++ List.replicate (cs.length - i) (.int 0))), Go x (T.setTop (mkF x.m 3 #[.val (.ref a1), .val (.int (Int32.ofNat i)), .val (.ref a2), .val (.int (Int32.ofNat i)), .val (.int (Int32.ofNat cs.length)), .val (.int (Int32.ofNat i)), s6] [])) := by
    intro d
    induction d with
    | zero =>
      intro i hi s6 h6 T h X hlo A
      obtain rfl : i = cs.length := by omega
      refine g_iload X d41_3 rfl ?_
      refine g_iload X d41_5 rfl ?_
      refine g_icmpT X d41_7 (XT.ii_ge_t (k_nlt (Nat.le_refl _) hlen)) ?_
      refine g_iload X d41_44 rfl ?_
      exact g_ireturnI X d41_46 (by decide) (by decide) ⟨cs.length, Nat.le_refl _, rfl, rfl, hlo, fun hi => absurd hi (Nat.lt_irrefl _), A⟩
    | succ d ih =>
      intro i hi s6 h6 T h X hlo A
      have hil : i < cs.length := by omega
      refine g_iload X d41_3 rfl ?_
      refine g_iload X d41_5 rfl ?_
      refine g_icmpF X d41_7 (XT.ii_ge_f (k_lt hil hlen)) ?_
      refine g_aloadN X d41_10 rfl rfl ?_
      refine g_iloadN X d41_11 rfl ?_
      have Aa' := Aa.keep X.kept (ninS ne nin0)
      refine g_caload X d41_12 Aa' i rfl (v := .int cs[i]) (by simp [hil]) ?_
      refine g_istore X #[.val (.ref a1), .val (.int (Int32.ofNat i)), .val (.ref a2), .val (.int (Int32.ofNat i)), .val (.int (Int32.ofNat cs.length)), .val (.int (Int32.ofNat i)), .val (.int (cs[i]))] d41_13 (by rcases h6 with rfl | ⟨u, rfl⟩ <;> rfl) ?_
      refine g_iload X d41_15 rfl ?_
      refine g_sipush X (255 : Int32) d41_17 (by decide) ?_
      by_cases hb : (255 : Int32) < (cs[i])
      ·
        refine g_icmpF X d41_20 (XT.ii_le_f hb) ?_
        refine g_iload X d41_23 rfl ?_
        exact g_ireturnI X d41_25 (by decide) (by decide) ⟨i, Nat.le_of_lt hil, rfl, rfl, hlo, fun _ => hb, A⟩
      ·
        refine g_icmpT X d41_20 (XT.ii_le_t hb) ?_
        refine g_aloadN X d41_26 rfl rfl ?_
        refine g_iloadN X d41_27 rfl ?_
        refine g_iload X d41_28 rfl ?_
        refine g_i2b X (lo8 cs[i]) d41_30 rfl ?_
        refine g_bastore X d41_31 A i rfl (lo8 cs[i]) (nar_b8 _) (by simp; omega) nb zl (Or.inl (List.mem_of_getElem? (i := 0) rfl)) fun T1 h1 X1 K1 A1 => ?_
        have z1 := K1.1
        rw [k_fill cs lo8 i hil] at A1
        refine g_iinc X1 #[.val (.ref a1), .val (.int (Int32.ofNat (i + 1))), .val (.ref a2), .val (.int (Int32.ofNat i)), .val (.int (Int32.ofNat cs.length)), .val (.int (Int32.ofNat i)), .val (.int (cs[i]))] d41_32 rfl (k_inc i) rfl ?_
        refine g_iinc X1 #[.val (.ref a1), .val (.int (Int32.ofNat (i + 1))), .val (.ref a2), .val (.int (Int32.ofNat (i + 1))), .val (.int (Int32.ofNat cs.length)), .val (.int (Int32.ofNat i)), .val (.int (cs[i]))] d41_35 rfl (k_inc i) rfl ?_
        refine g_iinc X1 #[.val (.ref a1), .val (.int (Int32.ofNat (i + 1))), .val (.ref a2), .val (.int (Int32.ofNat (i + 1))), .val (.int (Int32.ofNat cs.length)), .val (.int (Int32.ofNat (i + 1))), .val (.int (cs[i]))] d41_38 rfl (k_inc i) rfl ?_
        refine g_goto X1 d41_41 ?_
        refine ih (i + 1) (by omega) (.val (.int cs[i])) (Or.inr ⟨_, rfl⟩) T1 h1 X1 ?_ A1
        intro c hc
        rw [List.take_succ_eq_append_getElem hil] at hc
        rcases List.mem_append.mp hc with q | q
        · exact hlo c q
        · rw [List.mem_singleton.mp q]; exact hb
  exact loop cs.length 0 (by omega) .unset (Or.inl rfl) T0 h0 X0 (fun c q => by simp at q) (by simpa using Ab)
set_option maxRecDepth 65536 in
set_option maxHeartbeats 40000000 in
theorem c_nbf {nw : Bool} {l : Launch} {Z : State} {EL : List (String × Nat)} {a0 : Array Value} (hw : HW Z a0) (hs : Sts Z) {h0 : Heap} {B0 : BP} (m : Nat) (hm : m ≤ 3) :
    Con nw l Z EL (⟨"java/lang/StringUTF16", "newBytesFor", "(I)[B"⟩ : MethodName) jdk_52_method_2_code 1 (some (.array .byte)) [] ({ frames := 1, cells := 1, slots := 6, locals := 12 } : Room) #[(.int (Int32.ofNat m))] h0 B0 [] (fun v h B => ∃ t, v = some (.ref t) ∧ B0 = B ∧ h0.size ≤ t ∧ ¬ B t ∧ Ay Z h t .byte (List.replicate (2 * m) (.int 0))) := by
  refine k_intro (Ls := #[.val (.int (Int32.ofNat m))]) (by decide +kernel) rfl fun x T0 X0 => ?_
  refine g_iloadN X0 d22_0 rfl ?_
  refine g_callSp X0 d22_1 (w238 hw) (w239 hw) (w227 hw) (w240 hw) (by decide) pd15 [(.int (Int32.ofNat m))] [] 0 (c_nbl hw hs m (by omega)) rfl rfl rfl (Nat.le_of_eq rfl) (by decide) (by decide) 0 0 rfl rfl (by decide) (by decide) fun T1 X1 => ?_
  refine g_newarray X1 d22_4 rfl (w6 hw) (2 * m) 6 rfl (by omega) (by decide) 1 6 rfl rfl (by decide) (by decide) fun T2 h2 b2 X2 E2 eb2 nb2 A2 => ?_
  have z2 := E2.1; have lt2 : @LT.lt Nat _ b2 h2.size := A2.lt; have zl2 : @LE.le Nat _ Z.heap.size b2 := eb2 ▸ X1.szZ; have fr2 : @LE.le Nat _ h0.size b2 := eb2 ▸ X1.sz
  exact g_areturn X2 d22_6 rfl rfl rfl (by decide) (by decide) ⟨_, rfl, rfl, fr2, nb2, A2⟩
set_option maxRecDepth 65536 in
set_option maxHeartbeats 40000000 in
theorem c_toBytes16 {nw : Bool} {l : Launch} {Z : State} {EL : List (String × Nat)} {a0 : Array Value} (hw : HW Z a0) (hs : Sts Z) {h0 : Heap} {B0 : BP} (a1 : Addr) (cs : List Int32) (Aa : Ay Z h0 a1 .char (cs.map Value.int)) (hcap : cs.length ≤ 3) :
    Con nw l Z EL (⟨"java/lang/StringUTF16", "toBytes", "([CII)[B"⟩ : MethodName) jdk_52_method_14_code 5 (some (.array .byte)) [] ({ frames := 2, cells := 1, slots := 6, locals := 24 } : Room) #[(.ref a1), (.int (0 : Int32)), (.int (Int32.ofNat cs.length))] h0 B0 [] (fun v h B => ∃ t, v = some (.ref t) ∧ B0 = B ∧ h0.size ≤ t ∧ ¬ B t ∧ Ay Z h t .byte ((u16 cs).map Value.int)) := by
  refine k_intro (Ls := #[.val (.ref a1), .val (.int (0 : Int32)), .val (.int (Int32.ofNat cs.length)), .unset, .unset]) (by decide +kernel) rfl fun x T0 X0 => ?_
  have hlen : cs.length < 2 ^ 31 := by omega
  have lt_a1 := Aa.lt
  refine g_iloadN X0 d42_0 rfl ?_
  refine g_callS X0 d42_1 (w235 hw) (w236 hw) (w227 hw) (w237 hw) (by decide) pd17 [(.int (Int32.ofNat cs.length))] [] 0 (c_nbf hw hs cs.length hcap) rfl rfl rfl (Nat.le_of_eq rfl) (by decide) (by decide) 1 6 rfl rfl (by decide) (by decide) (fun _ q => nomatch q) fun v1 T1 h1 B1 X1 K1 M1 q1 => ?_
  obtain ⟨t, rfl, rfl, ft, nbt, At⟩ := q1
  have z1 := K1.1
  show Go x (T1.setTop (mkF x.m 4 #[.val (.ref a1), .val (.int (0 : Int32)), .val (.int (Int32.ofNat cs.length)), .unset, .unset] [(.ref t)]))
  have ltt := At.lt
  have zlt : Z.heap.size ≤ t := Nat.le_trans X0.szZ ft
  refine g_astoreN X1 #[.val (.ref a1), .val (.int (0 : Int32)), .val (.int (Int32.ofNat cs.length)), .val (.ref t), .unset] d42_4 rfl rfl ?_
  refine g_iconst X1 (0 : Int32) d42_5 (by decide) ?_
  refine g_istore X1 #[.val (.ref a1), .val (.int (0 : Int32)), .val (.int (Int32.ofNat cs.length)), .val (.ref t), .val (.int (0 : Int32))] d42_6 rfl ?_
  have loop : ∀ (d i : Nat) (hi : i + d = cs.length) (T : State) (h : Heap) (X : Wk nw l Z EL "java/lang/StringUTF16" jdk_52_method_14_code 5 (some (.array .byte)) "toBytes" ({ frames := 2, cells := 1, slots := 6, locals := 24 } : Room) h0 B0 [] (fun v h B => ∃ t, v = some (.ref t) ∧ B0 = B ∧ h0.size ≤ t ∧ ¬ B t ∧ Ay Z h t .byte ((u16 cs).map Value.int)) x T h B0 1 6) (A : Ay Z h t .byte ((u16 (cs.take i)).map Value.int ++ List.replicate (2 * (cs.length - i)) (.int 0))), Go x (T.setTop (mkF x.m 8 #[.val (.ref a1), .val (.int (Int32.ofNat i)), .val (.int (Int32.ofNat cs.length)), .val (.ref t), .val (.int (Int32.ofNat i))] [])) := by
    intro d
    induction d with
    | zero =>
      intro i hi T h X A
      obtain rfl : i = cs.length := by omega
      refine g_iload X d42_8 rfl ?_
      refine g_iloadN X d42_10 rfl ?_
      refine g_icmpT X d42_11 (XT.ii_ge_t (k_nlt (Nat.le_refl _) hlen)) ?_
      refine g_aloadN X d42_32 rfl rfl ?_
      exact g_areturn X d42_33 rfl rfl rfl (by decide) (by decide) ⟨_, rfl, rfl, ft, nbt, by simpa using A⟩
    | succ d ih =>
      intro i hi T h X A
      have hil : i < cs.length := by omega
      have hAl : ((u16 (cs.take i)).map Value.int ++ List.replicate (2 * (cs.length - i)) (Value.int 0)).length = 2 * cs.length := by simp [u16_len]; omega
      refine g_iload X d42_8 rfl ?_
      refine g_iloadN X d42_10 rfl ?_
      refine g_icmpF X d42_11 (XT.ii_ge_f (k_lt hil hlen)) ?_
      refine g_aloadN X d42_14 rfl rfl ?_
      refine g_iload X d42_15 rfl ?_
      refine g_aloadN X d42_17 rfl rfl ?_
      refine g_iloadN X d42_18 rfl ?_
      have Aa' := Aa.keep X.kept nin0
      refine g_caload X d42_19 Aa' i rfl (v := .int cs[i]) (by simp [hil]) ?_
      refine g_callS X d42_20 (w242 hw) (w243 hw) (w227 hw) (w244 hw) (by decide) pd27 [(.ref t), (.int (Int32.ofNat i)), (.int (cs[i]))] [] 0 (c_putChar hw hs t i cs[i] _ A (by omega) nbt zlt) rfl rfl rfl (Nat.le_of_eq rfl) (by decide) (by decide) 1 6 rfl rfl (by decide) (by decide) (k_ws1 ⟨nbt, zlt, (Or.inr ft)⟩) fun v2 T2 h2 B2 X2 K2 M2 q2 => ?_
      obtain ⟨rfl, rfl, A2⟩ := q2
      have z2 := K2.1
      show Go x (T2.setTop (mkF x.m 23 #[.val (.ref a1), .val (.int (Int32.ofNat i)), .val (.int (Int32.ofNat cs.length)), .val (.ref t), .val (.int (Int32.ofNat i))] []))
      rw [k_fill16 cs i hil] at A2
      refine g_iinc X2 #[.val (.ref a1), .val (.int (Int32.ofNat (i + 1))), .val (.int (Int32.ofNat cs.length)), .val (.ref t), .val (.int (Int32.ofNat i))] d42_23 rfl (k_inc i) rfl ?_
      refine g_iinc X2 #[.val (.ref a1), .val (.int (Int32.ofNat (i + 1))), .val (.int (Int32.ofNat cs.length)), .val (.ref t), .val (.int (Int32.ofNat (i + 1)))] d42_26 rfl (k_inc i) rfl ?_
      refine g_goto X2 d42_29 ?_
      exact ih (i + 1) (by omega) T2 h2 X2 A2
  exact loop cs.length 0 (by omega) T1 h1 X1 (by simpa [u16_nil] using At)
set_option maxRecDepth 65536 in
set_option maxHeartbeats 40000000 in
theorem c_compress3 {nw : Bool} {l : Launch} {Z : State} {EL : List (String × Nat)} {a0 : Array Value} (hw : HW Z a0) (hs : Sts Z) {h0 : Heap} {B0 : BP} (a1 : Addr) (cs : List Int32) (Aa : Ay Z h0 a1 .char (cs.map Value.int)) (h16 : ∀ c ∈ cs, C16 c) (hcap : cs.length ≤ 3) :
    Con nw l Z EL (⟨"java/lang/StringUTF16", "compress", "([CII)[B"⟩ : MethodName) jdk_52_method_16_code 6 (some (.array .byte)) [] ({ frames := 3, cells := 2, slots := 9, locals := 40 } : Room) #[(.ref a1), (.int (0 : Int32)), (.int (Int32.ofNat cs.length))] h0 B0 [] (fun v h B => ∃ t, v = some (.ref t) ∧ B0 = B ∧ h0.size ≤ t ∧ (((∀ c ∈ cs, ¬ 255 < c) ∧ Ay Z h t .byte ((cs.map lo8).map Value.int)) ∨ Ay Z h t .byte ((u16 cs).map Value.int))) := by
  refine k_intro (Ls := #[.val (.ref a1), .val (.int (0 : Int32)), .val (.int (Int32.ofNat cs.length)), .unset, .unset, .unset]) (by decide +kernel) rfl fun x T0 X0 => ?_
  have hlen : cs.length < 2 ^ 31 := by omega
  have lt_a1 := Aa.lt
  refine g_iloadN X0 d43_0 rfl ?_
  refine g_newarray X0 d43_1 rfl (w6 hw) cs.length 3 rfl hcap (by decide) 1 3 rfl rfl (by decide) (by decide) fun T1 h1 b1 X1 E1 eb1 nb1 A1 => ?_
  have z1 := E1.1; have lt1 : @LT.lt Nat _ b1 h1.size := A1.lt; have zl1 : @LE.le Nat _ Z.heap.size b1 := eb1 ▸ X0.szZ; have fr1 : @LE.le Nat _ h0.size b1 := eb1 ▸ X0.sz
  refine g_astoreN X1 #[.val (.ref a1), .val (.int (0 : Int32)), .val (.int (Int32.ofNat cs.length)), .val (.ref b1), .unset, .unset] d43_3 rfl rfl ?_
  refine g_aloadN X1 d43_4 rfl rfl ?_
  refine g_iloadN X1 d43_5 rfl ?_
  refine g_aloadN X1 d43_6 rfl rfl ?_
  refine g_iconst X1 (0 : Int32) d43_7 (by decide) ?_
  refine g_iloadN X1 d43_8 rfl ?_
  have A2 := (Aa.ext E1)
  refine g_callS X1 d43_9 (w229 hw) (w230 hw) (w227 hw) (w231 hw) (by decide) pd32 [(.ref a1), (.int (0 : Int32)), (.ref b1), (.int (0 : Int32)), (.int (Int32.ofNat cs.length))] [] 0 (c_compress5 hw hs a1 b1 cs A2 A1 (k_neN (by omega)) nb1 zl1) rfl rfl rfl (Nat.le_of_eq rfl) (by decide) (by decide) 1 3 rfl rfl (by decide) (by decide) (k_ws1 ⟨nb1, zl1, (Or.inr fr1)⟩) fun v3 T3 h3 B3 X3 K3 M3 q3 => ?_
  obtain ⟨i, hi, rfl, rfl, hlo, hhi, At⟩ := q3
  have z3 := K3.1
  show Go x (T3.setTop (mkF x.m 12 #[.val (.ref a1), .val (.int (0 : Int32)), .val (.int (Int32.ofNat cs.length)), .val (.ref b1), .unset, .unset] [(.int (Int32.ofNat i))]))
  refine g_istore X3 #[.val (.ref a1), .val (.int (0 : Int32)), .val (.int (Int32.ofNat cs.length)), .val (.ref b1), .val (.int (Int32.ofNat i)), .unset] d43_12 rfl ?_
  refine g_iload X3 d43_14 rfl ?_
  refine g_iloadN X3 d43_16 rfl ?_
  by_cases hii : (Int32.ofNat i) = (Int32.ofNat cs.length)
  ·
    refine g_icmpT X3 d43_17 (XT.ii_eq_t hii) ?_
    obtain rfl : i = cs.length := (k_eqn (by omega) hlen).mp hii
    refine g_aloadN X3 d43_57 rfl rfl ?_
    exact g_areturn X3 d43_58 rfl rfl rfl (by decide) (by decide) ⟨_, rfl, rfl, fr1, Or.inl ⟨by simpa using hlo, by simp at At; rw [List.map_map]; exact At⟩⟩
  ·
    refine g_icmpF X3 d43_17 (XT.ii_eq_f hii) ?_
    have hil : i < cs.length := by
      rcases Nat.lt_or_ge i cs.length with r | r
      · exact r
      · exact absurd (by rw [show i = cs.length by omega]) hii
    refine g_aloadN X3 d43_20 rfl rfl ?_
    refine g_iloadN X3 d43_21 rfl ?_
    refine g_iloadN X3 d43_22 rfl ?_
    have A4 := (A2.keep K3 (ninS (k_neN (by omega)) nin0))
    refine g_callS X3 d43_23 (w232 hw) (w233 hw) (w227 hw) (w234 hw) (by decide) pd33 [(.ref a1), (.int (0 : Int32)), (.int (Int32.ofNat cs.length))] [] 0 (c_toBytes16 hw hs a1 cs A4 hcap) rfl rfl rfl (Nat.le_of_eq rfl) (by decide) (by decide) 2 9 rfl rfl (by decide) (by decide) (fun _ q => nomatch q) fun v5 T5 h5 B5 X5 K5 M5 q5 => ?_
    obtain ⟨t, rfl, rfl, ft, nbt, Bt⟩ := q5
    have z5 := K5.1
    show Go x (T5.setTop (mkF x.m 26 #[.val (.ref a1), .val (.int (0 : Int32)), .val (.int (Int32.ofNat cs.length)), .val (.ref b1), .val (.int (Int32.ofNat i)), .unset] [(.ref t)]))
    refine g_astore X5 #[.val (.ref a1), .val (.int (0 : Int32)), .val (.int (Int32.ofNat cs.length)), .val (.ref b1), .val (.int (Int32.ofNat i)), .val (.ref t)] d43_26 rfl rfl ?_
    refine g_aload X5 d43_28 rfl rfl ?_
    refine g_iload X5 d43_30 rfl ?_
    refine g_callSp X5 d43_32 (w248 hw) (w249 hw) (w227 hw) (w250 hw) (by decide) pd29 [(.ref t), (.int (Int32.ofNat i))] [] 0 (c_getChar hw hs t i cs Bt hil (h16 _ (List.getElem_mem hil))) rfl rfl rfl (Nat.le_of_eq rfl) (by decide) (by decide) 2 9 rfl rfl (by decide) (by decide) fun T6 X6 => ?_
    refine g_sipush X6 (255 : Int32) d43_35 (by decide) ?_
    refine g_icmpT X6 d43_38 (XT.ii_gt_t (hhi hil)) ?_
    refine g_aload X6 d43_54 rfl rfl ?_
    exact g_areturn X6 d43_56 rfl rfl rfl (by decide) (by decide) ⟨_, rfl, rfl, by omega, Or.inr Bt⟩
set_option maxRecDepth 65536 in
set_option maxHeartbeats 40000000 in
theorem c_coderL {nw : Bool} {l : Launch} {Z : State} {EL : List (String × Nat)} {a0 : Array Value} (hw : HW Z a0) (hs : Sts Z) {h0 : Heap} {B0 : BP} (t : Addr) (vs : List Value) (A : Ay Z h0 t .byte vs) :
    Con nw l Z EL (⟨"java/lang/StringUTF16", "coderFromArrayLen", "([BI)B"⟩ : MethodName) jdk_52_method_15_code 2 (some .byte) [] ({ frames := 0, cells := 0, slots := 0, locals := 0 } : Room) #[(.ref t), (.int (Int32.ofNat vs.length))] h0 B0 [] (PQ (some (.int (0 : Int32))) h0 B0) := by
  refine k_intro (Ls := #[.val (.ref t), .val (.int (Int32.ofNat vs.length))]) (by decide +kernel) rfl fun x T0 X0 => ?_
  refine g_iloadN X0 d44_0 rfl ?_
  refine g_aloadN X0 d44_1 rfl rfl ?_
  refine g_arraylength X0 d44_2 A _ rfl ?_
  refine g_isub X0 (0 : Int32) d44_3 (by simp) ?_
  refine g_bipush X0 (31 : Int32) d44_4 (by decide) ?_
  refine g_iushr X0 (0 : Int32) d44_6 (by decide) ?_
  refine g_i2b X0 (0 : Int32) d44_7 (by decide) ?_
  exact g_ireturn (w' := (0 : Int32)) X0 d44_8 (Or.inr (Or.inl rfl)) (by decide) (by decide) (by decide) ⟨rfl, rfl, rfl⟩
set_option maxRecDepth 65536 in
set_option maxHeartbeats 40000000 in
theorem c_coderU {nw : Bool} {l : Launch} {Z : State} {EL : List (String × Nat)} {a0 : Array Value} (hw : HW Z a0) (hs : Sts Z) {h0 : Heap} {B0 : BP} (t : Addr) (m : Nat) (vs : List Value) (A : Ay Z h0 t .byte vs) (hm : vs.length = 2 * m) (hp : 0 < m) (hm' : m < 1000) :
    Con nw l Z EL (⟨"java/lang/StringUTF16", "coderFromArrayLen", "([BI)B"⟩ : MethodName) jdk_52_method_15_code 2 (some .byte) [] ({ frames := 0, cells := 0, slots := 0, locals := 0 } : Room) #[(.ref t), (.int (Int32.ofNat m))] h0 B0 [] (PQ (some (.int (1 : Int32))) h0 B0) := by
  refine k_intro (Ls := #[.val (.ref t), .val (.int (Int32.ofNat m))]) (by decide +kernel) rfl fun x T0 X0 => ?_
  refine g_iloadN X0 d44_0 rfl ?_
  refine g_aloadN X0 d44_1 rfl rfl ?_
  refine g_arraylength X0 d44_2 A (Int32.ofNat (2 * m)) (by rw [hm]) ?_
  refine g_isub X0 ((Int32.ofNat m) - (Int32.ofNat (2 * m))) d44_3 rfl ?_
  refine g_bipush X0 (31 : Int32) d44_4 (by decide) ?_
  refine g_iushr X0 (1 : Int32) d44_6 (k_sign hp hm') ?_
  refine g_i2b X0 (1 : Int32) d44_7 (by decide) ?_
  exact g_ireturn (w' := (1 : Int32)) X0 d44_8 (Or.inr (Or.inl rfl)) (by decide) (by decide) (by decide) ⟨rfl, rfl, rfl⟩
set_option maxRecDepth 65536 in
set_option maxHeartbeats 40000000 in
theorem c_initCII {nw : Bool} {l : Launch} {Z : State} {EL : List (String × Nat)} {a0 : Array Value} (hw : HW Z a0) (hs : Sts Z) {h0 : Heap} {B0 : BP} (a a1 : Addr) (cs : List Int32) (E_a : Exa Z h0 a "java/lang/String") {u_value : Value} (F_value : Fld Z h0 a "java/lang/String" "value" "[B" u_value) {u_coder : Value} (F_coder : Fld Z h0 a "java/lang/String" "coder" "B" u_coder) (nb : ¬ B0 a) (zl : Z.heap.size ≤ a) (Aa : Ay Z h0 a1 .char (cs.map Value.int)) (ne : @Ne Nat a a1) (hne : cs ≠ []) (hcap : cs.length ≤ 3) (h16 : ∀ c ∈ cs, C16 c) :
    Con nw l Z EL (⟨"java/lang/String", "<init>", "([CIILjava/lang/Void;)V"⟩ : MethodName) jdk_42_method_149_code 6 none [] ({ frames := 4, cells := 2, slots := 9, locals := 57 } : Room) #[(.ref a), (.ref a1), (.int (0 : Int32)), (.int (Int32.ofNat cs.length)), .null] h0 B0 [a] (fun v h B => v = none ∧ B0 = B ∧ StrC Z h h.size a cs) := by
  refine k_intro (Ls := #[.val (.ref a), .val (.ref a1), .val (.int (0 : Int32)), .val (.int (Int32.ofNat cs.length)), .val .null, .unset]) (by decide +kernel) rfl fun x T0 X0 => ?_
  have hlen : cs.length < 2 ^ 31 := by omega
  have hpos : 0 < cs.length := List.length_pos_iff.mpr hne
  have lt_a1 := Aa.lt
  obtain ⟨cv, sCS, ncv⟩ := hs.1
  have lt_a := k_ltE E_a
  refine g_aloadN X0 d45_0 rfl rfl ?_
  refine g_init X0 d45_1 rfl rfl (w149 hw) (w26 hw) (w27 hw) 0 rfl (by decide) (Nat.le_of_eq rfl) (by decide) fun T1 X1 => ?_
  refine g_iloadN X1 d45_4 rfl ?_
  refine g_ifT X1 d45_5 (XT.i0_ne_t (k_ne0 hpos hlen)) ?_
  refine g_getstatic X1 d45_27 (w114 hw) Via.refl sCS fun T2 X2 => ?_
  refine g_ifF X2 d45_30 (XT.i0_eq_f ncv) ?_
  refine g_aloadN X2 d45_33 rfl rfl ?_
  refine g_iloadN X2 d45_34 rfl ?_
  refine g_iloadN X2 d45_35 rfl ?_
  refine g_callS X2 d45_36 (w225 hw) (w226 hw) (w227 hw) (w228 hw) (by decide) pd33 [(.ref a1), (.int (0 : Int32)), (.int (Int32.ofNat cs.length))] [] 0 (c_compress3 hw hs a1 cs Aa h16 hcap) rfl rfl rfl (Nat.le_of_eq rfl) (by decide) (by decide) 2 9 rfl rfl (by decide) (by decide) (fun _ q => nomatch q) fun v3 T3 h3 B3 X3 K3 M3 q3 => ?_
  obtain ⟨t, rfl, rfl, ft, ht⟩ := q3
  have z3 := K3.1
  show Go x (T3.setTop (mkF x.m 39 #[.val (.ref a), .val (.ref a1), .val (.int (0 : Int32)), .val (.int (Int32.ofNat cs.length)), .val .null, .unset] [(.ref t)]))
  refine g_astore X3 #[.val (.ref a), .val (.ref a1), .val (.int (0 : Int32)), .val (.int (Int32.ofNat cs.length)), .val .null, .val (.ref t)] d45_39 rfl rfl ?_
  refine g_aloadN X3 d45_41 rfl rfl ?_
  refine g_aload X3 d45_42 rfl rfl ?_
  refine g_iloadN X3 d45_44 rfl ?_
  rcases ht with ⟨hlo, At⟩ | At
  ·
    have lt_t := At.lt
    have hl2 : ((cs.map lo8).map Value.int).length = cs.length := by simp
    refine g_callSp X3 d45_45 (w251 hw) (w252 hw) (w227 hw) (w253 hw) (by decide) pd34 [(.ref t), (.int (Int32.ofNat cs.length))] [(.ref a)] 1 (hl2 ▸ c_coderL hw hs t ((cs.map lo8).map Value.int) At) rfl rfl rfl (Nat.le_of_eq rfl) (by decide) (by decide) 2 9 rfl rfl (by decide) (by decide) fun T4 X4 => ?_
    have F5 := (F_coder.keep K3 nin0)
    have E_6 := (E_a.keep K3)
    refine g_putfield X4 d45_48 (w115 hw) Via.refl F5 E_6 (Or.inr ⟨(w100 hw), rfl, rfl⟩) (w98 hw) (ty := .byte) (v' := (.int (0 : Int32))) (by decide) rfl rfl nb zl (Or.inl (List.mem_of_getElem? (i := 0) rfl)) fun T7 h7 X7 W7 => ?_
    have z7 := W7.size; have Fw7 := F5.same W7
    refine g_aloadN X7 d45_51 rfl rfl ?_
    refine g_aload X7 d45_52 rfl rfl ?_
    have F8 := ((F_value.keep K3 nin0).other W7 (Or.inr (slot_ne (Or.inr (w99 hw)) (Or.inr (w100 hw)) (by decide) (t := (.array .byte)) (t' := .byte) (by decide) (by decide))))
    have E_9 := (E_6.wr W7)
    refine g_putfield X7 d45_54 (w108 hw) Via.refl F8 E_9 (Or.inr ⟨(w99 hw), rfl, rfl⟩) (w98 hw) (ty := (.array .byte)) (v' := (.ref t)) (by decide) rfl rfl nb zl (Or.inl (List.mem_of_getElem? (i := 0) rfl)) fun T10 h10 X10 W10 => ?_
    have z10 := W10.size; have Fw10 := F8.same W10
    have E_11 := (E_9.wr W10)
    have F12 := (Fw7.other W10 (Or.inr (slot_ne (Or.inr (w100 hw)) (Or.inr (w99 hw)) (by decide) (t := .byte) (t' := (.array .byte)) (by decide) (by decide))))
    have A13 := ((At.keep (Keep.of_wr W7) (ninS (k_neN (by omega)) nin0)).keep (Keep.of_wr W10) (ninS (k_neN (by omega)) nin0))
    exact g_return X10 d45_57 (by decide) (by decide) ⟨rfl, rfl, h16, Or.inl ⟨hlo, ⟨t, E_11.lt, A13.lt, E_11, F12, Fw10, A13⟩⟩⟩
  ·
    have lt_t := At.lt
    refine g_callSp X3 d45_45 (w251 hw) (w252 hw) (w227 hw) (w253 hw) (by decide) pd34 [(.ref t), (.int (Int32.ofNat cs.length))] [(.ref a)] 1 (c_coderU hw hs t cs.length _ At (by simp [u16_len]) hpos (by omega)) rfl rfl rfl (Nat.le_of_eq rfl) (by decide) (by decide) 2 9 rfl rfl (by decide) (by decide) fun T14 X14 => ?_
    have F15 := (F_coder.keep K3 nin0)
    have E_16 := (E_a.keep K3)
    refine g_putfield X14 d45_48 (w115 hw) Via.refl F15 E_16 (Or.inr ⟨(w100 hw), rfl, rfl⟩) (w98 hw) (ty := .byte) (v' := (.int (1 : Int32))) (by decide) rfl rfl nb zl (Or.inl (List.mem_of_getElem? (i := 0) rfl)) fun T17 h17 X17 W17 => ?_
    have z17 := W17.size; have Fw17 := F15.same W17
    refine g_aloadN X17 d45_51 rfl rfl ?_
    refine g_aload X17 d45_52 rfl rfl ?_
    have F18 := ((F_value.keep K3 nin0).other W17 (Or.inr (slot_ne (Or.inr (w99 hw)) (Or.inr (w100 hw)) (by decide) (t := (.array .byte)) (t' := .byte) (by decide) (by decide))))
    have E_19 := (E_16.wr W17)
    refine g_putfield X17 d45_54 (w108 hw) Via.refl F18 E_19 (Or.inr ⟨(w99 hw), rfl, rfl⟩) (w98 hw) (ty := (.array .byte)) (v' := (.ref t)) (by decide) rfl rfl nb zl (Or.inl (List.mem_of_getElem? (i := 0) rfl)) fun T20 h20 X20 W20 => ?_
    have z20 := W20.size; have Fw20 := F18.same W20
    have E_21 := (E_19.wr W20)
    have F22 := (Fw17.other W20 (Or.inr (slot_ne (Or.inr (w100 hw)) (Or.inr (w99 hw)) (by decide) (t := .byte) (t' := (.array .byte)) (by decide) (by decide))))
    have A23 := ((At.keep (Keep.of_wr W17) (ninS (k_neN (by omega)) nin0)).keep (Keep.of_wr W20) (ninS (k_neN (by omega)) nin0))
    exact g_return X20 d45_57 (by decide) (by decide) ⟨rfl, rfl, h16, Or.inr ⟨t, E_21.lt, A23.lt, E_21, F22, Fw20, A23⟩⟩
set_option maxRecDepth 65536 in
set_option maxHeartbeats 40000000 in
theorem c_initC {nw : Bool} {l : Launch} {Z : State} {EL : List (String × Nat)} {a0 : Array Value} (hw : HW Z a0) (hs : Sts Z) {h0 : Heap} {B0 : BP} (a a1 : Addr) (cs : List Int32) (E_a : Exa Z h0 a "java/lang/String") {u_value : Value} (F_value : Fld Z h0 a "java/lang/String" "value" "[B" u_value) {u_coder : Value} (F_coder : Fld Z h0 a "java/lang/String" "coder" "B" u_coder) (nb : ¬ B0 a) (zl : Z.heap.size ≤ a) (Aa : Ay Z h0 a1 .char (cs.map Value.int)) (ne : @Ne Nat a a1) (hne : cs ≠ []) (hcap : cs.length ≤ 3) (h16 : ∀ c ∈ cs, C16 c) :
    Con nw l Z EL (⟨"java/lang/String", "<init>", "([C)V"⟩ : MethodName) jdk_42_method_3_code 2 none [] ({ frames := 5, cells := 2, slots := 9, locals := 74 } : Room) #[(.ref a), (.ref a1)] h0 B0 [a] (fun v h B => v = none ∧ B0 = B ∧ StrC Z h h.size a cs) := by
  refine k_intro (Ls := #[.val (.ref a), .val (.ref a1)]) (by decide +kernel) rfl fun x T0 X0 => ?_
  have lt_a := k_ltE E_a
  refine g_aloadN X0 d46_0 rfl rfl ?_
  refine g_aloadN X0 d46_1 rfl rfl ?_
  refine g_iconst X0 (0 : Int32) d46_2 (by decide) ?_
  refine g_aloadN X0 d46_3 rfl rfl ?_
  refine g_arraylength X0 d46_4 Aa (Int32.ofNat cs.length) (by simp) ?_
  refine g_aconst_null X0 d46_5 ?_
  refine g_callI X0 d46_6 (w217 hw) (w218 hw) (w59 hw) (w219 hw) rfl (by decide) pd35 a [(.ref a1), (.int (0 : Int32)), (.int (Int32.ofNat cs.length)), .null] [] 0 (c_initCII hw hs a a1 cs E_a F_value F_coder nb zl Aa ne hne hcap h16) rfl rfl rfl (Nat.le_of_eq rfl) (by decide) (by decide) 2 9 rfl rfl (by decide) (by decide) (k_ws1 ⟨nb, zl, (Or.inl (List.mem_of_getElem? (i := 0) rfl))⟩) fun v1 T1 h1 B1 X1 K1 M1 q1 => ?_
  obtain ⟨rfl, rfl, S⟩ := q1
  have z1 := K1.1
  show Go x (T1.setTop (mkF x.m 9 #[.val (.ref a), .val (.ref a1)] []))
  exact g_return X1 d46_9 (by decide) (by decide) ⟨rfl, rfl, S⟩
set_option maxRecDepth 65536 in
set_option maxHeartbeats 40000000 in
theorem c_initCIIE {l : Launch} {Z : State} {EL : List (String × Nat)} {a0 : Array Value} (hw : HW Z a0) (hs : Sts Z) {h0 : Heap} {B0 : BP} (a a1 : Addr) (E_a : Exa Z h0 a "java/lang/String") {u_value : Value} (F_value : Fld Z h0 a "java/lang/String" "value" "[B" u_value) {u_coder : Value} (F_coder : Fld Z h0 a "java/lang/String" "coder" "B" u_coder) (nb : ¬ B0 a) (zl : Z.heap.size ≤ a) (hE : ("java/lang/String", 7) ∈ EL) :
    Con false l Z EL (⟨"java/lang/String", "<init>", "([CIILjava/lang/Void;)V"⟩ : MethodName) jdk_42_method_149_code 6 none [] ({ frames := 1, cells := 4, slots := 8, locals := 12 } : Room) #[(.ref a), (.ref a1), (.int (0 : Int32)), (.int (0 : Int32)), .null] h0 B0 [a] (fun v h B => v = none ∧ Str Z h h.size a 0 []) := by
  refine k_intro (Ls := #[.val (.ref a), .val (.ref a1), .val (.int (0 : Int32)), .val (.int (0 : Int32)), .val .null, .unset]) (by decide +kernel) rfl fun x T0 X0 => ?_
  have lt_a := k_ltE E_a
  refine g_aloadN X0 d45_0 rfl rfl ?_
  refine g_init X0 d45_1 rfl rfl (w149 hw) (w26 hw) (w27 hw) 0 rfl (by decide) (Nat.le_of_eq rfl) (by decide) fun T1 X1 => ?_
  refine g_iloadN X1 d45_4 rfl ?_
  refine g_ifF X1 d45_5 (by decide) ?_
  refine g_aloadN X1 d45_8 rfl rfl ?_
  refine g_ldcC X1 rfl d45_9 (w220 hw) (strAtoms hw) hE ([] : List Int32) (by decide) (by decide +kernel) 0 (by decide) (by decide) 2 4 rfl rfl (by decide) (by decide) fun T2 h2 B2 s2 t2 X2 E2 M2 Es2 Fc2 Fv2 At2 ls2 lt2 hn2 => ?_
  have z2 := E2.1
  refine g_getfield X2 d45_11 (w108 hw) Via.refl Fv2 fun T3 X3 => ?_
  have nb4 : ¬ B2 a := (M2.no nb (by omega))
  have F5 := (F_value.ext E2)
  have E_6 := (E_a.ext E2)
  refine g_putfield X3 d45_14 (w108 hw) Via.refl F5 E_6 (Or.inr ⟨(w99 hw), rfl, rfl⟩) (w98 hw) (ty := (.array .byte)) (v' := (.ref t2)) (by decide) rfl rfl nb4 zl (Or.inl (List.mem_of_getElem? (i := 0) rfl)) fun T7 h7 X7 W7 => ?_
  have z7 := W7.size; have Fw7 := F5.same W7
  refine g_aloadN X7 d45_17 rfl rfl ?_
  refine g_ldcC X7 rfl d45_18 (w220 hw) (strAtoms hw) hE ([] : List Int32) (by decide) (by decide +kernel) 0 (by decide) (by decide) 4 8 rfl rfl (by decide) (by decide) fun T8 h8 B8 s8 t8 X8 E8 M8 Es8 Fc8 Fv8 At8 ls8 lt8 hn8 => ?_
  have z8 := E8.1
  refine g_getfield X8 d45_20 (w115 hw) Via.refl Fc8 fun T9 X9 => ?_
  have F10 := (((F_coder.ext E2).other W7 (Or.inr (slot_ne (Or.inr (w100 hw)) (Or.inr (w99 hw)) (by decide) (t := .byte) (t' := (.array .byte)) (by decide) (by decide)))).ext E8)
  have E_11 := ((E_6.wr W7).ext E8)
  have nb12 : ¬ B8 a := (M8.no nb4 (by omega))
  refine g_putfield X9 d45_23 (w115 hw) Via.refl F10 E_11 (Or.inr ⟨(w100 hw), rfl, rfl⟩) (w98 hw) (ty := .byte) (v' := (.int (0 : Int32))) (by decide) rfl rfl nb12 zl (Or.inl (List.mem_of_getElem? (i := 0) rfl)) fun T13 h13 X13 W13 => ?_
  have z13 := W13.size; have Fw13 := F10.same W13
  have E_14 := (E_11.wr W13)
  have F15 := ((Fw7.ext E8).other W13 (Or.inr (slot_ne (Or.inr (w99 hw)) (Or.inr (w100 hw)) (by decide) (t := (.array .byte)) (t' := .byte) (by decide) (by decide))))
  have A16 := (((At2.keep (Keep.of_wr W7) (ninS (Ne.symm (hn2 a nb4).2) nin0)).ext E8).keep (Keep.of_wr W13) (ninS (Ne.symm (hn2 a nb4).2) nin0))
  exact g_return X13 d45_26 (by decide) (by decide) ⟨rfl, t2, E_14.lt, A16.lt, E_14, Fw13, F15, A16⟩
set_option maxRecDepth 65536 in
set_option maxHeartbeats 40000000 in
theorem c_initCE {l : Launch} {Z : State} {EL : List (String × Nat)} {a0 : Array Value} (hw : HW Z a0) (hs : Sts Z) {h0 : Heap} {B0 : BP} (a a1 : Addr) (E_a : Exa Z h0 a "java/lang/String") {u_value : Value} (F_value : Fld Z h0 a "java/lang/String" "value" "[B" u_value) {u_coder : Value} (F_coder : Fld Z h0 a "java/lang/String" "coder" "B" u_coder) (nb : ¬ B0 a) (zl : Z.heap.size ≤ a) (Aa : Ay Z h0 a1 .char []) (hE : ("java/lang/String", 7) ∈ EL) :
    Con false l Z EL (⟨"java/lang/String", "<init>", "([C)V"⟩ : MethodName) jdk_42_method_3_code 2 none [] ({ frames := 2, cells := 4, slots := 8, locals := 29 } : Room) #[(.ref a), (.ref a1)] h0 B0 [a] (fun v h B => v = none ∧ Str Z h h.size a 0 []) := by
  refine k_intro (Ls := #[.val (.ref a), .val (.ref a1)]) (by decide +kernel) rfl fun x T0 X0 => ?_
  have lt_a := k_ltE E_a
  refine g_aloadN X0 d46_0 rfl rfl ?_
  refine g_aloadN X0 d46_1 rfl rfl ?_
  refine g_iconst X0 (0 : Int32) d46_2 (by decide) ?_
  refine g_aloadN X0 d46_3 rfl rfl ?_
  refine g_arraylength X0 d46_4 Aa (0 : Int32) (by decide) ?_
  refine g_aconst_null X0 d46_5 ?_
  refine g_callI X0 d46_6 (w217 hw) (w218 hw) (w59 hw) (w219 hw) rfl (by decide) pd35 a [(.ref a1), (.int (0 : Int32)), (.int (0 : Int32)), .null] [] 0 (c_initCIIE hw hs a a1 E_a F_value F_coder nb zl hE) rfl rfl rfl (Nat.le_of_eq rfl) (by decide) (by decide) 4 8 rfl rfl (by decide) (by decide) (k_ws1 ⟨nb, zl, (Or.inl (List.mem_of_getElem? (i := 0) rfl))⟩) fun v1 T1 h1 B1 X1 K1 M1 q1 => ?_
  obtain ⟨rfl, S⟩ := q1
  have z1 := K1.1
  show Go x (T1.setTop (mkF x.m 9 #[.val (.ref a), .val (.ref a1)] []))
  exact g_return X1 d46_9 (by decide) (by decide) ⟨rfl, S⟩
set_option maxRecDepth 65536 in
set_option maxHeartbeats 40000000 in
theorem c_ch {nw : Bool} {l : Launch} {Z : State} {EL : List (String × Nat)} {a0 : Array Value} (hw : HW Z a0) (hs : Sts Z) {h0 : Heap} {B0 : BP} (p : Int32)  :
    Con nw l Z EL (⟨"com/example/musterpoint/musterpoint/registry/ProblemBodyPinLaw", "ch", "(I)C"⟩ : MethodName) method_3_code 2 (some .char) [] ({ frames := 0, cells := 0, slots := 0, locals := 0 } : Room) #[(.int p)] h0 B0 [] (PQ (some (.int (chF p))) h0 B0) := by
  refine k_intro (Ls := #[.val (.int p), .unset]) (by decide +kernel) rfl fun x T0 X0 => ?_
  obtain ⟨q, eqq⟩ : ∃ z, z = p &&& 65535 := ⟨_, rfl⟩
  have hq : C16 q := eqq ▸ c16_and _
  refine g_iloadN X0 d47_0 rfl ?_
  refine g_ldcI X0 d47_1 (w4 hw) ?_
  refine g_iand X0 q d47_3 eqq.symm ?_
  refine g_istoreN X0 #[.val (.int p), .val (.int q)] d47_4 rfl ?_
  refine g_iloadN X0 d47_5 rfl ?_
  refine g_ldcI X0 d47_6 (w5 hw) ?_
  by_cases hx : q < (55296 : Int32)
  ·
    refine g_icmpT X0 d47_8 (XT.ii_lt_t hx) ?_
    refine g_iloadN X0 d47_23 rfl ?_
    refine g_i2c X0 q d47_24 (nar_c16 hq) ?_
    exact g_ireturn (w' := (chF p)) X0 d47_25 (Or.inr (Or.inr (Or.inl rfl))) (by rw [chF, ← eqq, if_pos hx]; exact nar_c16 hq) (by decide) (by decide) ⟨rfl, rfl, rfl⟩
  ·
    refine g_icmpF X0 d47_8 (XT.ii_lt_f hx) ?_
    refine g_iloadN X0 d47_11 rfl ?_
    refine g_ldcI X0 d47_12 (w221 hw) ?_
    by_cases hy : (57343 : Int32) < q
    ·
      refine g_icmpT X0 d47_14 (XT.ii_gt_t hy) ?_
      refine g_iloadN X0 d47_23 rfl ?_
      refine g_i2c X0 q d47_24 (nar_c16 hq) ?_
      exact g_ireturn (w' := (chF p)) X0 d47_25 (Or.inr (Or.inr (Or.inl rfl))) (by rw [chF, ← eqq, if_neg hx, if_pos hy]; exact nar_c16 hq) (by decide) (by decide) ⟨rfl, rfl, rfl⟩
    ·
      refine g_icmpF X0 d47_14 (XT.ii_gt_f hy) ?_
      refine g_iloadN X0 d47_17 rfl ?_
      refine g_sipush X0 (2047 : Int32) d47_18 (by decide) ?_
      refine g_iand X0 (q &&& (2047 : Int32)) d47_21 rfl ?_
      refine g_istoreN X0 #[.val (.int p), .val (.int (q &&& (2047 : Int32)))] d47_22 rfl ?_
      refine g_iloadN X0 d47_23 rfl ?_
      refine g_i2c X0 (q &&& (2047 : Int32)) d47_24 (nar_c16 (c16_and11 q)) ?_
      exact g_ireturn (w' := (chF p)) X0 d47_25 (Or.inr (Or.inr (Or.inl rfl))) (by rw [chF, ← eqq, if_neg hx, if_neg hy]; exact nar_c16 (c16_and11 q)) (by decide) (by decide) ⟨rfl, rfl, rfl⟩
set_option maxRecDepth 65536 in
set_option maxHeartbeats 40000000 in
theorem c_enc {nw : Bool} {l : Launch} {Z : State} {EL : List (String × Nat)} {a0 : Array Value} (hw : HW Z a0) (hs : Sts Z) {h0 : Heap} {B0 : BP} (m : Addr) (P : List Int32) (c : Int32) (A : Ay Z h0 m .byte (P.map Value.int ++ List.replicate (10 - P.length) (Value.int 0))) (hn : P.length ≤ 6) (nb_m : ¬ B0 m) (zl_m : Z.heap.size ≤ m)  :
    Con nw l Z EL (⟨"com/example/musterpoint/musterpoint/registry/ProblemBodyPinLaw", "enc", "(C[BI)I"⟩ : MethodName) method_4_code 4 (some .int) [] ({ frames := 0, cells := 0, slots := 0, locals := 0 } : Room) #[(.int c), (.ref m), (.int (Int32.ofNat P.length))] h0 B0 [m] (fun v h B => v = some (.int (Int32.ofNat (P ++ n8 c).length)) ∧ B0 = B ∧ Ay Z h m .byte ((P ++ n8 c).map Value.int ++ List.replicate (10 - (P ++ n8 c).length) (Value.int 0))) := by
  refine k_intro (Ls := #[.val (.int c), .val (.ref m), .val (.int (Int32.ofNat P.length)), .unset]) (by decide +kernel) rfl fun x T0 X0 => ?_
  refine g_iloadN X0 d48_0 rfl ?_
  refine g_istoreN X0 #[.val (.int c), .val (.ref m), .val (.int (Int32.ofNat P.length)), .val (.int c)] d48_1 rfl ?_
  refine g_iloadN X0 d48_2 rfl ?_
  refine g_sipush X0 (128 : Int32) d48_3 (by decide) ?_
  by_cases ha : c < (128 : Int32)
  ·
    refine g_icmpF X0 d48_6 (XT.ii_ge_f ha) ?_
    refine g_aloadN X0 d48_9 rfl rfl ?_
    refine g_iloadN X0 d48_10 rfl ?_
    refine g_iloadN X0 d48_11 rfl ?_
    refine g_i2b X0 (lo8 c) d48_12 rfl ?_
    refine g_bastore X0 d48_13 A P.length rfl (lo8 c) (nar_b8 _) (by simp; omega) nb_m zl_m (Or.inl (List.mem_of_getElem? (i := 0) rfl)) fun T1 h1 X1 K1 A1 => ?_
    have z1 := K1.1
    rw [k_put (by first | omega | (simp; omega))] at A1
    refine g_iloadN X1 d48_14 rfl ?_
    refine g_iconst X1 (1 : Int32) d48_15 (by decide) ?_
    refine g_iadd X1 (Int32.ofNat (P ++ [(lo8 c)]).length) d48_16 ((k_add _ 1).trans (congrArg Int32.ofNat (by simp))) ?_
    have e : P ++ n8 c = (P ++ [(lo8 c)]) := by rw [n8, if_pos ha]
    exact g_ireturnI X1 d48_17 (by decide) (by decide) ⟨by rw [e], rfl, by rw [e]; exact A1⟩
  ·
    refine g_icmpT X0 d48_6 (XT.ii_ge_t ha) ?_
    refine g_iloadN X0 d48_18 rfl ?_
    refine g_sipush X0 (2048 : Int32) d48_19 (by decide) ?_
    by_cases hb : c < (2048 : Int32)
    ·
      refine g_icmpF X0 d48_22 (XT.ii_ge_f hb) ?_
      refine g_aloadN X0 d48_25 rfl rfl ?_
      refine g_iloadN X0 d48_26 rfl ?_
      refine g_sipush X0 (192 : Int32) d48_27 (by decide) ?_
      refine g_iloadN X0 d48_30 rfl ?_
      refine g_bipush X0 (6 : Int32) d48_31 (by decide) ?_
      refine g_ishr X0 (c >>> ((6 : Int32) &&& 31)) d48_33 rfl ?_
      refine g_ior X0 ((192 : Int32) ||| (c >>> ((6 : Int32) &&& 31))) d48_34 rfl ?_
      refine g_i2b X0 (n2a c) d48_35 rfl ?_
      refine g_bastore X0 d48_36 A P.length rfl (n2a c) (nar_b8 _) (by simp; omega) nb_m zl_m (Or.inl (List.mem_of_getElem? (i := 0) rfl)) fun T2 h2 X2 K2 A2 => ?_
      have z2 := K2.1
      rw [k_put (by first | omega | (simp; omega))] at A2
      refine g_aloadN X2 d48_37 rfl rfl ?_
      refine g_iloadN X2 d48_38 rfl ?_
      refine g_iconst X2 (1 : Int32) d48_39 (by decide) ?_
      refine g_iadd X2 (Int32.ofNat (P ++ [(n2a c)]).length) d48_40 ((k_add _ 1).trans (congrArg Int32.ofNat (by simp))) ?_
      refine g_sipush X2 (128 : Int32) d48_41 (by decide) ?_
      refine g_iloadN X2 d48_44 rfl ?_
      refine g_bipush X2 (63 : Int32) d48_45 (by decide) ?_
      refine g_iand X2 (c &&& (63 : Int32)) d48_47 rfl ?_
      refine g_ior X2 ((128 : Int32) ||| (c &&& (63 : Int32))) d48_48 rfl ?_
      refine g_i2b X2 (n2b c) d48_49 rfl ?_
      refine g_bastore X2 d48_50 A2 ((P ++ [(n2a c)]).length) rfl (n2b c) (nar_b8 _) (by simp; omega) nb_m zl_m (Or.inl (List.mem_of_getElem? (i := 0) rfl)) fun T3 h3 X3 K3 A3 => ?_
      have z3 := K3.1
      rw [k_put (by first | omega | (simp; omega))] at A3
      refine g_iloadN X3 d48_51 rfl ?_
      refine g_iconst X3 (2 : Int32) d48_52 (by decide) ?_
      refine g_iadd X3 (Int32.ofNat ((P ++ [(n2a c)]) ++ [(n2b c)]).length) d48_53 ((k_add _ 2).trans (congrArg Int32.ofNat (by simp))) ?_
      have e : P ++ n8 c = ((P ++ [(n2a c)]) ++ [(n2b c)]) := by rw [n8, if_neg ha, if_pos hb]; simp
      exact g_ireturnI X3 d48_54 (by decide) (by decide) ⟨by rw [e], rfl, by rw [e]; exact A3⟩
    ·
      refine g_icmpT X0 d48_22 (XT.ii_ge_t hb) ?_
      refine g_aloadN X0 d48_55 rfl rfl ?_
      refine g_iloadN X0 d48_56 rfl ?_
      refine g_sipush X0 (224 : Int32) d48_57 (by decide) ?_
      refine g_iloadN X0 d48_60 rfl ?_
      refine g_bipush X0 (12 : Int32) d48_61 (by decide) ?_
      refine g_ishr X0 (c >>> ((12 : Int32) &&& 31)) d48_63 rfl ?_
      refine g_ior X0 ((224 : Int32) ||| (c >>> ((12 : Int32) &&& 31))) d48_64 rfl ?_
      refine g_i2b X0 (n3a c) d48_65 rfl ?_
      refine g_bastore X0 d48_66 A P.length rfl (n3a c) (nar_b8 _) (by simp; omega) nb_m zl_m (Or.inl (List.mem_of_getElem? (i := 0) rfl)) fun T4 h4 X4 K4 A4 => ?_
      have z4 := K4.1
      rw [k_put (by first | omega | (simp; omega))] at A4
      refine g_aloadN X4 d48_67 rfl rfl ?_
      refine g_iloadN X4 d48_68 rfl ?_
      refine g_iconst X4 (1 : Int32) d48_69 (by decide) ?_
      refine g_iadd X4 (Int32.ofNat (P ++ [(n3a c)]).length) d48_70 ((k_add _ 1).trans (congrArg Int32.ofNat (by simp))) ?_
      refine g_sipush X4 (128 : Int32) d48_71 (by decide) ?_
      refine g_iloadN X4 d48_74 rfl ?_
      refine g_bipush X4 (6 : Int32) d48_75 (by decide) ?_
      refine g_ishr X4 (c >>> ((6 : Int32) &&& 31)) d48_77 rfl ?_
      refine g_bipush X4 (63 : Int32) d48_78 (by decide) ?_
      refine g_iand X4 ((c >>> ((6 : Int32) &&& 31)) &&& (63 : Int32)) d48_80 rfl ?_
      refine g_ior X4 ((128 : Int32) ||| ((c >>> ((6 : Int32) &&& 31)) &&& (63 : Int32))) d48_81 rfl ?_
      refine g_i2b X4 (n3b c) d48_82 rfl ?_
      refine g_bastore X4 d48_83 A4 ((P ++ [(n3a c)]).length) rfl (n3b c) (nar_b8 _) (by simp; omega) nb_m zl_m (Or.inl (List.mem_of_getElem? (i := 0) rfl)) fun T5 h5 X5 K5 A5 => ?_
      have z5 := K5.1
      rw [k_put (by first | omega | (simp; omega))] at A5
      refine g_aloadN X5 d48_84 rfl rfl ?_
      refine g_iloadN X5 d48_85 rfl ?_
      refine g_iconst X5 (2 : Int32) d48_86 (by decide) ?_
      refine g_iadd X5 (Int32.ofNat ((P ++ [(n3a c)]) ++ [(n3b c)]).length) d48_87 ((k_add _ 2).trans (congrArg Int32.ofNat (by simp))) ?_
      refine g_sipush X5 (128 : Int32) d48_88 (by decide) ?_
      refine g_iloadN X5 d48_91 rfl ?_
      refine g_bipush X5 (63 : Int32) d48_92 (by decide) ?_
      refine g_iand X5 (c &&& (63 : Int32)) d48_94 rfl ?_
      refine g_ior X5 ((128 : Int32) ||| (c &&& (63 : Int32))) d48_95 rfl ?_
      refine g_i2b X5 (n2b c) d48_96 rfl ?_
      refine g_bastore X5 d48_97 A5 (((P ++ [(n3a c)]) ++ [(n3b c)]).length) rfl (n2b c) (nar_b8 _) (by simp; omega) nb_m zl_m (Or.inl (List.mem_of_getElem? (i := 0) rfl)) fun T6 h6 X6 K6 A6 => ?_
      have z6 := K6.1
      rw [k_put (by first | omega | (simp; omega))] at A6
      refine g_iloadN X6 d48_98 rfl ?_
      refine g_iconst X6 (3 : Int32) d48_99 (by decide) ?_
      refine g_iadd X6 (Int32.ofNat (((P ++ [(n3a c)]) ++ [(n3b c)]) ++ [(n2b c)]).length) d48_100 ((k_add _ 3).trans (congrArg Int32.ofNat (by simp))) ?_
      have e : P ++ n8 c = (((P ++ [(n3a c)]) ++ [(n3b c)]) ++ [(n2b c)]) := by rw [n8, if_neg ha, if_neg hb]; simp
      exact g_ireturnI X6 d48_101 (by decide) (by decide) ⟨by rw [e], rfl, by rw [e]; exact A6⟩
set_option maxRecDepth 65536 in
set_option maxHeartbeats 40000000 in
theorem c_same {nw : Bool} {l : Launch} {Z : State} {EL : List (String × Nat)} {a0 : Array Value} (hw : HW Z a0) (hs : Sts Z) {h0 : Heap} {B0 : BP} (r m : Addr) (R : List Int32) (Ar : Ay Z h0 r .byte (R.map Value.int)) (Am : Ay Z h0 m .byte (R.map Value.int ++ List.replicate (10 - R.length) (Value.int 0))) (hR : R.length ≤ 10) :
    Con nw l Z EL (⟨"com/example/musterpoint/musterpoint/registry/ProblemBodyPinLaw", "same", "([B[BI)Z"⟩ : MethodName) method_5_code 3 (some .boolean) [] ({ frames := 0, cells := 0, slots := 0, locals := 0 } : Room) #[(.ref r), (.ref m), (.int (Int32.ofNat R.length))] h0 B0 [] (PQ (some (.int (1 : Int32))) h0 B0) := by
  refine k_intro (Ls := #[.val (.ref r), .val (.ref m), .val (.int (Int32.ofNat R.length))]) (by decide +kernel) rfl fun x T0 X0 => ?_
  have J171 : ∀ (_u : Unit), Go x (T0.setTop (mkF x.m 171 #[.val (.ref r), .val (.ref m), .val (.int (Int32.ofNat R.length))] [])) := by
    intro _u
    refine g_iconst X0 (1 : Int32) d49_171 (by decide) ?_
    exact g_ireturn (w' := (1 : Int32)) X0 d49_172 (Or.inl rfl) (by decide) (by decide) (by decide) ⟨rfl, rfl, rfl⟩
  have J9_ : ∀ (_u : Unit), Go x (T0.setTop (mkF x.m 152 #[.val (.ref r), .val (.ref m), .val (.int (Int32.ofNat R.length))] [])) := by
    intro _u
    refine g_iloadN X0 d49_152 rfl ?_
    refine g_bipush X0 (9 : Int32) d49_153 (by decide) ?_
    by_cases hk : (9 : Int32) < (Int32.ofNat R.length)
    ·
      refine g_icmpF X0 d49_155 (XT.ii_le_f hk) ?_
      have hk' : 9 < R.length := (k_litlt (j := 9) (by decide) (by omega)).mp hk
      refine g_aloadN X0 d49_158 rfl rfl ?_
      refine g_bipush X0 (9 : Int32) d49_159 (by decide) ?_
      refine g_baload X0 d49_161 Ar 9 rfl (v := .int R[9]) (by simp [hk']) ?_
      refine g_aloadN X0 d49_162 rfl rfl ?_
      refine g_bipush X0 (9 : Int32) d49_163 (by decide) ?_
      refine g_baload X0 d49_165 Am 9 rfl (v := .int R[9]) (by rw [List.getElem?_append_left (by simp; omega)]; simp [hk']) ?_
      refine g_icmpT X0 d49_166 (XT.ii_eq_t rfl) ?_
      exact J171 ()
    ·
      refine g_icmpT X0 d49_155 (XT.ii_le_t hk) ?_
      exact J171 ()
  have J8_ : ∀ (_u : Unit), Go x (T0.setTop (mkF x.m 133 #[.val (.ref r), .val (.ref m), .val (.int (Int32.ofNat R.length))] [])) := by
    intro _u
    refine g_iloadN X0 d49_133 rfl ?_
    refine g_bipush X0 (8 : Int32) d49_134 (by decide) ?_
    by_cases hk : (8 : Int32) < (Int32.ofNat R.length)
    ·
      refine g_icmpF X0 d49_136 (XT.ii_le_f hk) ?_
      have hk' : 8 < R.length := (k_litlt (j := 8) (by decide) (by omega)).mp hk
      refine g_aloadN X0 d49_139 rfl rfl ?_
      refine g_bipush X0 (8 : Int32) d49_140 (by decide) ?_
      refine g_baload X0 d49_142 Ar 8 rfl (v := .int R[8]) (by simp [hk']) ?_
      refine g_aloadN X0 d49_143 rfl rfl ?_
      refine g_bipush X0 (8 : Int32) d49_144 (by decide) ?_
      refine g_baload X0 d49_146 Am 8 rfl (v := .int R[8]) (by rw [List.getElem?_append_left (by simp; omega)]; simp [hk']) ?_
      refine g_icmpT X0 d49_147 (XT.ii_eq_t rfl) ?_
      exact J9_ ()
    ·
      refine g_icmpT X0 d49_136 (XT.ii_le_t hk) ?_
      exact J9_ ()
  have J7_ : ∀ (_u : Unit), Go x (T0.setTop (mkF x.m 114 #[.val (.ref r), .val (.ref m), .val (.int (Int32.ofNat R.length))] [])) := by
    intro _u
    refine g_iloadN X0 d49_114 rfl ?_
    refine g_bipush X0 (7 : Int32) d49_115 (by decide) ?_
    by_cases hk : (7 : Int32) < (Int32.ofNat R.length)
    ·
      refine g_icmpF X0 d49_117 (XT.ii_le_f hk) ?_
      have hk' : 7 < R.length := (k_litlt (j := 7) (by decide) (by omega)).mp hk
      refine g_aloadN X0 d49_120 rfl rfl ?_
      refine g_bipush X0 (7 : Int32) d49_121 (by decide) ?_
      refine g_baload X0 d49_123 Ar 7 rfl (v := .int R[7]) (by simp [hk']) ?_
      refine g_aloadN X0 d49_124 rfl rfl ?_
      refine g_bipush X0 (7 : Int32) d49_125 (by decide) ?_
      refine g_baload X0 d49_127 Am 7 rfl (v := .int R[7]) (by rw [List.getElem?_append_left (by simp; omega)]; simp [hk']) ?_
      refine g_icmpT X0 d49_128 (XT.ii_eq_t rfl) ?_
      exact J8_ ()
    ·
      refine g_icmpT X0 d49_117 (XT.ii_le_t hk) ?_
      exact J8_ ()
  have J6_ : ∀ (_u : Unit), Go x (T0.setTop (mkF x.m 95 #[.val (.ref r), .val (.ref m), .val (.int (Int32.ofNat R.length))] [])) := by
    intro _u
    refine g_iloadN X0 d49_95 rfl ?_
    refine g_bipush X0 (6 : Int32) d49_96 (by decide) ?_
    by_cases hk : (6 : Int32) < (Int32.ofNat R.length)
    ·
      refine g_icmpF X0 d49_98 (XT.ii_le_f hk) ?_
      have hk' : 6 < R.length := (k_litlt (j := 6) (by decide) (by omega)).mp hk
      refine g_aloadN X0 d49_101 rfl rfl ?_
      refine g_bipush X0 (6 : Int32) d49_102 (by decide) ?_
      refine g_baload X0 d49_104 Ar 6 rfl (v := .int R[6]) (by simp [hk']) ?_
      refine g_aloadN X0 d49_105 rfl rfl ?_
      refine g_bipush X0 (6 : Int32) d49_106 (by decide) ?_
      refine g_baload X0 d49_108 Am 6 rfl (v := .int R[6]) (by rw [List.getElem?_append_left (by simp; omega)]; simp [hk']) ?_
      refine g_icmpT X0 d49_109 (XT.ii_eq_t rfl) ?_
      exact J7_ ()
    ·
      refine g_icmpT X0 d49_98 (XT.ii_le_t hk) ?_
      exact J7_ ()
  have J5_ : ∀ (_u : Unit), Go x (T0.setTop (mkF x.m 79 #[.val (.ref r), .val (.ref m), .val (.int (Int32.ofNat R.length))] [])) := by
    intro _u
    refine g_iloadN X0 d49_79 rfl ?_
    refine g_iconst X0 (5 : Int32) d49_80 (by decide) ?_
    by_cases hk : (5 : Int32) < (Int32.ofNat R.length)
    ·
      refine g_icmpF X0 d49_81 (XT.ii_le_f hk) ?_
      have hk' : 5 < R.length := (k_litlt (j := 5) (by decide) (by omega)).mp hk
      refine g_aloadN X0 d49_84 rfl rfl ?_
      refine g_iconst X0 (5 : Int32) d49_85 (by decide) ?_
      refine g_baload X0 d49_86 Ar 5 rfl (v := .int R[5]) (by simp [hk']) ?_
      refine g_aloadN X0 d49_87 rfl rfl ?_
      refine g_iconst X0 (5 : Int32) d49_88 (by decide) ?_
      refine g_baload X0 d49_89 Am 5 rfl (v := .int R[5]) (by rw [List.getElem?_append_left (by simp; omega)]; simp [hk']) ?_
      refine g_icmpT X0 d49_90 (XT.ii_eq_t rfl) ?_
      exact J6_ ()
    ·
      refine g_icmpT X0 d49_81 (XT.ii_le_t hk) ?_
      exact J6_ ()
  have J4_ : ∀ (_u : Unit), Go x (T0.setTop (mkF x.m 63 #[.val (.ref r), .val (.ref m), .val (.int (Int32.ofNat R.length))] [])) := by
    intro _u
    refine g_iloadN X0 d49_63 rfl ?_
    refine g_iconst X0 (4 : Int32) d49_64 (by decide) ?_
    by_cases hk : (4 : Int32) < (Int32.ofNat R.length)
    ·
      refine g_icmpF X0 d49_65 (XT.ii_le_f hk) ?_
      have hk' : 4 < R.length := (k_litlt (j := 4) (by decide) (by omega)).mp hk
      refine g_aloadN X0 d49_68 rfl rfl ?_
      refine g_iconst X0 (4 : Int32) d49_69 (by decide) ?_
      refine g_baload X0 d49_70 Ar 4 rfl (v := .int R[4]) (by simp [hk']) ?_
      refine g_aloadN X0 d49_71 rfl rfl ?_
      refine g_iconst X0 (4 : Int32) d49_72 (by decide) ?_
      refine g_baload X0 d49_73 Am 4 rfl (v := .int R[4]) (by rw [List.getElem?_append_left (by simp; omega)]; simp [hk']) ?_
      refine g_icmpT X0 d49_74 (XT.ii_eq_t rfl) ?_
      exact J5_ ()
    ·
      refine g_icmpT X0 d49_65 (XT.ii_le_t hk) ?_
      exact J5_ ()
  have J3_ : ∀ (_u : Unit), Go x (T0.setTop (mkF x.m 47 #[.val (.ref r), .val (.ref m), .val (.int (Int32.ofNat R.length))] [])) := by
    intro _u
    refine g_iloadN X0 d49_47 rfl ?_
    refine g_iconst X0 (3 : Int32) d49_48 (by decide) ?_
    by_cases hk : (3 : Int32) < (Int32.ofNat R.length)
    ·
      refine g_icmpF X0 d49_49 (XT.ii_le_f hk) ?_
      have hk' : 3 < R.length := (k_litlt (j := 3) (by decide) (by omega)).mp hk
      refine g_aloadN X0 d49_52 rfl rfl ?_
      refine g_iconst X0 (3 : Int32) d49_53 (by decide) ?_
      refine g_baload X0 d49_54 Ar 3 rfl (v := .int R[3]) (by simp [hk']) ?_
      refine g_aloadN X0 d49_55 rfl rfl ?_
      refine g_iconst X0 (3 : Int32) d49_56 (by decide) ?_
      refine g_baload X0 d49_57 Am 3 rfl (v := .int R[3]) (by rw [List.getElem?_append_left (by simp; omega)]; simp [hk']) ?_
      refine g_icmpT X0 d49_58 (XT.ii_eq_t rfl) ?_
      exact J4_ ()
    ·
      refine g_icmpT X0 d49_49 (XT.ii_le_t hk) ?_
      exact J4_ ()
  have J2_ : ∀ (_u : Unit), Go x (T0.setTop (mkF x.m 31 #[.val (.ref r), .val (.ref m), .val (.int (Int32.ofNat R.length))] [])) := by
    intro _u
    refine g_iloadN X0 d49_31 rfl ?_
    refine g_iconst X0 (2 : Int32) d49_32 (by decide) ?_
    by_cases hk : (2 : Int32) < (Int32.ofNat R.length)
    ·
      refine g_icmpF X0 d49_33 (XT.ii_le_f hk) ?_
      have hk' : 2 < R.length := (k_litlt (j := 2) (by decide) (by omega)).mp hk
      refine g_aloadN X0 d49_36 rfl rfl ?_
      refine g_iconst X0 (2 : Int32) d49_37 (by decide) ?_
      refine g_baload X0 d49_38 Ar 2 rfl (v := .int R[2]) (by simp [hk']) ?_
      refine g_aloadN X0 d49_39 rfl rfl ?_
      refine g_iconst X0 (2 : Int32) d49_40 (by decide) ?_
      refine g_baload X0 d49_41 Am 2 rfl (v := .int R[2]) (by rw [List.getElem?_append_left (by simp; omega)]; simp [hk']) ?_
      refine g_icmpT X0 d49_42 (XT.ii_eq_t rfl) ?_
      exact J3_ ()
    ·
      refine g_icmpT X0 d49_33 (XT.ii_le_t hk) ?_
      exact J3_ ()
  have J1_ : ∀ (_u : Unit), Go x (T0.setTop (mkF x.m 15 #[.val (.ref r), .val (.ref m), .val (.int (Int32.ofNat R.length))] [])) := by
    intro _u
    refine g_iloadN X0 d49_15 rfl ?_
    refine g_iconst X0 (1 : Int32) d49_16 (by decide) ?_
    by_cases hk : (1 : Int32) < (Int32.ofNat R.length)
    ·
      refine g_icmpF X0 d49_17 (XT.ii_le_f hk) ?_
      have hk' : 1 < R.length := (k_litlt (j := 1) (by decide) (by omega)).mp hk
      refine g_aloadN X0 d49_20 rfl rfl ?_
      refine g_iconst X0 (1 : Int32) d49_21 (by decide) ?_
      refine g_baload X0 d49_22 Ar 1 rfl (v := .int R[1]) (by simp [hk']) ?_
      refine g_aloadN X0 d49_23 rfl rfl ?_
      refine g_iconst X0 (1 : Int32) d49_24 (by decide) ?_
      refine g_baload X0 d49_25 Am 1 rfl (v := .int R[1]) (by rw [List.getElem?_append_left (by simp; omega)]; simp [hk']) ?_
      refine g_icmpT X0 d49_26 (XT.ii_eq_t rfl) ?_
      exact J2_ ()
    ·
      refine g_icmpT X0 d49_17 (XT.ii_le_t hk) ?_
      exact J2_ ()
  have J0_ : ∀ (_u : Unit), Go x (T0.setTop (mkF x.m 0 #[.val (.ref r), .val (.ref m), .val (.int (Int32.ofNat R.length))] [])) := by
    intro _u
    refine g_iloadN X0 d49_0 rfl ?_
    by_cases hk : 0 < (Int32.ofNat R.length)
    ·
      refine g_ifF X0 d49_1 (XT.i0_le_f hk) ?_
      have hk' : 0 < R.length := (k_litlt (j := 0) (by decide) (by omega)).mp hk
      refine g_aloadN X0 d49_4 rfl rfl ?_
      refine g_iconst X0 (0 : Int32) d49_5 (by decide) ?_
      refine g_baload X0 d49_6 Ar 0 rfl (v := .int R[0]) (by simp [hk']) ?_
      refine g_aloadN X0 d49_7 rfl rfl ?_
      refine g_iconst X0 (0 : Int32) d49_8 (by decide) ?_
      refine g_baload X0 d49_9 Am 0 rfl (v := .int R[0]) (by rw [List.getElem?_append_left (by simp; omega)]; simp [hk']) ?_
      refine g_icmpT X0 d49_10 (XT.ii_eq_t rfl) ?_
      exact J1_ ()
    ·
      refine g_ifT X0 d49_1 (XT.i0_le_t hk) ?_
      exact J1_ ()
  exact J0_ ()
set_option maxRecDepth 65536 in
set_option maxHeartbeats 40000000 in
theorem c_thrInit {nw : Bool} {l : Launch} {Z : State} {EL : List (String × Nat)} {a0 : Array Value} (hw : HW Z a0) (hs : Sts Z) {h0 : Heap} {B0 : BP} (a : Addr) (rv : Value) (rr : rv.isRef = true) (E_a : Exa Z h0 a "com/example/musterpoint/musterpoint/registry/Problem") {u_cause : Value} (F_cause : Fld Z h0 a "java/lang/Throwable" "cause" "Ljava/lang/Throwable;" u_cause) {u_stackTrace : Value} (F_stackTrace : Fld Z h0 a "java/lang/Throwable" "stackTrace" "[Ljava/lang/StackTraceElement;" u_stackTrace) {u_suppressedExceptions : Value} (F_suppressedExceptions : Fld Z h0 a "java/lang/Throwable" "suppressedExceptions" "Ljava/util/List;" u_suppressedExceptions) {u_detailMessage : Value} (F_detailMessage : Fld Z h0 a "java/lang/Throwable" "detailMessage" "Ljava/lang/String;" u_detailMessage) {u_status : Value} (F_status : Fld Z h0 a "com/example/musterpoint/musterpoint/registry/Problem" "status" "I" u_status) (nb_a : ¬ B0 a) (zl_a : Z.heap.size ≤ a)  :
    Con nw l Z EL (⟨"java/lang/Throwable", "<init>", "(Ljava/lang/String;Ljava/lang/Throwable;ZZ)V"⟩ : MethodName) jdk_78_method_5_code 5 none [] ({ frames := 1, cells := 0, slots := 0, locals := 12 } : Room) #[(.ref a), rv, .null, (.int (0 : Int32)), (.int (0 : Int32))] h0 B0 [a] (fun v h B => v = none ∧ B0 = B ∧ Exa Z h a "com/example/musterpoint/musterpoint/registry/Problem" ∧ Fld Z h a "java/lang/Throwable" "detailMessage" "Ljava/lang/String;" rv ∧ Fld Z h a "com/example/musterpoint/musterpoint/registry/Problem" "status" "I" u_status) := by
  refine k_intro (Ls := #[.val (.ref a), .val rv, .val .null, .val (.int (0 : Int32)), .val (.int (0 : Int32))]) (by decide +kernel) (by rcases ref_cases rr with rfl | ⟨_, rfl⟩ <;> rfl) fun x T0 X0 => ?_
  obtain ⟨us, ss, sUS, rus, sSS, rss⟩ := hs.2.2.2.2.1
  have lt_a := k_ltE E_a
  refine g_aloadN X0 d50_0 rfl rfl ?_
  refine g_init X0 d50_1 rfl rfl (w25 hw) (w26 hw) (w27 hw) 0 rfl (by decide) (Nat.le_of_eq rfl) (by decide) fun T1 X1 => ?_
  refine g_aloadN X1 d50_4 rfl rfl ?_
  refine g_aloadN X1 d50_5 rfl rfl ?_
  refine g_putfield X1 d50_6 (w28 hw) Via.refl F_cause E_a (Or.inl (w29 hw)) (w9 hw) (ty := (.object "java/lang/Throwable")) (v' := (.ref a)) (by decide) rfl rfl nb_a zl_a (Or.inl (List.mem_of_getElem? (i := 0) rfl)) fun T2 h2 X2 W2 => ?_
  have z2 := W2.size; have Fw2 := F_cause.same W2
  refine g_aloadN X2 d50_9 rfl rfl ?_
  refine g_getstatic X2 d50_10 (w30 hw) Via.refl sUS fun T3 X3 => ?_
  have F4 := (F_stackTrace.other W2 (Or.inr (slot_ne (Or.inl (w32 hw)) (Or.inl (w29 hw)) (by decide) (t := (.array (.object "java/lang/StackTraceElement"))) (t' := (.object "java/lang/Throwable")) (by decide) (by decide))))
  have E_5 := (E_a.wr W2)
  refine g_putfield X3 d50_13 (w31 hw) Via.refl F4 E_5 (Or.inl (w32 hw)) (w9 hw) (ty := (.array (.object "java/lang/StackTraceElement"))) (v' := us) (by decide) (k_narref _ rus) (k_fitref rfl rus) nb_a zl_a (Or.inl (List.mem_of_getElem? (i := 0) rfl)) fun T6 h6 X6 W6 => ?_
  have z6 := W6.size; have Fw6 := F4.same W6
  refine g_aloadN X6 d50_16 rfl rfl ?_
  refine g_getstatic X6 d50_17 (w33 hw) Via.refl sSS fun T7 X7 => ?_
  have F8 := ((F_suppressedExceptions.other W2 (Or.inr (slot_ne (Or.inl (w35 hw)) (Or.inl (w29 hw)) (by decide) (t := (.object "java/util/List")) (t' := (.object "java/lang/Throwable")) (by decide) (by decide)))).other W6 (Or.inr (slot_ne (Or.inl (w35 hw)) (Or.inl (w32 hw)) (by decide) (t := (.object "java/util/List")) (t' := (.array (.object "java/lang/StackTraceElement"))) (by decide) (by decide))))
  have E_9 := (E_5.wr W6)
  refine g_putfield X7 d50_20 (w34 hw) Via.refl F8 E_9 (Or.inl (w35 hw)) (w9 hw) (ty := (.object "java/util/List")) (v' := ss) (by decide) (k_narref _ rss) (k_fitref rfl rss) nb_a zl_a (Or.inl (List.mem_of_getElem? (i := 0) rfl)) fun T10 h10 X10 W10 => ?_
  have z10 := W10.size; have Fw10 := F8.same W10
  refine g_iload X10 d50_23 rfl ?_
  refine g_ifT X10 d50_25 (by decide) ?_
  refine g_aloadN X10 d50_36 rfl rfl ?_
  refine g_aconst_null X10 d50_37 ?_
  have F11 := (Fw6.other W10 (Or.inr (slot_ne (Or.inl (w32 hw)) (Or.inl (w35 hw)) (by decide) (t := (.array (.object "java/lang/StackTraceElement"))) (t' := (.object "java/util/List")) (by decide) (by decide))))
  have E_12 := (E_9.wr W10)
  refine g_putfield X10 d50_38 (w31 hw) Via.refl F11 E_12 (Or.inl (w32 hw)) (w9 hw) (ty := (.array (.object "java/lang/StackTraceElement"))) (v' := .null) (by decide) rfl rfl nb_a zl_a (Or.inl (List.mem_of_getElem? (i := 0) rfl)) fun T13 h13 X13 W13 => ?_
  have z13 := W13.size; have Fw13 := F11.same W13
  refine g_aloadN X13 d50_41 rfl rfl ?_
  refine g_aloadN X13 d50_42 rfl rr ?_
  have F14 := ((((F_detailMessage.other W2 (Or.inr (slot_ne (Or.inl (w37 hw)) (Or.inl (w29 hw)) (by decide) (t := (.object "java/lang/String")) (t' := (.object "java/lang/Throwable")) (by decide) (by decide)))).other W6 (Or.inr (slot_ne (Or.inl (w37 hw)) (Or.inl (w32 hw)) (by decide) (t := (.object "java/lang/String")) (t' := (.array (.object "java/lang/StackTraceElement"))) (by decide) (by decide)))).other W10 (Or.inr (slot_ne (Or.inl (w37 hw)) (Or.inl (w35 hw)) (by decide) (t := (.object "java/lang/String")) (t' := (.object "java/util/List")) (by decide) (by decide)))).other W13 (Or.inr (slot_ne (Or.inl (w37 hw)) (Or.inl (w32 hw)) (by decide) (t := (.object "java/lang/String")) (t' := (.array (.object "java/lang/StackTraceElement"))) (by decide) (by decide))))
  have E_15 := (E_12.wr W13)
  refine g_putfield X13 d50_43 (w36 hw) Via.refl F14 E_15 (Or.inl (w37 hw)) (w9 hw) (ty := (.object "java/lang/String")) (v' := rv) (by decide) (k_narref _ rr) (k_fitref rfl rr) nb_a zl_a (Or.inl (List.mem_of_getElem? (i := 0) rfl)) fun T16 h16 X16 W16 => ?_
  have z16 := W16.size; have Fw16 := F14.same W16
  refine g_aloadN X16 d50_46 rfl rfl ?_
  refine g_aloadN X16 d50_47 rfl rfl ?_
  have F17 := ((((Fw2.other W6 (Or.inr (slot_ne (Or.inl (w29 hw)) (Or.inl (w32 hw)) (by decide) (t := (.object "java/lang/Throwable")) (t' := (.array (.object "java/lang/StackTraceElement"))) (by decide) (by decide)))).other W10 (Or.inr (slot_ne (Or.inl (w29 hw)) (Or.inl (w35 hw)) (by decide) (t := (.object "java/lang/Throwable")) (t' := (.object "java/util/List")) (by decide) (by decide)))).other W13 (Or.inr (slot_ne (Or.inl (w29 hw)) (Or.inl (w32 hw)) (by decide) (t := (.object "java/lang/Throwable")) (t' := (.array (.object "java/lang/StackTraceElement"))) (by decide) (by decide)))).other W16 (Or.inr (slot_ne (Or.inl (w29 hw)) (Or.inl (w37 hw)) (by decide) (t := (.object "java/lang/Throwable")) (t' := (.object "java/lang/String")) (by decide) (by decide))))
  have E_18 := (E_15.wr W16)
  refine g_putfield X16 d50_48 (w28 hw) Via.refl F17 E_18 (Or.inl (w29 hw)) (w9 hw) (ty := (.object "java/lang/Throwable")) (v' := .null) (by decide) rfl rfl nb_a zl_a (Or.inl (List.mem_of_getElem? (i := 0) rfl)) fun T19 h19 X19 W19 => ?_
  have z19 := W19.size; have Fw19 := F17.same W19
  refine g_iloadN X19 d50_51 rfl ?_
  refine g_ifF X19 d50_52 (by decide) ?_
  refine g_aloadN X19 d50_55 rfl rfl ?_
  refine g_aconst_null X19 d50_56 ?_
  have F20 := (((Fw10.other W13 (Or.inr (slot_ne (Or.inl (w35 hw)) (Or.inl (w32 hw)) (by decide) (t := (.object "java/util/List")) (t' := (.array (.object "java/lang/StackTraceElement"))) (by decide) (by decide)))).other W16 (Or.inr (slot_ne (Or.inl (w35 hw)) (Or.inl (w37 hw)) (by decide) (t := (.object "java/util/List")) (t' := (.object "java/lang/String")) (by decide) (by decide)))).other W19 (Or.inr (slot_ne (Or.inl (w35 hw)) (Or.inl (w29 hw)) (by decide) (t := (.object "java/util/List")) (t' := (.object "java/lang/Throwable")) (by decide) (by decide))))
  have E_21 := (E_18.wr W19)
  refine g_putfield X19 d50_57 (w34 hw) Via.refl F20 E_21 (Or.inl (w35 hw)) (w9 hw) (ty := (.object "java/util/List")) (v' := .null) (by decide) rfl rfl nb_a zl_a (Or.inl (List.mem_of_getElem? (i := 0) rfl)) fun T22 h22 X22 W22 => ?_
  have z22 := W22.size; have Fw22 := F20.same W22
  have E_23 := (E_21.wr W22)
  have F24 := ((Fw16.other W19 (Or.inr (slot_ne (Or.inl (w37 hw)) (Or.inl (w29 hw)) (by decide) (t := (.object "java/lang/String")) (t' := (.object "java/lang/Throwable")) (by decide) (by decide)))).other W22 (Or.inr (slot_ne (Or.inl (w37 hw)) (Or.inl (w35 hw)) (by decide) (t := (.object "java/lang/String")) (t' := (.object "java/util/List")) (by decide) (by decide))))
  have F25 := (((((((F_status.other W2 (Or.inr (slot_ne (Or.inr (w39 hw)) (Or.inl (w29 hw)) (by decide) (t := .int) (t' := (.object "java/lang/Throwable")) (by decide) (by decide)))).other W6 (Or.inr (slot_ne (Or.inr (w39 hw)) (Or.inl (w32 hw)) (by decide) (t := .int) (t' := (.array (.object "java/lang/StackTraceElement"))) (by decide) (by decide)))).other W10 (Or.inr (slot_ne (Or.inr (w39 hw)) (Or.inl (w35 hw)) (by decide) (t := .int) (t' := (.object "java/util/List")) (by decide) (by decide)))).other W13 (Or.inr (slot_ne (Or.inr (w39 hw)) (Or.inl (w32 hw)) (by decide) (t := .int) (t' := (.array (.object "java/lang/StackTraceElement"))) (by decide) (by decide)))).other W16 (Or.inr (slot_ne (Or.inr (w39 hw)) (Or.inl (w37 hw)) (by decide) (t := .int) (t' := (.object "java/lang/String")) (by decide) (by decide)))).other W19 (Or.inr (slot_ne (Or.inr (w39 hw)) (Or.inl (w29 hw)) (by decide) (t := .int) (t' := (.object "java/lang/Throwable")) (by decide) (by decide)))).other W22 (Or.inr (slot_ne (Or.inr (w39 hw)) (Or.inl (w35 hw)) (by decide) (t := .int) (t' := (.object "java/util/List")) (by decide) (by decide))))
  exact g_return X22 d50_60 (by decide) (by decide) ⟨rfl, rfl, E_23, F24, F25⟩
set_option maxRecDepth 65536 in
set_option maxHeartbeats 40000000 in
theorem c_excInit {nw : Bool} {l : Launch} {Z : State} {EL : List (String × Nat)} {a0 : Array Value} (hw : HW Z a0) (hs : Sts Z) {h0 : Heap} {B0 : BP} (a : Addr) (rv : Value) (rr : rv.isRef = true) (E_a : Exa Z h0 a "com/example/musterpoint/musterpoint/registry/Problem") {u_cause : Value} (F_cause : Fld Z h0 a "java/lang/Throwable" "cause" "Ljava/lang/Throwable;" u_cause) {u_stackTrace : Value} (F_stackTrace : Fld Z h0 a "java/lang/Throwable" "stackTrace" "[Ljava/lang/StackTraceElement;" u_stackTrace) {u_suppressedExceptions : Value} (F_suppressedExceptions : Fld Z h0 a "java/lang/Throwable" "suppressedExceptions" "Ljava/util/List;" u_suppressedExceptions) {u_detailMessage : Value} (F_detailMessage : Fld Z h0 a "java/lang/Throwable" "detailMessage" "Ljava/lang/String;" u_detailMessage) {u_status : Value} (F_status : Fld Z h0 a "com/example/musterpoint/musterpoint/registry/Problem" "status" "I" u_status) (nb_a : ¬ B0 a) (zl_a : Z.heap.size ≤ a)  :
    Con nw l Z EL (⟨"java/lang/Exception", "<init>", "(Ljava/lang/String;Ljava/lang/Throwable;ZZ)V"⟩ : MethodName) jdk_59_method_5_code 5 none [] ({ frames := 2, cells := 0, slots := 0, locals := 28 } : Room) #[(.ref a), rv, .null, (.int (0 : Int32)), (.int (0 : Int32))] h0 B0 [a] (fun v h B => v = none ∧ B0 = B ∧ Exa Z h a "com/example/musterpoint/musterpoint/registry/Problem" ∧ Fld Z h a "java/lang/Throwable" "detailMessage" "Ljava/lang/String;" rv ∧ Fld Z h a "com/example/musterpoint/musterpoint/registry/Problem" "status" "I" u_status) := by
  refine k_intro (Ls := #[.val (.ref a), .val rv, .val .null, .val (.int (0 : Int32)), .val (.int (0 : Int32))]) (by decide +kernel) (by rcases ref_cases rr with rfl | ⟨_, rfl⟩ <;> rfl) fun x T0 X0 => ?_
  have lt_a := k_ltE E_a
  refine g_aloadN X0 d51_0 rfl rfl ?_
  refine g_aloadN X0 d51_1 rfl rr ?_
  refine g_aloadN X0 d51_2 rfl rfl ?_
  refine g_iloadN X0 d51_3 rfl ?_
  refine g_iload X0 d51_4 rfl ?_
  refine g_callI X0 d51_6 (w19 hw) (w20 hw) (w23 hw) (w24 hw) rfl (by decide) pd36 a [rv, .null, (.int (0 : Int32)), (.int (0 : Int32))] [] 0 (c_thrInit hw hs a rv rr E_a F_cause F_stackTrace F_suppressedExceptions F_detailMessage F_status nb_a zl_a) rfl rfl rfl (Nat.le_of_eq rfl) (by decide) (by decide) 0 0 rfl rfl (by decide) (by decide) (k_ws1 ⟨nb_a, zl_a, (Or.inl (List.mem_of_getElem? (i := 0) rfl))⟩) fun v1 T1 h1 B1 X1 K1 M1 q1 => ?_
  obtain ⟨rfl, rfl, R⟩ := q1
  have z1 := K1.1
  show Go x (T1.setTop (mkF x.m 9 #[.val (.ref a), .val rv, .val .null, .val (.int (0 : Int32)), .val (.int (0 : Int32))] []))
  exact g_return X1 d51_9 (by decide) (by decide) ⟨rfl, rfl, R⟩
set_option maxRecDepth 65536 in
set_option maxHeartbeats 40000000 in
theorem c_prInit {nw : Bool} {l : Launch} {Z : State} {EL : List (String × Nat)} {a0 : Array Value} (hw : HW Z a0) (hs : Sts Z) {h0 : Heap} {B0 : BP} (a : Addr) (st : Int32) (rv : Value) (rr : rv.isRef = true) (E_a : Exa Z h0 a "com/example/musterpoint/musterpoint/registry/Problem") {u_cause : Value} (F_cause : Fld Z h0 a "java/lang/Throwable" "cause" "Ljava/lang/Throwable;" u_cause) {u_stackTrace : Value} (F_stackTrace : Fld Z h0 a "java/lang/Throwable" "stackTrace" "[Ljava/lang/StackTraceElement;" u_stackTrace) {u_suppressedExceptions : Value} (F_suppressedExceptions : Fld Z h0 a "java/lang/Throwable" "suppressedExceptions" "Ljava/util/List;" u_suppressedExceptions) {u_detailMessage : Value} (F_detailMessage : Fld Z h0 a "java/lang/Throwable" "detailMessage" "Ljava/lang/String;" u_detailMessage) {u_status : Value} (F_status : Fld Z h0 a "com/example/musterpoint/musterpoint/registry/Problem" "status" "I" u_status) (nb_a : ¬ B0 a) (zl_a : Z.heap.size ≤ a)  :
    Con nw l Z EL (⟨"com/example/musterpoint/musterpoint/registry/Problem", "<init>", "(ILjava/lang/String;)V"⟩ : MethodName) prog_15_method_1_code 3 none [] ({ frames := 3, cells := 0, slots := 0, locals := 44 } : Room) #[(.ref a), (.int st), rv] h0 B0 [a] (fun v h B => v = none ∧ B0 = B ∧ Exa Z h a "com/example/musterpoint/musterpoint/registry/Problem" ∧ Fld Z h a "java/lang/Throwable" "detailMessage" "Ljava/lang/String;" rv ∧ Fld Z h a "com/example/musterpoint/musterpoint/registry/Problem" "status" "I" (.int st)) := by
  refine k_intro (Ls := #[.val (.ref a), .val (.int st), .val rv]) (by decide +kernel) (by rcases ref_cases rr with rfl | ⟨_, rfl⟩ <;> rfl) fun x T0 X0 => ?_
  have lt_a := k_ltE E_a
  refine g_aloadN X0 d52_0 rfl rfl ?_
  refine g_aloadN X0 d52_1 rfl rr ?_
  refine g_aconst_null X0 d52_2 ?_
  refine g_iconst X0 (0 : Int32) d52_3 (by decide) ?_
  refine g_iconst X0 (0 : Int32) d52_4 (by decide) ?_
  refine g_callI X0 d52_5 (w14 hw) (w15 hw) (w17 hw) (w18 hw) rfl (by decide) pd36 a [rv, .null, (.int (0 : Int32)), (.int (0 : Int32))] [] 0 (c_excInit hw hs a rv rr E_a F_cause F_stackTrace F_suppressedExceptions F_detailMessage F_status nb_a zl_a) rfl rfl rfl (Nat.le_of_eq rfl) (by decide) (by decide) 0 0 rfl rfl (by decide) (by decide) (k_ws1 ⟨nb_a, zl_a, (Or.inl (List.mem_of_getElem? (i := 0) rfl))⟩) fun v1 T1 h1 B1 X1 K1 M1 q1 => ?_
  obtain ⟨rfl, rfl, Ea', Fd', Fs'⟩ := q1
  have z1 := K1.1
  show Go x (T1.setTop (mkF x.m 8 #[.val (.ref a), .val (.int st), .val rv] []))
  refine g_aloadN X1 d52_8 rfl rfl ?_
  refine g_iloadN X1 d52_9 rfl ?_
  refine g_putfield X1 d52_10 (w38 hw) Via.refl Fs' Ea' (Or.inr ⟨(w39 hw), rfl, rfl⟩) (w9 hw) (ty := .int) (v' := (.int st)) (by decide) rfl rfl nb_a zl_a (Or.inl (List.mem_of_getElem? (i := 0) rfl)) fun T2 h2 X2 W2 => ?_
  have z2 := W2.size; have Fw2 := Fs'.same W2
  have E_3 := (Ea'.wr W2)
  have F4 := (Fd'.other W2 (Or.inr (slot_ne (Or.inl (w37 hw)) (Or.inr (w39 hw)) (by decide) (t := (.object "java/lang/String")) (t' := .int) (by decide) (by decide))))
  exact g_return X2 d52_13 (by decide) (by decide) ⟨rfl, rfl, E_3, F4, Fw2⟩
set_option maxRecDepth 65536 in
set_option maxHeartbeats 40000000 in
theorem c_getMsg {nw : Bool} {l : Launch} {Z : State} {EL : List (String × Nat)} {a0 : Array Value} (hw : HW Z a0) (hs : Sts Z) {h0 : Heap} {B0 : BP} (a : Addr) (rv : Value) (rr : rv.isRef = true) (F : Fld Z h0 a "java/lang/Throwable" "detailMessage" "Ljava/lang/String;" rv) :
    Con nw l Z EL (⟨"java/lang/Throwable", "getMessage", "()Ljava/lang/String;"⟩ : MethodName) jdk_78_method_6_code 1 (some (.object "java/lang/String")) [] ({ frames := 0, cells := 0, slots := 0, locals := 0 } : Room) #[(.ref a)] h0 B0 [] (PQ (some rv) h0 B0) := by
  refine k_intro (Ls := #[.val (.ref a)]) (by decide +kernel) rfl fun x T0 X0 => ?_
  refine g_aloadN X0 d53_0 rfl rfl ?_
  refine g_getfield X0 d53_1 (w36 hw) Via.refl F fun T1 X1 => ?_
  exact g_areturn X1 d53_4 rfl (k_narref _ rr) rr (by decide) (by decide) ⟨rfl, rfl, rfl⟩
set_option maxRecDepth 65536 in
set_option maxHeartbeats 40000000 in
theorem c_body {l : Launch} {Z : State} {EL : List (String × Nat)} {a0 : Array Value} (hw : HW Z a0) (hs : Sts Z) {h0 : Heap} {B0 : BP} (pr : Addr) (rv : Value) (P : List Int32) (E_pr : Exa Z h0 pr "com/example/musterpoint/musterpoint/registry/Problem") (F_pr : Fld Z h0 pr "java/lang/Throwable" "detailMessage" "Ljava/lang/String;" rv) (hR : Rsn Z h0 h0.size rv P) (hEn : ("com/example/musterpoint/musterpoint/registry/Problem", 50) ∈ EL) :
    Con false l Z EL (⟨"com/example/musterpoint/musterpoint/registry/Problem", "body", "()[B"⟩ : MethodName) prog_15_method_5_code 1 (some (.array .byte)) [] ({ frames := 10, cells := 9, slots := 124, locals := 143 } : Room) #[(.ref pr)] h0 B0 [] (fun v h B => ∃ r, v = some (.ref r) ∧ Ay Z h r .byte ((P ++ [10]).map Value.int)) := by
  refine k_intro (Ls := #[.val (.ref pr)]) (by decide +kernel) rfl fun x T0 X0 => ?_
  have lt_pr := k_ltE E_pr
  obtain ⟨u, sU1, sU2⟩ := hs.2.2.2.1
  rcases hR with ⟨rfl, rfl⟩ | ⟨a, cs, rfl, ⟨hc16, ⟨hlo, S⟩ | S⟩, hns, hle3, rfl⟩
  ·
    refine g_new X0 d54_0 (w45 hw) (w46 hw) (w47 hw) 1 4 rfl rfl (by decide) (by decide) fun T1 h1 b1 X1 E1 eb1 nb1 Ex1 D1 => ?_
    have z1 := E1.1; have lt1 : @LT.lt Nat _ b1 h1.size := Ex1.lt; have zl1 : @LE.le Nat _ Z.heap.size b1 := eb1 ▸ X0.szZ; have fr1 : @LE.le Nat _ h0.size b1 := eb1 ▸ X0.sz
    have F1_value : Fld Z h1 b1 "java/lang/AbstractStringBuilder" "value" "[B" .null := D1 (Or.inl (w61 hw)) (ty := (.array .byte)) (by decide)
    have F1_coder : Fld Z h1 b1 "java/lang/AbstractStringBuilder" "coder" "B" (.int (0 : Int32)) := D1 (Or.inl (w63 hw)) (ty := .byte) (by decide)
    have F1_count : Fld Z h1 b1 "java/lang/AbstractStringBuilder" "count" "I" (.int (0 : Int32)) := D1 (Or.inl (w86 hw)) (ty := .int) (by decide)
    have F1_maybeLatin1 : Fld Z h1 b1 "java/lang/AbstractStringBuilder" "maybeLatin1" "Z" (.int (0 : Int32)) := D1 (Or.inl (w283 hw)) (ty := .boolean) (by decide)
    refine g_dup X1 d54_3 rfl ?_
    refine g_callI X1 d54_4 (w48 hw) (w49 hw) (w47 hw) (w50 hw) rfl (by decide) pd28 b1 [] [(.ref b1)] 1 (c_sbInit2 hw hs b1 Ex1 F1_value F1_coder F1_count F1_maybeLatin1 nb1 zl1) rfl rfl rfl (Nat.le_of_eq rfl) (by decide) (by decide) 2 20 rfl rfl (by decide) (by decide) (k_ws1 ⟨nb1, zl1, (Or.inr fr1)⟩) fun v2 T2 h2 B2 X2 K2 M2 q2 => ?_
    obtain ⟨t, rfl, rfl, ft, nbt, S0, Fml⟩ := q2
    have z2 := K2.1
    show Go x (T2.setTop (mkF x.m 7 #[.val (.ref pr)] [(.ref b1)]))
    have zlt := Nat.le_trans X1.szZ ft; have wt : t ∈ ([] : List Addr) ∨ h0.size ≤ t := Or.inr (Nat.le_trans X1.sz ft); have lt_t := S0.2.2.2.2.lt
    refine g_aloadN X2 d54_7 rfl rfl ?_
    have F3 := ((F_pr.ext E1).keep K2 (ninS (k_neN (by omega)) nin0))
    have E_5 := ((E_pr.ext E1).keep K2)
    refine g_callM X2 d54_8 (w64 hw) (w65 hw) (w66 hw) (w68 hw) (w67 hw) (w23 hw) (w69 hw) (by decide) pd37 pr [] [(.ref b1)] 1 E_5 (c_getMsg hw hs pr .null rfl F3) rfl rfl rfl (Nat.le_of_eq rfl) (by decide) (by decide) 2 20 rfl rfl (by decide) (by decide) (fun _ q => nomatch q) fun v4 T4 h4 B4 X4 K4 M4 q4 => ?_
    obtain ⟨ea4, eb4, ec4⟩ := q4; have eb4 := eb4.symm; have ec4 := ec4.symm; subst ea4 eb4 ec4
    show Go x (T4.setTop (mkF x.m 11 #[.val (.ref pr)] [.null, (.ref b1)]))
    refine g_callV X4 d54_11 (w70 hw) (w71 hw) (w73 hw) (w72 hw) (w47 hw) (w74 hw) (by decide) pd38 b1 [.null] [] 0 S0.1 (c_sbAppN hw hs b1 t S0 nb1 zl1 nbt zlt) rfl rfl rfl (Nat.le_of_eq rfl) (by decide) (by decide) 2 20 rfl rfl (by decide) (by decide) (k_wsC ⟨nb1, zl1, (Or.inr fr1)⟩ (k_wsC ⟨nbt, zlt, wt⟩ (fun _ q => nomatch q))) fun v6 T6 h6 B6 X6 K6 M6 q6 => ?_
    obtain ⟨rfl, rfl, Sn⟩ := q6
    have z6 := K6.1
    show Go x (T6.setTop (mkF x.m 14 #[.val (.ref pr)] [(.ref b1)]))
    refine g_ldcC X6 rfl d54_14 (w97 hw) (strAtoms hw) hEn [(10 : Int32)] (by decide) (by decide +kernel) 4 (by decide) (by decide) 4 28 rfl rfl (by decide) (by decide) fun T7 h7 B7 s7 t7 X7 E7 M7 Es7 Fc7 Fv7 At7 ls7 lt7 hn7 => ?_
    have z7 := E7.1
    have Sn' := Sn.ext E7
    have nb8 : ¬ B7 b1 := (M7.no nb1 (by omega))
    have nb9 : ¬ B7 t := (M7.no nbt (by omega))
    refine g_callV X7 d54_16 (w70 hw) (w71 hw) (w73 hw) (w72 hw) (w47 hw) (w74 hw) (by decide) pd38 b1 [(.ref s7)] [] 0 Sn'.1 (c_sbApp hw hs b1 t s7 t7 [(110 : Int32), (117 : Int32), (108 : Int32), (108 : Int32)] [10] (List.replicate 12 0) Sn' Es7 Fc7 Fv7 At7 (by simp) (by simp) (Ne.symm (hn7 t nb9).2) nb8 zl1 nb9 zlt) rfl rfl rfl (Nat.le_of_eq rfl) (by decide) (by decide) 4 28 rfl rfl (by decide) (by decide) (k_wsC ⟨nb8, zl1, (Or.inr fr1)⟩ (k_wsC ⟨nb9, zlt, wt⟩ (fun _ q => nomatch q))) fun v10 T10 h10 B10 X10 K10 M10 q10 => ?_
    obtain ⟨rfl, rfl, Sx⟩ := q10
    have z10 := K10.1
    show Go x (T10.setTop (mkF x.m 19 #[.val (.ref pr)] [(.ref b1)]))
    refine g_callV X10 d54_19 (w136 hw) (w137 hw) (w139 hw) (w138 hw) (w47 hw) (w140 hw) (by decide) pd37 b1 [] [] 0 Sx.1 (c_toStr hw hs b1 t _ _ Sx (by simp) (by simp)) rfl rfl rfl (Nat.le_of_eq rfl) (by decide) (by decide) 6 48 rfl rfl (by decide) (by decide) (fun _ q => nomatch q) fun v11 T11 h11 B11 X11 K11 M11 q11 => ?_
    obtain ⟨b, r, rfl, rfl, fb, nb', fr', nr', Eb, Fbc, Fbv, Ar, Er⟩ := q11
    have z11 := K11.1
    show Go x (T11.setTop (mkF x.m 22 #[.val (.ref pr)] [(.ref b)]))
    refine g_getstatic X11 d54_22 (w179 hw) Via.refl sU1 fun T12 X12 => ?_
    refine g_callV X12 d54_25 (w181 hw) (w182 hw) (w184 hw) (w183 hw) (w59 hw) (w185 hw) (by decide) pd39 b [(.ref u)] [] 0 Eb (c_getBytes hw hs b r u ([(110 : Int32), (117 : Int32), (108 : Int32), (108 : Int32)] ++ [10]) sU2 Eb Fbc Fbv Ar Er (by simp) (by decide)) rfl rfl rfl (Nat.le_of_eq rfl) (by decide) (by decide) 8 112 rfl rfl (by decide) (by decide) (fun _ q => nomatch q) fun v13 T13 h13 B13 X13 K13 M13 q13 => ?_
    obtain ⟨o, rfl, rfl, fo, no, Ao, Eo⟩ := q13
    have z13 := K13.1
    show Go x (T13.setTop (mkF x.m 28 #[.val (.ref pr)] [(.ref o)]))
    rw [show utf8 ([(110 : Int32), (117 : Int32), (108 : Int32), (108 : Int32)] ++ [10]) = [(110 : Int32), (117 : Int32), (108 : Int32), (108 : Int32)] ++ [10] from by decide +kernel] at Ao
    exact g_areturn X13 d54_28 rfl rfl rfl (by decide) (by decide) ⟨o, rfl, Ao⟩
  ·
    obtain ⟨ta, la, lta, Ea, Fac, Fav, Ata⟩ := S
    have lt_a := k_ltE Ea; have lt_ta := Ata.lt
    refine g_new X0 d54_0 (w45 hw) (w46 hw) (w47 hw) 1 4 rfl rfl (by decide) (by decide) fun T14 h14 b14 X14 E14 eb14 nb14 Ex14 D14 => ?_
    have z14 := E14.1; have lt14 : @LT.lt Nat _ b14 h14.size := Ex14.lt; have zl14 : @LE.le Nat _ Z.heap.size b14 := eb14 ▸ X0.szZ; have fr14 : @LE.le Nat _ h0.size b14 := eb14 ▸ X0.sz
    have F14_value : Fld Z h14 b14 "java/lang/AbstractStringBuilder" "value" "[B" .null := D14 (Or.inl (w61 hw)) (ty := (.array .byte)) (by decide)
    have F14_coder : Fld Z h14 b14 "java/lang/AbstractStringBuilder" "coder" "B" (.int (0 : Int32)) := D14 (Or.inl (w63 hw)) (ty := .byte) (by decide)
    have F14_count : Fld Z h14 b14 "java/lang/AbstractStringBuilder" "count" "I" (.int (0 : Int32)) := D14 (Or.inl (w86 hw)) (ty := .int) (by decide)
    have F14_maybeLatin1 : Fld Z h14 b14 "java/lang/AbstractStringBuilder" "maybeLatin1" "Z" (.int (0 : Int32)) := D14 (Or.inl (w283 hw)) (ty := .boolean) (by decide)
    refine g_dup X14 d54_3 rfl ?_
    refine g_callI X14 d54_4 (w48 hw) (w49 hw) (w47 hw) (w50 hw) rfl (by decide) pd28 b14 [] [(.ref b14)] 1 (c_sbInit2 hw hs b14 Ex14 F14_value F14_coder F14_count F14_maybeLatin1 nb14 zl14) rfl rfl rfl (Nat.le_of_eq rfl) (by decide) (by decide) 2 20 rfl rfl (by decide) (by decide) (k_ws1 ⟨nb14, zl14, (Or.inr fr14)⟩) fun v15 T15 h15 B15 X15 K15 M15 q15 => ?_
    obtain ⟨t, rfl, rfl, ft, nbt, S0, Fml⟩ := q15
    have z15 := K15.1
    show Go x (T15.setTop (mkF x.m 7 #[.val (.ref pr)] [(.ref b14)]))
    have zlt := Nat.le_trans X14.szZ ft; have wt : t ∈ ([] : List Addr) ∨ h0.size ≤ t := Or.inr (Nat.le_trans X14.sz ft); have lt_t := S0.2.2.2.2.lt
    refine g_aloadN X15 d54_7 rfl rfl ?_
    have F16 := ((F_pr.ext E14).keep K15 (ninS (k_neN (by omega)) nin0))
    have E_18 := ((E_pr.ext E14).keep K15)
    refine g_callM X15 d54_8 (w64 hw) (w65 hw) (w66 hw) (w68 hw) (w67 hw) (w23 hw) (w69 hw) (by decide) pd37 pr [] [(.ref b14)] 1 E_18 (c_getMsg hw hs pr (.ref a) rfl F16) rfl rfl rfl (Nat.le_of_eq rfl) (by decide) (by decide) 2 20 rfl rfl (by decide) (by decide) (fun _ q => nomatch q) fun v17 T17 h17 B17 X17 K17 M17 q17 => ?_
    obtain ⟨ea17, eb17, ec17⟩ := q17; have eb17 := eb17.symm; have ec17 := ec17.symm; subst ea17 eb17 ec17
    show Go x (T17.setTop (mkF x.m 11 #[.val (.ref pr)] [(.ref a), (.ref b14)]))
    have E_19 := ((Ea.ext E14).keep K15)
    have F20 := ((Fac.ext E14).keep K15 (ninS (k_neN (by omega)) nin0))
    have F21 := ((Fav.ext E14).keep K15 (ninS (k_neN (by omega)) nin0))
    have A22 := ((Ata.ext E14).keep K15 (ninS (k_neN (by omega)) nin0))
    refine g_callV X17 d54_11 (w70 hw) (w71 hw) (w73 hw) (w72 hw) (w47 hw) (w74 hw) (by decide) pd38 b14 [(.ref a)] [] 0 S0.1 (c_sbApp hw hs b14 t a ta [] (cs.map lo8) (List.replicate 16 0) S0 E_19 F20 F21 A22 (by simp) (by simp; omega) (k_neN (by omega)) nb14 zl14 nbt zlt) rfl rfl rfl (Nat.le_of_eq rfl) (by decide) (by decide) 2 20 rfl rfl (by decide) (by decide) (k_wsC ⟨nb14, zl14, (Or.inr fr14)⟩ (k_wsC ⟨nbt, zlt, wt⟩ (fun _ q => nomatch q))) fun v23 T23 h23 B23 X23 K23 M23 q23 => ?_
    obtain ⟨rfl, rfl, Sn⟩ := q23
    have z23 := K23.1
    show Go x (T23.setTop (mkF x.m 14 #[.val (.ref pr)] [(.ref b14)]))
    refine g_ldcC X23 rfl d54_14 (w97 hw) (strAtoms hw) hEn [(10 : Int32)] (by decide) (by decide +kernel) 4 (by decide) (by decide) 4 28 rfl rfl (by decide) (by decide) fun T24 h24 B24 s24 t24 X24 E24 M24 Es24 Fc24 Fv24 At24 ls24 lt24 hn24 => ?_
    have z24 := E24.1
    have Sn' := Sn.ext E24
    have nb25 : ¬ B24 b14 := (M24.no nb14 (by omega))
    have nb26 : ¬ B24 t := (M24.no nbt (by omega))
    refine g_callV X24 d54_16 (w70 hw) (w71 hw) (w73 hw) (w72 hw) (w47 hw) (w74 hw) (by decide) pd38 b14 [(.ref s24)] [] 0 Sn'.1 (c_sbApp hw hs b14 t s24 t24 ([] ++ cs.map lo8) [10] ((List.replicate 16 0).drop (cs.map lo8).length) Sn' Es24 Fc24 Fv24 At24 (by simp; omega) (by simp; omega) (Ne.symm (hn24 t nb26).2) nb25 zl14 nb26 zlt) rfl rfl rfl (Nat.le_of_eq rfl) (by decide) (by decide) 4 28 rfl rfl (by decide) (by decide) (k_wsC ⟨nb25, zl14, (Or.inr fr14)⟩ (k_wsC ⟨nb26, zlt, wt⟩ (fun _ q => nomatch q))) fun v27 T27 h27 B27 X27 K27 M27 q27 => ?_
    obtain ⟨rfl, rfl, Sx⟩ := q27
    have z27 := K27.1
    show Go x (T27.setTop (mkF x.m 19 #[.val (.ref pr)] [(.ref b14)]))
    refine g_callV X27 d54_19 (w136 hw) (w137 hw) (w139 hw) (w138 hw) (w47 hw) (w140 hw) (by decide) pd37 b14 [] [] 0 Sx.1 (c_toStr hw hs b14 t _ _ Sx (by simp; omega) (by simp; omega)) rfl rfl rfl (Nat.le_of_eq rfl) (by decide) (by decide) 6 48 rfl rfl (by decide) (by decide) (fun _ q => nomatch q) fun v28 T28 h28 B28 X28 K28 M28 q28 => ?_
    obtain ⟨b, r, rfl, rfl, fb, nb', fr', nr', Eb, Fbc, Fbv, Ar, Er⟩ := q28
    have z28 := K28.1
    show Go x (T28.setTop (mkF x.m 22 #[.val (.ref pr)] [(.ref b)]))
    refine g_getstatic X28 d54_22 (w179 hw) Via.refl sU1 fun T29 X29 => ?_
    refine g_callV X29 d54_25 (w181 hw) (w182 hw) (w184 hw) (w183 hw) (w59 hw) (w185 hw) (by decide) pd39 b [(.ref u)] [] 0 Eb (c_getBytes hw hs b r u (([] ++ cs.map lo8) ++ [10]) sU2 Eb Fbc Fbv Ar Er (by simp; omega) (k_hb (k_hb (by simp) k_lolo) (by decide))) rfl rfl rfl (Nat.le_of_eq rfl) (by decide) (by decide) 8 112 rfl rfl (by decide) (by decide) (fun _ q => nomatch q) fun v30 T30 h30 B30 X30 K30 M30 q30 => ?_
    obtain ⟨o, rfl, rfl, fo, no, Ao, Eo⟩ := q30
    have z30 := K30.1
    show Go x (T30.setTop (mkF x.m 28 #[.val (.ref pr)] [(.ref o)]))
    rw [show utf8 (([] ++ cs.map lo8) ++ [10]) = cs.flatMap n8 ++ [10] from by rw [utf8_app, List.nil_append, k_l1 (fun c hc => ⟨hlo c hc, (hc16 c hc).2⟩), show utf8 [10] = [10] from by decide +kernel]] at Ao
    exact g_areturn X30 d54_28 rfl rfl rfl (by decide) (by decide) ⟨o, rfl, Ao⟩
  ·
    obtain ⟨ta, la, lta, Ea, Fac, Fav, Ata⟩ := S
    have lt_a := k_ltE Ea; have lt_ta := Ata.lt
    refine g_new X0 d54_0 (w45 hw) (w46 hw) (w47 hw) 1 4 rfl rfl (by decide) (by decide) fun T31 h31 b31 X31 E31 eb31 nb31 Ex31 D31 => ?_
    have z31 := E31.1; have lt31 : @LT.lt Nat _ b31 h31.size := Ex31.lt; have zl31 : @LE.le Nat _ Z.heap.size b31 := eb31 ▸ X0.szZ; have fr31 : @LE.le Nat _ h0.size b31 := eb31 ▸ X0.sz
    have F31_value : Fld Z h31 b31 "java/lang/AbstractStringBuilder" "value" "[B" .null := D31 (Or.inl (w61 hw)) (ty := (.array .byte)) (by decide)
    have F31_coder : Fld Z h31 b31 "java/lang/AbstractStringBuilder" "coder" "B" (.int (0 : Int32)) := D31 (Or.inl (w63 hw)) (ty := .byte) (by decide)
    have F31_count : Fld Z h31 b31 "java/lang/AbstractStringBuilder" "count" "I" (.int (0 : Int32)) := D31 (Or.inl (w86 hw)) (ty := .int) (by decide)
    have F31_maybeLatin1 : Fld Z h31 b31 "java/lang/AbstractStringBuilder" "maybeLatin1" "Z" (.int (0 : Int32)) := D31 (Or.inl (w283 hw)) (ty := .boolean) (by decide)
    refine g_dup X31 d54_3 rfl ?_
    refine g_callI X31 d54_4 (w48 hw) (w49 hw) (w47 hw) (w50 hw) rfl (by decide) pd28 b31 [] [(.ref b31)] 1 (c_sbInit2 hw hs b31 Ex31 F31_value F31_coder F31_count F31_maybeLatin1 nb31 zl31) rfl rfl rfl (Nat.le_of_eq rfl) (by decide) (by decide) 2 20 rfl rfl (by decide) (by decide) (k_ws1 ⟨nb31, zl31, (Or.inr fr31)⟩) fun v32 T32 h32 B32 X32 K32 M32 q32 => ?_
    obtain ⟨t, rfl, rfl, ft, nbt, S0, Fml⟩ := q32
    have z32 := K32.1
    show Go x (T32.setTop (mkF x.m 7 #[.val (.ref pr)] [(.ref b31)]))
    have zlt := Nat.le_trans X31.szZ ft; have wt : t ∈ ([] : List Addr) ∨ h0.size ≤ t := Or.inr (Nat.le_trans X31.sz ft); have lt_t := S0.2.2.2.2.lt
    refine g_aloadN X32 d54_7 rfl rfl ?_
    have F33 := ((F_pr.ext E31).keep K32 (ninS (k_neN (by omega)) nin0))
    have E_35 := ((E_pr.ext E31).keep K32)
    refine g_callM X32 d54_8 (w64 hw) (w65 hw) (w66 hw) (w68 hw) (w67 hw) (w23 hw) (w69 hw) (by decide) pd37 pr [] [(.ref b31)] 1 E_35 (c_getMsg hw hs pr (.ref a) rfl F33) rfl rfl rfl (Nat.le_of_eq rfl) (by decide) (by decide) 2 20 rfl rfl (by decide) (by decide) (fun _ q => nomatch q) fun v34 T34 h34 B34 X34 K34 M34 q34 => ?_
    obtain ⟨ea34, eb34, ec34⟩ := q34; have eb34 := eb34.symm; have ec34 := ec34.symm; subst ea34 eb34 ec34
    show Go x (T34.setTop (mkF x.m 11 #[.val (.ref pr)] [(.ref a), (.ref b31)]))
    have E_36 := ((Ea.ext E31).keep K32)
    have F37 := ((Fac.ext E31).keep K32 (ninS (k_neN (by omega)) nin0))
    have F38 := ((Fav.ext E31).keep K32 (ninS (k_neN (by omega)) nin0))
    have A39 := ((Ata.ext E31).keep K32 (ninS (k_neN (by omega)) nin0))
    refine g_callV X34 d54_11 (w70 hw) (w71 hw) (w73 hw) (w72 hw) (w47 hw) (w74 hw) (by decide) pd38 b31 [(.ref a)] [] 0 S0.1 (c_sbAppU hw hs b31 t a ta cs S0 Fml E_36 F37 F38 A39 hle3 nb31 zl31) rfl rfl rfl (Nat.le_of_eq rfl) (by decide) (by decide) 3 52 rfl rfl (by decide) (by decide) (k_ws1 ⟨nb31, zl31, (Or.inr fr31)⟩) fun v40 T40 h40 B40 X40 K40 M40 q40 => ?_
    obtain ⟨tu, rfl, rfl, ftu, nbtu, Sn⟩ := q40
    have z40 := K40.1
    show Go x (T40.setTop (mkF x.m 14 #[.val (.ref pr)] [(.ref b31)]))
    have zltu := Nat.le_trans X34.szZ ftu; have wtu : tu ∈ ([] : List Addr) ∨ h0.size ≤ tu := Or.inr (Nat.le_trans X34.sz ftu); have lt_tu := Sn.2.2.2.2.2.lt
    refine g_ldcC X40 rfl d54_14 (w97 hw) (strAtoms hw) hEn [(10 : Int32)] (by decide) (by decide +kernel) 4 (by decide) (by decide) 5 60 rfl rfl (by decide) (by decide) fun T41 h41 B41 s41 t41 X41 E41 M41 Es41 Fc41 Fv41 At41 ls41 lt41 hn41 => ?_
    have z41 := E41.1
    have Sn' := Sn.ext E41
    have nb42 : ¬ B41 b31 := (M41.no nb31 (by omega))
    have nb43 : ¬ B41 tu := (M41.no nbtu (by omega))
    refine g_callV X41 d54_16 (w70 hw) (w71 hw) (w73 hw) (w72 hw) (w47 hw) (w74 hw) (by decide) pd38 b31 [(.ref s41)] [] 0 Sn'.1 (c_sbAppNl hw hs b31 tu s41 t41 cs Sn' Es41 Fc41 Fv41 At41 hle3 (Ne.symm (hn41 tu nb43).2) nb42 zl31 nb43 zltu) rfl rfl rfl (Nat.le_of_eq rfl) (by decide) (by decide) 5 60 rfl rfl (by decide) (by decide) (k_wsC ⟨nb42, zl31, (Or.inr fr31)⟩ (k_wsC ⟨nb43, zltu, wtu⟩ (fun _ q => nomatch q))) fun v44 T44 h44 B44 X44 K44 M44 q44 => ?_
    obtain ⟨rfl, rfl, Sx⟩ := q44
    have z44 := K44.1
    show Go x (T44.setTop (mkF x.m 19 #[.val (.ref pr)] [(.ref b31)]))
    refine g_callV X44 d54_19 (w136 hw) (w137 hw) (w139 hw) (w138 hw) (w47 hw) (w140 hw) (by decide) pd37 b31 [] [] 0 Sx.1 (c_toStrU hw hs b31 tu (cs ++ [10]) Sx (by simp; omega)) rfl rfl rfl (Nat.le_of_eq rfl) (by decide) (by decide) 7 80 rfl rfl (by decide) (by decide) (fun _ q => nomatch q) fun v45 T45 h45 B45 X45 K45 M45 q45 => ?_
    obtain ⟨b, r, rfl, rfl, fb, nb', fr', nr', Eb, Fbc, Fbv, Ar⟩ := q45
    have z45 := K45.1
    show Go x (T45.setTop (mkF x.m 22 #[.val (.ref pr)] [(.ref b)]))
    refine g_getstatic X45 d54_22 (w179 hw) Via.refl sU1 fun T46 X46 => ?_
    refine g_callV X46 d54_25 (w181 hw) (w182 hw) (w184 hw) (w183 hw) (w59 hw) (w185 hw) (by decide) pd39 b [(.ref u)] [] 0 Eb (c_getBytesU hw hs b r u (cs ++ [10]) sU2 Eb Fbc Fbv Ar (by simp; omega) (k_allapp hc16 ⟨by decide, by decide⟩) (k_allapp hns (Or.inl (by decide)))) rfl rfl rfl (Nat.le_of_eq rfl) (by decide) (by decide) 9 124 rfl rfl (by decide) (by decide) (fun _ q => nomatch q) fun v47 T47 h47 B47 X47 K47 M47 q47 => ?_
    obtain ⟨o, rfl, rfl, fo, no, Ao⟩ := q47
    have z47 := K47.1
    show Go x (T47.setTop (mkF x.m 28 #[.val (.ref pr)] [(.ref o)]))
    rw [List.flatMap_append, show ([10] : List Int32).flatMap n8 = [10] from by decide +kernel] at Ao
    exact g_areturn X47 d54_28 rfl rfl rfl (by decide) (by decide) ⟨o, rfl, Ao⟩
set_option maxRecDepth 65536 in
set_option maxHeartbeats 40000000 in
theorem c_law {l : Launch} {Z : State} {a0 : Array Value} (hw : HW Z a0) (hs : Sts Z) {h0 : Heap} {B0 : BP} (p0 p1 p2 p3 p4 : Int32)  :
    Con false l Z consts_1 (⟨"com/example/musterpoint/musterpoint/registry/ProblemBodyPinLaw", "law", "(IIIII)Z"⟩ : MethodName) code 15 (some .boolean) tables_1 room_1 #[(.int p0), (.int p1), (.int p2), (.int p3), (.int p4)] h0 B0 [] (fun v h B => v = some (.int 1)) := by
  refine k_intro (Ls := #[.val (.int p0), .val (.int p1), .val (.int p2), .val (.int p3), .val (.int p4), .unset, .unset, .unset, .unset, .unset, .unset, .unset, .unset, .unset, .unset]) (by decide +kernel) rfl fun x T0 X0 => ?_
  have hEn : ("com/example/musterpoint/musterpoint/registry/Problem", 50) ∈ consts_1 := List.mem_of_getElem? (i := 0) rfl
  have hE : ("java/lang/String", 7) ∈ consts_1 := List.mem_of_getElem? (i := 1) rfl
  obtain ⟨nk, hk3, ek⟩ := k_and3n p1
  refine g_iloadN X0 d55_0 rfl ?_
  refine g_iconst X0 (3 : Int32) d55_1 (by decide) ?_
  refine g_iand X0 (Int32.ofNat nk) d55_2 ek ?_
  refine g_istore X0 #[.val (.int p0), .val (.int p1), .val (.int p2), .val (.int p3), .val (.int p4), .val (.int (Int32.ofNat nk)), .unset, .unset, .unset, .unset, .unset, .unset, .unset, .unset, .unset] d55_3 rfl ?_
  refine g_iloadN X0 d55_5 rfl ?_
  refine g_iconst X0 (2 : Int32) d55_6 (by decide) ?_
  refine g_iushr X0 (XT.ushr p1 (2 : Int32)) d55_7 rfl ?_
  refine g_bipush X0 (7 : Int32) d55_8 (by decide) ?_
  refine g_iand X0 ((XT.ushr p1 (2 : Int32)) &&& (7 : Int32)) d55_10 rfl ?_
  have rest : ∀ (P : List Int32) (wa wb : Int32) (bb ac : Addr) (rv : Value) (rr : rv.isRef = true) (hPl : P.length ≤ 9) (T : State) (h : Heap) (B : BP) (X : Wk false l Z consts_1 "com/example/musterpoint/musterpoint/registry/ProblemBodyPinLaw" code 15 (some .boolean) "law" room_1 h0 B0 [] (fun v h B => v = some (.int 1)) x T h B 8 64) (nbb : ¬ B bb) (zbb : Z.heap.size ≤ bb) (fbb : h0.size ≤ bb) (Abb : Ay Z h bb .byte (P.map Value.int ++ List.replicate (10 - P.length) (Value.int 0))) (hR : Rsn Z h h.size rv P), Go x (T.setTop (mkF x.m 172 #[.val (.int p0), .val (.int p1), .val (.int p2), .val (.int p3), .val (.int p4), .val (.int wa), .val (.int wb), .val (.int (chF p2)), .val (.int (chF p3)), .val (.int (chF p4)), .val (.ref bb), .val (.ref ac), .val (.int (Int32.ofNat P.length)), .val rv, .unset] [])) := by
    intro P wa wb bb ac rv rr hPl T h B X nbb zbb fbb Abb hR
    have lt_bb := Abb.lt
    refine g_aload X d55_172 rfl rfl ?_
    refine g_iload X d55_174 rfl ?_
    refine g_bipush X (10 : Int32) d55_176 (by decide) ?_
    refine g_bastore X d55_178 Abb P.length rfl (10 : Int32) (by decide) (by simp; omega) nbb zbb (Or.inr fbb) fun T1 h1 X1 K1 A1 => ?_
    have z1 := K1.1
    rw [k_put (by omega)] at A1
    have hR' := hR.keepB Abb (by simp; omega) K1 (w98 hw)
    refine g_iload X1 d55_179 rfl ?_
    refine g_iconst X1 (1 : Int32) d55_181 (by decide) ?_
    refine g_iadd X1 (Int32.ofNat (P ++ [10]).length) d55_182 ((k_add _ 1).trans (congrArg Int32.ofNat (by simp))) ?_
    refine g_istore X1 #[.val (.int p0), .val (.int p1), .val (.int p2), .val (.int p3), .val (.int p4), .val (.int wa), .val (.int wb), .val (.int (chF p2)), .val (.int (chF p3)), .val (.int (chF p4)), .val (.ref bb), .val (.ref ac), .val (.int (Int32.ofNat (P ++ [10]).length)), .val rv, .unset] d55_183 rfl ?_
    refine g_new X1 d55_185 (w8 hw) (w9 hw) (w10 hw) 9 71 rfl rfl (by decide) (by decide) fun T2 h2 b2 X2 E2 eb2 nb2 Ex2 D2 => ?_
    have z2 := E2.1; have lt2 : @LT.lt Nat _ b2 h2.size := Ex2.lt; have zl2 : @LE.le Nat _ Z.heap.size b2 := eb2 ▸ X1.szZ; have fr2 : @LE.le Nat _ h0.size b2 := eb2 ▸ X1.sz
    have F2_cause : Fld Z h2 b2 "java/lang/Throwable" "cause" "Ljava/lang/Throwable;" .null := D2 (Or.inl (w29 hw)) (ty := (.object "java/lang/Throwable")) (by decide)
    have F2_stackTrace : Fld Z h2 b2 "java/lang/Throwable" "stackTrace" "[Ljava/lang/StackTraceElement;" .null := D2 (Or.inl (w32 hw)) (ty := (.array (.object "java/lang/StackTraceElement"))) (by decide)
    have F2_suppressedExceptions : Fld Z h2 b2 "java/lang/Throwable" "suppressedExceptions" "Ljava/util/List;" .null := D2 (Or.inl (w35 hw)) (ty := (.object "java/util/List")) (by decide)
    have F2_detailMessage : Fld Z h2 b2 "java/lang/Throwable" "detailMessage" "Ljava/lang/String;" .null := D2 (Or.inl (w37 hw)) (ty := (.object "java/lang/String")) (by decide)
    have F2_status : Fld Z h2 b2 "com/example/musterpoint/musterpoint/registry/Problem" "status" "I" (.int (0 : Int32)) := D2 (Or.inr (w39 hw)) (ty := .int) (by decide)
    refine g_dup X2 d55_188 rfl ?_
    refine g_iloadN X2 d55_189 rfl ?_
    refine g_aload X2 d55_190 rfl rr ?_
    refine g_callI X2 d55_192 (w11 hw) (w12 hw) (w10 hw) (w13 hw) rfl (by decide) pd5 b2 [(.int p0), rv] [(.ref b2)] 1 (c_prInit hw hs b2 p0 rv rr Ex2 F2_cause F2_stackTrace F2_suppressedExceptions F2_detailMessage F2_status nb2 zl2) rfl rfl rfl (Nat.le_of_eq rfl) (by decide) (by decide) 9 71 rfl rfl (by decide) (by decide) (k_ws1 ⟨nb2, zl2, (Or.inr fr2)⟩) fun v3 T3 h3 B3 X3 K3 M3 q3 => ?_
    obtain ⟨rfl, rfl, Epr, Fpr, Fst⟩ := q3
    have z3 := K3.1
    show Go x (T3.setTop (mkF x.m 195 #[.val (.int p0), .val (.int p1), .val (.int p2), .val (.int p3), .val (.int p4), .val (.int wa), .val (.int wb), .val (.int (chF p2)), .val (.int (chF p3)), .val (.int (chF p4)), .val (.ref bb), .val (.ref ac), .val (.int (Int32.ofNat (P ++ [10]).length)), .val rv, .unset] [(.ref b2)]))
    have U4 := ((hR'.ext E2).keep K3 (allS (by omega) all0))
    refine g_callV X3 d55_195 (w40 hw) (w41 hw) (w43 hw) (w42 hw) (w10 hw) (w44 hw) (by decide) pd10 b2 [] [] 0 Epr (c_body hw hs b2 rv P Epr Fpr (U4.mono (by omega)) hEn) rfl rfl rfl (Nat.le_of_eq rfl) (by decide) (by decide) 18 195 rfl rfl (by decide) (by decide) (fun _ q => nomatch q) fun v5 T5 h5 B5 X5 K5 M5 q5 => ?_
    obtain ⟨ro, rfl, Aro⟩ := q5
    have z5 := K5.1
    show Go x (T5.setTop (mkF x.m 198 #[.val (.int p0), .val (.int p1), .val (.int p2), .val (.int p3), .val (.int p4), .val (.int wa), .val (.int wb), .val (.int (chF p2)), .val (.int (chF p3)), .val (.int (chF p4)), .val (.ref bb), .val (.ref ac), .val (.int (Int32.ofNat (P ++ [10]).length)), .val rv, .unset] [(.ref ro)]))
    refine g_astore X5 #[.val (.int p0), .val (.int p1), .val (.int p2), .val (.int p3), .val (.int p4), .val (.int wa), .val (.int wb), .val (.int (chF p2)), .val (.int (chF p3)), .val (.int (chF p4)), .val (.ref bb), .val (.ref ac), .val (.int (Int32.ofNat (P ++ [10]).length)), .val rv, .val (.ref ro)] d55_198 rfl (by rcases ref_cases rr with rfl | ⟨_, rfl⟩ <;> rfl) ?_
    refine g_aload X5 d55_200 rfl rfl ?_
    refine g_ifnullF X5 d55_202 ?_
    refine g_aload X5 d55_205 rfl rfl ?_
    refine g_arraylength X5 d55_207 Aro (Int32.ofNat (P ++ [10]).length) (by simp) ?_
    refine g_iload X5 d55_208 rfl ?_
    refine g_icmpT X5 d55_210 (XT.ii_eq_t rfl) ?_
    refine g_aload X5 d55_215 rfl rfl ?_
    refine g_aload X5 d55_217 rfl rfl ?_
    refine g_iload X5 d55_219 rfl ?_
    have A6 := (((A1.ext E2).keep K3 (ninS (k_neN (by omega)) nin0)).keep K5 nin0)
    refine g_callSp X5 d55_221 (w210 hw) (w211 hw) (w2 hw) (w212 hw) (by decide) pd40 [(.ref ro), (.ref bb), (.int (Int32.ofNat (P ++ [10]).length))] [] 0 (c_same hw hs ro bb (P ++ [10]) Aro A6 (by simp; omega)) rfl rfl rfl (Nat.le_of_eq rfl) (by decide) (by decide) 18 195 rfl rfl (by decide) (by decide) fun T7 X7 => ?_
    exact g_ireturn (w' := (1 : Int32)) X7 d55_224 (Or.inl rfl) (by decide) (by decide) (by decide) rfl
  have J19 : ∀ (fl : Int32), Go x (T0.setTop (mkF x.m 19 #[.val (.int p0), .val (.int p1), .val (.int p2), .val (.int p3), .val (.int p4), .val (.int (Int32.ofNat nk)), .unset, .unset, .unset, .unset, .unset, .unset, .unset, .unset, .unset] [(.int fl)])) := by
    intro fl
    refine g_istore X0 #[.val (.int p0), .val (.int p1), .val (.int p2), .val (.int p3), .val (.int p4), .val (.int (Int32.ofNat nk)), .val (.int fl), .unset, .unset, .unset, .unset, .unset, .unset, .unset, .unset] d55_19 rfl ?_
    refine g_iloadN X0 d55_21 rfl ?_
    refine g_callSp X0 d55_22 (w0 hw) (w1 hw) (w2 hw) (w3 hw) (by decide) pd41 [(.int p2)] [] 0 (c_ch hw hs p2) rfl rfl rfl (Nat.le_of_eq rfl) (by decide) (by decide) 0 0 rfl rfl (by decide) (by decide) fun T8 X8 => ?_
    refine g_istore X8 #[.val (.int p0), .val (.int p1), .val (.int p2), .val (.int p3), .val (.int p4), .val (.int (Int32.ofNat nk)), .val (.int fl), .val (.int (chF p2)), .unset, .unset, .unset, .unset, .unset, .unset, .unset] d55_25 rfl ?_
    refine g_iloadN X8 d55_27 rfl ?_
    refine g_callSp X8 d55_28 (w0 hw) (w1 hw) (w2 hw) (w3 hw) (by decide) pd41 [(.int p3)] [] 0 (c_ch hw hs p3) rfl rfl rfl (Nat.le_of_eq rfl) (by decide) (by decide) 0 0 rfl rfl (by decide) (by decide) fun T9 X9 => ?_
    refine g_istore X9 #[.val (.int p0), .val (.int p1), .val (.int p2), .val (.int p3), .val (.int p4), .val (.int (Int32.ofNat nk)), .val (.int fl), .val (.int (chF p2)), .val (.int (chF p3)), .unset, .unset, .unset, .unset, .unset, .unset] d55_31 rfl ?_
    refine g_iload X9 d55_33 rfl ?_
    refine g_callSp X9 d55_35 (w0 hw) (w1 hw) (w2 hw) (w3 hw) (by decide) pd41 [(.int p4)] [] 0 (c_ch hw hs p4) rfl rfl rfl (Nat.le_of_eq rfl) (by decide) (by decide) 0 0 rfl rfl (by decide) (by decide) fun T10 X10 => ?_
    refine g_istore X10 #[.val (.int p0), .val (.int p1), .val (.int p2), .val (.int p3), .val (.int p4), .val (.int (Int32.ofNat nk)), .val (.int fl), .val (.int (chF p2)), .val (.int (chF p3)), .val (.int (chF p4)), .unset, .unset, .unset, .unset, .unset] d55_38 rfl ?_
    refine g_bipush X10 (10 : Int32) d55_40 (by decide) ?_
    refine g_newarray X10 d55_42 rfl (w6 hw) 10 10 (by decide) (Nat.le_refl _) (by decide) 1 10 rfl rfl (by decide) (by decide) fun T11 h11 b11 X11 E11 eb11 nb11 A11 => ?_
    have z11 := E11.1; have lt11 : @LT.lt Nat _ b11 h11.size := A11.lt; have zl11 : @LE.le Nat _ Z.heap.size b11 := eb11 ▸ X10.szZ; have fr11 : @LE.le Nat _ h0.size b11 := eb11 ▸ X10.sz
    have A11a : Ay Z h11 b11 .byte [(.int (0 : Int32)), (.int (0 : Int32)), (.int (0 : Int32)), (.int (0 : Int32)), (.int (0 : Int32)), (.int (0 : Int32)), (.int (0 : Int32)), (.int (0 : Int32)), (.int (0 : Int32)), (.int (0 : Int32))] := A11
    refine g_astore X11 #[.val (.int p0), .val (.int p1), .val (.int p2), .val (.int p3), .val (.int p4), .val (.int (Int32.ofNat nk)), .val (.int fl), .val (.int (chF p2)), .val (.int (chF p3)), .val (.int (chF p4)), .val (.ref b11), .unset, .unset, .unset, .unset] d55_44 rfl rfl ?_
    refine g_iload X11 d55_46 rfl ?_
    by_cases hfl : fl = 0
    ·
      rcases (show nk = 0 ∨ nk = 1 ∨ nk = 2 ∨ nk = 3 by omega) with rfl | rfl | rfl | rfl
      ·
        show Go x (T11.setTop (mkF x.m 48 #[.val (.int p0), .val (.int p1), .val (.int p2), .val (.int p3), .val (.int p4), .val (.int (0 : Int32)), .val (.int fl), .val (.int (chF p2)), .val (.int (chF p3)), .val (.int (chF p4)), .val (.ref b11), .unset, .unset, .unset, .unset] [(.int (0 : Int32))]))
        refine g_newarray X11 d55_48 rfl (w7 hw) 0 0 (by decide) (Nat.le_refl _) (by decide) 2 10 rfl rfl (by decide) (by decide) fun T12 h12 b12 X12 E12 eb12 nb12 A12 => ?_
        have z12 := E12.1; have lt12 : @LT.lt Nat _ b12 h12.size := A12.lt; have zl12 : @LE.le Nat _ Z.heap.size b12 := eb12 ▸ X11.szZ; have fr12 : @LE.le Nat _ h0.size b12 := eb12 ▸ X11.sz
        have A12a : Ay Z h12 b12 .char [] := A12
        refine g_astore X12 #[.val (.int p0), .val (.int p1), .val (.int p2), .val (.int p3), .val (.int p4), .val (.int (0 : Int32)), .val (.int fl), .val (.int (chF p2)), .val (.int (chF p3)), .val (.int (chF p4)), .val (.ref b11), .val (.ref b12), .unset, .unset, .unset] d55_50 rfl rfl ?_
        refine g_iconst X12 (0 : Int32) d55_52 (by decide) ?_
        refine g_istore X12 #[.val (.int p0), .val (.int p1), .val (.int p2), .val (.int p3), .val (.int p4), .val (.int (0 : Int32)), .val (.int fl), .val (.int (chF p2)), .val (.int (chF p3)), .val (.int (chF p4)), .val (.ref b11), .val (.ref b12), .val (.int (0 : Int32)), .unset, .unset] d55_53 rfl ?_
        refine g_iload X12 d55_55 rfl ?_
        refine g_ifT X12 d55_57 (XT.i0_eq_t hfl) ?_
        refine g_iload X12 d55_93 rfl ?_
        refine g_ifT X12 d55_95 (by decide) ?_
        refine g_iload X12 d55_115 rfl ?_
        refine g_iconst X12 (1 : Int32) d55_117 (by decide) ?_
        refine g_icmpT X12 d55_118 (by decide) ?_
        refine g_iload X12 d55_138 rfl ?_
        refine g_iconst X12 (2 : Int32) d55_140 (by decide) ?_
        refine g_icmpT X12 d55_141 (by decide) ?_
        refine g_new X12 d55_161 (w213 hw) (w98 hw) (w59 hw) 3 14 rfl rfl (by decide) (by decide) fun T13 h13 b13 X13 E13 eb13 nb13 Ex13 D13 => ?_
        have z13 := E13.1; have lt13 : @LT.lt Nat _ b13 h13.size := Ex13.lt; have zl13 : @LE.le Nat _ Z.heap.size b13 := eb13 ▸ X12.szZ; have fr13 : @LE.le Nat _ h0.size b13 := eb13 ▸ X12.sz
        have F13_value : Fld Z h13 b13 "java/lang/String" "value" "[B" .null := D13 (Or.inr (w99 hw)) (ty := (.array .byte)) (by decide)
        have F13_coder : Fld Z h13 b13 "java/lang/String" "coder" "B" (.int (0 : Int32)) := D13 (Or.inr (w100 hw)) (ty := .byte) (by decide)
        refine g_dup X13 d55_164 rfl ?_
        refine g_aload X13 d55_165 rfl rfl ?_
        have A14 := (A12a.ext E13)
        refine g_callI X13 d55_167 (w214 hw) (w215 hw) (w59 hw) (w216 hw) rfl (by decide) pd42 b13 [(.ref b12)] [(.ref b13)] 1 (c_initCE hw hs b13 b12 Ex13 F13_value F13_coder nb13 zl13 A14 hE) rfl rfl rfl (Nat.le_of_eq rfl) (by decide) (by decide) 7 22 rfl rfl (by decide) (by decide) (k_ws1 ⟨nb13, zl13, (Or.inr fr13)⟩) fun v15 T15 h15 B15 X15 K15 M15 q15 => ?_
        obtain ⟨rfl, Ss⟩ := q15
        have z15 := K15.1
        show Go x (T15.setTop (mkF x.m 170 #[.val (.int p0), .val (.int p1), .val (.int p2), .val (.int p3), .val (.int p4), .val (.int (0 : Int32)), .val (.int fl), .val (.int (chF p2)), .val (.int (chF p3)), .val (.int (chF p4)), .val (.ref b11), .val (.ref b12), .val (.int (0 : Int32)), .unset, .unset] [(.ref b13)]))
        refine g_astore X15 #[.val (.int p0), .val (.int p1), .val (.int p2), .val (.int p3), .val (.int p4), .val (.int (0 : Int32)), .val (.int fl), .val (.int (chF p2)), .val (.int (chF p3)), .val (.int (chF p4)), .val (.ref b11), .val (.ref b12), .val (.int (0 : Int32)), .val (.ref b13), .unset] d55_170 rfl rfl ?_
        have hqa := n8_one (chF p2); have hqb := n8_one (chF p3); have hqc := n8_one (chF p4)
        have nb16 : ¬ B15 b11 := (M15.no nb11 (by omega))
        have A17 := (((A11a.ext E12).ext E13).keep K15 (ninS (k_neN (by omega)) nin0))
        exact rest ([] : List Int32) (0 : Int32) fl b11 b12 (.ref b13) rfl (by simp) T15 h15 B15 (X15.more (by decide) (by decide)) nb16 zl11 fr11 A17 (Or.inr ⟨b13, ([] : List Int32), rfl, ⟨(fun c hc => nomatch hc), Or.inl ⟨(fun c hc => nomatch hc), Ss⟩⟩, (fun c hc => nomatch hc), (by simp), (by simp)⟩)
      ·
        show Go x (T11.setTop (mkF x.m 48 #[.val (.int p0), .val (.int p1), .val (.int p2), .val (.int p3), .val (.int p4), .val (.int (1 : Int32)), .val (.int fl), .val (.int (chF p2)), .val (.int (chF p3)), .val (.int (chF p4)), .val (.ref b11), .unset, .unset, .unset, .unset] [(.int (1 : Int32))]))
        refine g_newarray X11 d55_48 rfl (w7 hw) 1 1 (by decide) (Nat.le_refl _) (by decide) 2 11 rfl rfl (by decide) (by decide) fun T18 h18 b18 X18 E18 eb18 nb18 A18 => ?_
        have z18 := E18.1; have lt18 : @LT.lt Nat _ b18 h18.size := A18.lt; have zl18 : @LE.le Nat _ Z.heap.size b18 := eb18 ▸ X11.szZ; have fr18 : @LE.le Nat _ h0.size b18 := eb18 ▸ X11.sz
        have A18a : Ay Z h18 b18 .char [(.int (0 : Int32))] := A18
        refine g_astore X18 #[.val (.int p0), .val (.int p1), .val (.int p2), .val (.int p3), .val (.int p4), .val (.int (1 : Int32)), .val (.int fl), .val (.int (chF p2)), .val (.int (chF p3)), .val (.int (chF p4)), .val (.ref b11), .val (.ref b18), .unset, .unset, .unset] d55_50 rfl rfl ?_
        refine g_iconst X18 (0 : Int32) d55_52 (by decide) ?_
        refine g_istore X18 #[.val (.int p0), .val (.int p1), .val (.int p2), .val (.int p3), .val (.int p4), .val (.int (1 : Int32)), .val (.int fl), .val (.int (chF p2)), .val (.int (chF p3)), .val (.int (chF p4)), .val (.ref b11), .val (.ref b18), .val (.int (0 : Int32)), .unset, .unset] d55_53 rfl ?_
        refine g_iload X18 d55_55 rfl ?_
        refine g_ifT X18 d55_57 (XT.i0_eq_t hfl) ?_
        refine g_iload X18 d55_93 rfl ?_
        refine g_ifF X18 d55_95 (by decide) ?_
        refine g_aload X18 d55_98 rfl rfl ?_
        refine g_iconst X18 (0 : Int32) d55_100 (by decide) ?_
        refine g_iload X18 d55_101 rfl ?_
        refine g_castore X18 d55_103 A18a 0 (by decide) (chF p2) (nar_c16 (chF_c16 p2)) (Nat.le_of_ble_eq_true rfl) nb18 zl18 (Or.inr fr18) fun T19 h19 X19 K19 A19 => ?_
        have z19 := K19.1
        have A19a : Ay Z h19 b18 .char [(.int (chF p2))] := A19
        refine g_iload X19 d55_104 rfl ?_
        refine g_aload X19 d55_106 rfl rfl ?_
        refine g_iload X19 d55_108 rfl ?_
        have A20 := ((A11a.ext E18).keep K19 (ninS (k_neN (by omega)) nin0))
        refine g_callS X19 d55_110 (w222 hw) (w223 hw) (w2 hw) (w224 hw) (by decide) pd43 [(.int (chF p2)), (.ref b11), (.int (0 : Int32))] [] 0 (c_enc hw hs b11 ([] : List Int32) (chF p2) A20 (by simp) nb11 zl11) rfl rfl rfl (Nat.le_of_eq rfl) (by decide) (by decide) 2 11 rfl rfl (by decide) (by decide) (k_ws1 ⟨nb11, zl11, (Or.inr fr11)⟩) fun v21 T21 h21 B21 X21 K21 M21 q21 => ?_
        obtain ⟨rfl, rfl, Ae0⟩ := q21
        have z21 := K21.1
        show Go x (T21.setTop (mkF x.m 113 #[.val (.int p0), .val (.int p1), .val (.int p2), .val (.int p3), .val (.int p4), .val (.int (1 : Int32)), .val (.int fl), .val (.int (chF p2)), .val (.int (chF p3)), .val (.int (chF p4)), .val (.ref b11), .val (.ref b18), .val (.int (0 : Int32)), .unset, .unset] [(.int (Int32.ofNat (([] : List Int32) ++ n8 (chF p2)).length))]))
        refine g_istore X21 #[.val (.int p0), .val (.int p1), .val (.int p2), .val (.int p3), .val (.int p4), .val (.int (1 : Int32)), .val (.int fl), .val (.int (chF p2)), .val (.int (chF p3)), .val (.int (chF p4)), .val (.ref b11), .val (.ref b18), .val (.int (Int32.ofNat (([] : List Int32) ++ n8 (chF p2)).length)), .unset, .unset] d55_113 rfl ?_
        refine g_iload X21 d55_115 rfl ?_
        refine g_iconst X21 (1 : Int32) d55_117 (by decide) ?_
        refine g_icmpT X21 d55_118 (by decide) ?_
        refine g_iload X21 d55_138 rfl ?_
        refine g_iconst X21 (2 : Int32) d55_140 (by decide) ?_
        refine g_icmpT X21 d55_141 (by decide) ?_
        refine g_new X21 d55_161 (w213 hw) (w98 hw) (w59 hw) 3 15 rfl rfl (by decide) (by decide) fun T22 h22 b22 X22 E22 eb22 nb22 Ex22 D22 => ?_
        have z22 := E22.1; have lt22 : @LT.lt Nat _ b22 h22.size := Ex22.lt; have zl22 : @LE.le Nat _ Z.heap.size b22 := eb22 ▸ X21.szZ; have fr22 : @LE.le Nat _ h0.size b22 := eb22 ▸ X21.sz
        have F22_value : Fld Z h22 b22 "java/lang/String" "value" "[B" .null := D22 (Or.inr (w99 hw)) (ty := (.array .byte)) (by decide)
        have F22_coder : Fld Z h22 b22 "java/lang/String" "coder" "B" (.int (0 : Int32)) := D22 (Or.inr (w100 hw)) (ty := .byte) (by decide)
        refine g_dup X22 d55_164 rfl ?_
        refine g_aload X22 d55_165 rfl rfl ?_
        have A23 := ((A19a.keep K21 (ninS (k_neN (by omega)) nin0)).ext E22)
        refine g_callI X22 d55_167 (w214 hw) (w215 hw) (w59 hw) (w216 hw) rfl (by decide) pd42 b22 [(.ref b18)] [(.ref b22)] 1 (c_initC hw hs b22 b18 [(chF p2)] Ex22 F22_value F22_coder nb22 zl22 A23 (k_neN (by omega)) (by simp) (by simp) (by intro c hc; simp only [List.mem_cons, List.not_mem_nil, or_false] at hc; subst hc; exact chF_c16 _)) rfl rfl rfl (Nat.le_of_eq rfl) (by decide) (by decide) 5 24 rfl rfl (by decide) (by decide) (k_ws1 ⟨nb22, zl22, (Or.inr fr22)⟩) fun v24 T24 h24 B24 X24 K24 M24 q24 => ?_
        obtain ⟨rfl, rfl, Ss⟩ := q24
        have z24 := K24.1
        show Go x (T24.setTop (mkF x.m 170 #[.val (.int p0), .val (.int p1), .val (.int p2), .val (.int p3), .val (.int p4), .val (.int (1 : Int32)), .val (.int fl), .val (.int (chF p2)), .val (.int (chF p3)), .val (.int (chF p4)), .val (.ref b11), .val (.ref b18), .val (.int (Int32.ofNat (([] : List Int32) ++ n8 (chF p2)).length)), .unset, .unset] [(.ref b22)]))
        refine g_astore X24 #[.val (.int p0), .val (.int p1), .val (.int p2), .val (.int p3), .val (.int p4), .val (.int (1 : Int32)), .val (.int fl), .val (.int (chF p2)), .val (.int (chF p3)), .val (.int (chF p4)), .val (.ref b11), .val (.ref b18), .val (.int (Int32.ofNat (([] : List Int32) ++ n8 (chF p2)).length)), .val (.ref b22), .unset] d55_170 rfl rfl ?_
        have hqa := n8_one (chF p2); have hqb := n8_one (chF p3); have hqc := n8_one (chF p4)
        have A25 := ((Ae0.ext E22).keep K24 (ninS (k_neN (by omega)) nin0))
        exact rest (([] : List Int32) ++ n8 (chF p2)) (1 : Int32) fl b11 b18 (.ref b22) rfl (by simp; omega) T24 h24 B0 (X24.more (by decide) (by decide)) nb11 zl11 fr11 A25 (Or.inr ⟨b22, [(chF p2)], rfl, Ss, (by intro c hc; simp only [List.mem_cons, List.not_mem_nil, or_false] at hc; subst hc; exact chF_ns _), (by simp), (by simp)⟩)
      ·
        show Go x (T11.setTop (mkF x.m 48 #[.val (.int p0), .val (.int p1), .val (.int p2), .val (.int p3), .val (.int p4), .val (.int (2 : Int32)), .val (.int fl), .val (.int (chF p2)), .val (.int (chF p3)), .val (.int (chF p4)), .val (.ref b11), .unset, .unset, .unset, .unset] [(.int (2 : Int32))]))
        refine g_newarray X11 d55_48 rfl (w7 hw) 2 2 (by decide) (Nat.le_refl _) (by decide) 2 12 rfl rfl (by decide) (by decide) fun T26 h26 b26 X26 E26 eb26 nb26 A26 => ?_
        have z26 := E26.1; have lt26 : @LT.lt Nat _ b26 h26.size := A26.lt; have zl26 : @LE.le Nat _ Z.heap.size b26 := eb26 ▸ X11.szZ; have fr26 : @LE.le Nat _ h0.size b26 := eb26 ▸ X11.sz
        have A26a : Ay Z h26 b26 .char [(.int (0 : Int32)), (.int (0 : Int32))] := A26
        refine g_astore X26 #[.val (.int p0), .val (.int p1), .val (.int p2), .val (.int p3), .val (.int p4), .val (.int (2 : Int32)), .val (.int fl), .val (.int (chF p2)), .val (.int (chF p3)), .val (.int (chF p4)), .val (.ref b11), .val (.ref b26), .unset, .unset, .unset] d55_50 rfl rfl ?_
        refine g_iconst X26 (0 : Int32) d55_52 (by decide) ?_
        refine g_istore X26 #[.val (.int p0), .val (.int p1), .val (.int p2), .val (.int p3), .val (.int p4), .val (.int (2 : Int32)), .val (.int fl), .val (.int (chF p2)), .val (.int (chF p3)), .val (.int (chF p4)), .val (.ref b11), .val (.ref b26), .val (.int (0 : Int32)), .unset, .unset] d55_53 rfl ?_
        refine g_iload X26 d55_55 rfl ?_
        refine g_ifT X26 d55_57 (XT.i0_eq_t hfl) ?_
        refine g_iload X26 d55_93 rfl ?_
        refine g_ifF X26 d55_95 (by decide) ?_
        refine g_aload X26 d55_98 rfl rfl ?_
        refine g_iconst X26 (0 : Int32) d55_100 (by decide) ?_
        refine g_iload X26 d55_101 rfl ?_
        refine g_castore X26 d55_103 A26a 0 (by decide) (chF p2) (nar_c16 (chF_c16 p2)) (Nat.le_of_ble_eq_true rfl) nb26 zl26 (Or.inr fr26) fun T27 h27 X27 K27 A27 => ?_
        have z27 := K27.1
        have A27a : Ay Z h27 b26 .char [(.int (chF p2)), (.int (0 : Int32))] := A27
        refine g_iload X27 d55_104 rfl ?_
        refine g_aload X27 d55_106 rfl rfl ?_
        refine g_iload X27 d55_108 rfl ?_
        have A28 := ((A11a.ext E26).keep K27 (ninS (k_neN (by omega)) nin0))
        refine g_callS X27 d55_110 (w222 hw) (w223 hw) (w2 hw) (w224 hw) (by decide) pd43 [(.int (chF p2)), (.ref b11), (.int (0 : Int32))] [] 0 (c_enc hw hs b11 ([] : List Int32) (chF p2) A28 (by simp) nb11 zl11) rfl rfl rfl (Nat.le_of_eq rfl) (by decide) (by decide) 2 12 rfl rfl (by decide) (by decide) (k_ws1 ⟨nb11, zl11, (Or.inr fr11)⟩) fun v29 T29 h29 B29 X29 K29 M29 q29 => ?_
        obtain ⟨rfl, rfl, Ae0⟩ := q29
        have z29 := K29.1
        show Go x (T29.setTop (mkF x.m 113 #[.val (.int p0), .val (.int p1), .val (.int p2), .val (.int p3), .val (.int p4), .val (.int (2 : Int32)), .val (.int fl), .val (.int (chF p2)), .val (.int (chF p3)), .val (.int (chF p4)), .val (.ref b11), .val (.ref b26), .val (.int (0 : Int32)), .unset, .unset] [(.int (Int32.ofNat (([] : List Int32) ++ n8 (chF p2)).length))]))
        refine g_istore X29 #[.val (.int p0), .val (.int p1), .val (.int p2), .val (.int p3), .val (.int p4), .val (.int (2 : Int32)), .val (.int fl), .val (.int (chF p2)), .val (.int (chF p3)), .val (.int (chF p4)), .val (.ref b11), .val (.ref b26), .val (.int (Int32.ofNat (([] : List Int32) ++ n8 (chF p2)).length)), .unset, .unset] d55_113 rfl ?_
        refine g_iload X29 d55_115 rfl ?_
        refine g_iconst X29 (1 : Int32) d55_117 (by decide) ?_
        refine g_icmpF X29 d55_118 (by decide) ?_
        refine g_aload X29 d55_121 rfl rfl ?_
        refine g_iconst X29 (1 : Int32) d55_123 (by decide) ?_
        refine g_iload X29 d55_124 rfl ?_
        have A30 := (A27a.keep K29 (ninS (k_neN (by omega)) nin0))
        refine g_castore X29 d55_126 A30 1 (by decide) (chF p3) (nar_c16 (chF_c16 p3)) (Nat.le_of_ble_eq_true rfl) nb26 zl26 (Or.inr fr26) fun T31 h31 X31 K31 A31 => ?_
        have z31 := K31.1
        have A31a : Ay Z h31 b26 .char [(.int (chF p2)), (.int (chF p3))] := A31
        refine g_iload X31 d55_127 rfl ?_
        refine g_aload X31 d55_129 rfl rfl ?_
        refine g_iload X31 d55_131 rfl ?_
        have A32 := (Ae0.keep K31 (ninS (k_neN (by omega)) nin0))
        refine g_callS X31 d55_133 (w222 hw) (w223 hw) (w2 hw) (w224 hw) (by decide) pd43 [(.int (chF p3)), (.ref b11), (.int (Int32.ofNat (([] : List Int32) ++ n8 (chF p2)).length))] [] 0 (c_enc hw hs b11 (([] : List Int32) ++ n8 (chF p2)) (chF p3) A32 (by have q2 := n8_one (chF p2); have q3 := n8_one (chF p3); simp; omega) nb11 zl11) rfl rfl rfl (Nat.le_of_eq rfl) (by decide) (by decide) 2 12 rfl rfl (by decide) (by decide) (k_ws1 ⟨nb11, zl11, (Or.inr fr11)⟩) fun v33 T33 h33 B33 X33 K33 M33 q33 => ?_
        obtain ⟨rfl, rfl, Ae1⟩ := q33
        have z33 := K33.1
        show Go x (T33.setTop (mkF x.m 136 #[.val (.int p0), .val (.int p1), .val (.int p2), .val (.int p3), .val (.int p4), .val (.int (2 : Int32)), .val (.int fl), .val (.int (chF p2)), .val (.int (chF p3)), .val (.int (chF p4)), .val (.ref b11), .val (.ref b26), .val (.int (Int32.ofNat (([] : List Int32) ++ n8 (chF p2)).length)), .unset, .unset] [(.int (Int32.ofNat ((([] : List Int32) ++ n8 (chF p2)) ++ n8 (chF p3)).length))]))
        refine g_istore X33 #[.val (.int p0), .val (.int p1), .val (.int p2), .val (.int p3), .val (.int p4), .val (.int (2 : Int32)), .val (.int fl), .val (.int (chF p2)), .val (.int (chF p3)), .val (.int (chF p4)), .val (.ref b11), .val (.ref b26), .val (.int (Int32.ofNat ((([] : List Int32) ++ n8 (chF p2)) ++ n8 (chF p3)).length)), .unset, .unset] d55_136 rfl ?_
        refine g_iload X33 d55_138 rfl ?_
        refine g_iconst X33 (2 : Int32) d55_140 (by decide) ?_
        refine g_icmpT X33 d55_141 (by decide) ?_
        refine g_new X33 d55_161 (w213 hw) (w98 hw) (w59 hw) 3 16 rfl rfl (by decide) (by decide) fun T34 h34 b34 X34 E34 eb34 nb34 Ex34 D34 => ?_
        have z34 := E34.1; have lt34 : @LT.lt Nat _ b34 h34.size := Ex34.lt; have zl34 : @LE.le Nat _ Z.heap.size b34 := eb34 ▸ X33.szZ; have fr34 : @LE.le Nat _ h0.size b34 := eb34 ▸ X33.sz
        have F34_value : Fld Z h34 b34 "java/lang/String" "value" "[B" .null := D34 (Or.inr (w99 hw)) (ty := (.array .byte)) (by decide)
        have F34_coder : Fld Z h34 b34 "java/lang/String" "coder" "B" (.int (0 : Int32)) := D34 (Or.inr (w100 hw)) (ty := .byte) (by decide)
        refine g_dup X34 d55_164 rfl ?_
        refine g_aload X34 d55_165 rfl rfl ?_
        have A35 := ((A31a.keep K33 (ninS (k_neN (by omega)) nin0)).ext E34)
        refine g_callI X34 d55_167 (w214 hw) (w215 hw) (w59 hw) (w216 hw) rfl (by decide) pd42 b34 [(.ref b26)] [(.ref b34)] 1 (c_initC hw hs b34 b26 [(chF p2), (chF p3)] Ex34 F34_value F34_coder nb34 zl34 A35 (k_neN (by omega)) (by simp) (by simp) (by intro c hc; simp only [List.mem_cons, List.not_mem_nil, or_false] at hc; rcases hc with rfl | rfl <;> exact chF_c16 _)) rfl rfl rfl (Nat.le_of_eq rfl) (by decide) (by decide) 5 25 rfl rfl (by decide) (by decide) (k_ws1 ⟨nb34, zl34, (Or.inr fr34)⟩) fun v36 T36 h36 B36 X36 K36 M36 q36 => ?_
        obtain ⟨rfl, rfl, Ss⟩ := q36
        have z36 := K36.1
        show Go x (T36.setTop (mkF x.m 170 #[.val (.int p0), .val (.int p1), .val (.int p2), .val (.int p3), .val (.int p4), .val (.int (2 : Int32)), .val (.int fl), .val (.int (chF p2)), .val (.int (chF p3)), .val (.int (chF p4)), .val (.ref b11), .val (.ref b26), .val (.int (Int32.ofNat ((([] : List Int32) ++ n8 (chF p2)) ++ n8 (chF p3)).length)), .unset, .unset] [(.ref b34)]))
        refine g_astore X36 #[.val (.int p0), .val (.int p1), .val (.int p2), .val (.int p3), .val (.int p4), .val (.int (2 : Int32)), .val (.int fl), .val (.int (chF p2)), .val (.int (chF p3)), .val (.int (chF p4)), .val (.ref b11), .val (.ref b26), .val (.int (Int32.ofNat ((([] : List Int32) ++ n8 (chF p2)) ++ n8 (chF p3)).length)), .val (.ref b34), .unset] d55_170 rfl rfl ?_
        have hqa := n8_one (chF p2); have hqb := n8_one (chF p3); have hqc := n8_one (chF p4)
        have A37 := ((Ae1.ext E34).keep K36 (ninS (k_neN (by omega)) nin0))
        exact rest ((([] : List Int32) ++ n8 (chF p2)) ++ n8 (chF p3)) (2 : Int32) fl b11 b26 (.ref b34) rfl (by simp; omega) T36 h36 B0 (X36.more (by decide) (by decide)) nb11 zl11 fr11 A37 (Or.inr ⟨b34, [(chF p2), (chF p3)], rfl, Ss, (by intro c hc; simp only [List.mem_cons, List.not_mem_nil, or_false] at hc; rcases hc with rfl | rfl <;> exact chF_ns _), (by simp), (by simp)⟩)
      ·
        show Go x (T11.setTop (mkF x.m 48 #[.val (.int p0), .val (.int p1), .val (.int p2), .val (.int p3), .val (.int p4), .val (.int (3 : Int32)), .val (.int fl), .val (.int (chF p2)), .val (.int (chF p3)), .val (.int (chF p4)), .val (.ref b11), .unset, .unset, .unset, .unset] [(.int (3 : Int32))]))
        refine g_newarray X11 d55_48 rfl (w7 hw) 3 3 (by decide) (Nat.le_refl _) (by decide) 2 13 rfl rfl (by decide) (by decide) fun T38 h38 b38 X38 E38 eb38 nb38 A38 => ?_
        have z38 := E38.1; have lt38 : @LT.lt Nat _ b38 h38.size := A38.lt; have zl38 : @LE.le Nat _ Z.heap.size b38 := eb38 ▸ X11.szZ; have fr38 : @LE.le Nat _ h0.size b38 := eb38 ▸ X11.sz
        have A38a : Ay Z h38 b38 .char [(.int (0 : Int32)), (.int (0 : Int32)), (.int (0 : Int32))] := A38
        refine g_astore X38 #[.val (.int p0), .val (.int p1), .val (.int p2), .val (.int p3), .val (.int p4), .val (.int (3 : Int32)), .val (.int fl), .val (.int (chF p2)), .val (.int (chF p3)), .val (.int (chF p4)), .val (.ref b11), .val (.ref b38), .unset, .unset, .unset] d55_50 rfl rfl ?_
        refine g_iconst X38 (0 : Int32) d55_52 (by decide) ?_
        refine g_istore X38 #[.val (.int p0), .val (.int p1), .val (.int p2), .val (.int p3), .val (.int p4), .val (.int (3 : Int32)), .val (.int fl), .val (.int (chF p2)), .val (.int (chF p3)), .val (.int (chF p4)), .val (.ref b11), .val (.ref b38), .val (.int (0 : Int32)), .unset, .unset] d55_53 rfl ?_
        refine g_iload X38 d55_55 rfl ?_
        refine g_ifT X38 d55_57 (XT.i0_eq_t hfl) ?_
        refine g_iload X38 d55_93 rfl ?_
        refine g_ifF X38 d55_95 (by decide) ?_
        refine g_aload X38 d55_98 rfl rfl ?_
        refine g_iconst X38 (0 : Int32) d55_100 (by decide) ?_
        refine g_iload X38 d55_101 rfl ?_
        refine g_castore X38 d55_103 A38a 0 (by decide) (chF p2) (nar_c16 (chF_c16 p2)) (Nat.le_of_ble_eq_true rfl) nb38 zl38 (Or.inr fr38) fun T39 h39 X39 K39 A39 => ?_
        have z39 := K39.1
        have A39a : Ay Z h39 b38 .char [(.int (chF p2)), (.int (0 : Int32)), (.int (0 : Int32))] := A39
        refine g_iload X39 d55_104 rfl ?_
        refine g_aload X39 d55_106 rfl rfl ?_
        refine g_iload X39 d55_108 rfl ?_
        have A40 := ((A11a.ext E38).keep K39 (ninS (k_neN (by omega)) nin0))
        refine g_callS X39 d55_110 (w222 hw) (w223 hw) (w2 hw) (w224 hw) (by decide) pd43 [(.int (chF p2)), (.ref b11), (.int (0 : Int32))] [] 0 (c_enc hw hs b11 ([] : List Int32) (chF p2) A40 (by simp) nb11 zl11) rfl rfl rfl (Nat.le_of_eq rfl) (by decide) (by decide) 2 13 rfl rfl (by decide) (by decide) (k_ws1 ⟨nb11, zl11, (Or.inr fr11)⟩) fun v41 T41 h41 B41 X41 K41 M41 q41 => ?_
        obtain ⟨rfl, rfl, Ae0⟩ := q41
        have z41 := K41.1
        show Go x (T41.setTop (mkF x.m 113 #[.val (.int p0), .val (.int p1), .val (.int p2), .val (.int p3), .val (.int p4), .val (.int (3 : Int32)), .val (.int fl), .val (.int (chF p2)), .val (.int (chF p3)), .val (.int (chF p4)), .val (.ref b11), .val (.ref b38), .val (.int (0 : Int32)), .unset, .unset] [(.int (Int32.ofNat (([] : List Int32) ++ n8 (chF p2)).length))]))
        refine g_istore X41 #[.val (.int p0), .val (.int p1), .val (.int p2), .val (.int p3), .val (.int p4), .val (.int (3 : Int32)), .val (.int fl), .val (.int (chF p2)), .val (.int (chF p3)), .val (.int (chF p4)), .val (.ref b11), .val (.ref b38), .val (.int (Int32.ofNat (([] : List Int32) ++ n8 (chF p2)).length)), .unset, .unset] d55_113 rfl ?_
        refine g_iload X41 d55_115 rfl ?_
        refine g_iconst X41 (1 : Int32) d55_117 (by decide) ?_
        refine g_icmpF X41 d55_118 (by decide) ?_
        refine g_aload X41 d55_121 rfl rfl ?_
        refine g_iconst X41 (1 : Int32) d55_123 (by decide) ?_
        refine g_iload X41 d55_124 rfl ?_
        have A42 := (A39a.keep K41 (ninS (k_neN (by omega)) nin0))
        refine g_castore X41 d55_126 A42 1 (by decide) (chF p3) (nar_c16 (chF_c16 p3)) (Nat.le_of_ble_eq_true rfl) nb38 zl38 (Or.inr fr38) fun T43 h43 X43 K43 A43 => ?_
        have z43 := K43.1
        have A43a : Ay Z h43 b38 .char [(.int (chF p2)), (.int (chF p3)), (.int (0 : Int32))] := A43
        refine g_iload X43 d55_127 rfl ?_
        refine g_aload X43 d55_129 rfl rfl ?_
        refine g_iload X43 d55_131 rfl ?_
        have A44 := (Ae0.keep K43 (ninS (k_neN (by omega)) nin0))
        refine g_callS X43 d55_133 (w222 hw) (w223 hw) (w2 hw) (w224 hw) (by decide) pd43 [(.int (chF p3)), (.ref b11), (.int (Int32.ofNat (([] : List Int32) ++ n8 (chF p2)).length))] [] 0 (c_enc hw hs b11 (([] : List Int32) ++ n8 (chF p2)) (chF p3) A44 (by have q2 := n8_one (chF p2); have q3 := n8_one (chF p3); simp; omega) nb11 zl11) rfl rfl rfl (Nat.le_of_eq rfl) (by decide) (by decide) 2 13 rfl rfl (by decide) (by decide) (k_ws1 ⟨nb11, zl11, (Or.inr fr11)⟩) fun v45 T45 h45 B45 X45 K45 M45 q45 => ?_
        obtain ⟨rfl, rfl, Ae1⟩ := q45
        have z45 := K45.1
        show Go x (T45.setTop (mkF x.m 136 #[.val (.int p0), .val (.int p1), .val (.int p2), .val (.int p3), .val (.int p4), .val (.int (3 : Int32)), .val (.int fl), .val (.int (chF p2)), .val (.int (chF p3)), .val (.int (chF p4)), .val (.ref b11), .val (.ref b38), .val (.int (Int32.ofNat (([] : List Int32) ++ n8 (chF p2)).length)), .unset, .unset] [(.int (Int32.ofNat ((([] : List Int32) ++ n8 (chF p2)) ++ n8 (chF p3)).length))]))
        refine g_istore X45 #[.val (.int p0), .val (.int p1), .val (.int p2), .val (.int p3), .val (.int p4), .val (.int (3 : Int32)), .val (.int fl), .val (.int (chF p2)), .val (.int (chF p3)), .val (.int (chF p4)), .val (.ref b11), .val (.ref b38), .val (.int (Int32.ofNat ((([] : List Int32) ++ n8 (chF p2)) ++ n8 (chF p3)).length)), .unset, .unset] d55_136 rfl ?_
        refine g_iload X45 d55_138 rfl ?_
        refine g_iconst X45 (2 : Int32) d55_140 (by decide) ?_
        refine g_icmpF X45 d55_141 (by decide) ?_
        refine g_aload X45 d55_144 rfl rfl ?_
        refine g_iconst X45 (2 : Int32) d55_146 (by decide) ?_
        refine g_iload X45 d55_147 rfl ?_
        have A46 := (A43a.keep K45 (ninS (k_neN (by omega)) nin0))
        refine g_castore X45 d55_149 A46 2 (by decide) (chF p4) (nar_c16 (chF_c16 p4)) (Nat.le_of_ble_eq_true rfl) nb38 zl38 (Or.inr fr38) fun T47 h47 X47 K47 A47 => ?_
        have z47 := K47.1
        have A47a : Ay Z h47 b38 .char [(.int (chF p2)), (.int (chF p3)), (.int (chF p4))] := A47
        refine g_iload X47 d55_150 rfl ?_
        refine g_aload X47 d55_152 rfl rfl ?_
        refine g_iload X47 d55_154 rfl ?_
        have A48 := (Ae1.keep K47 (ninS (k_neN (by omega)) nin0))
        refine g_callS X47 d55_156 (w222 hw) (w223 hw) (w2 hw) (w224 hw) (by decide) pd43 [(.int (chF p4)), (.ref b11), (.int (Int32.ofNat ((([] : List Int32) ++ n8 (chF p2)) ++ n8 (chF p3)).length))] [] 0 (c_enc hw hs b11 ((([] : List Int32) ++ n8 (chF p2)) ++ n8 (chF p3)) (chF p4) A48 (by have q2 := n8_one (chF p2); have q3 := n8_one (chF p3); simp; omega) nb11 zl11) rfl rfl rfl (Nat.le_of_eq rfl) (by decide) (by decide) 2 13 rfl rfl (by decide) (by decide) (k_ws1 ⟨nb11, zl11, (Or.inr fr11)⟩) fun v49 T49 h49 B49 X49 K49 M49 q49 => ?_
        obtain ⟨rfl, rfl, Ae2⟩ := q49
        have z49 := K49.1
        show Go x (T49.setTop (mkF x.m 159 #[.val (.int p0), .val (.int p1), .val (.int p2), .val (.int p3), .val (.int p4), .val (.int (3 : Int32)), .val (.int fl), .val (.int (chF p2)), .val (.int (chF p3)), .val (.int (chF p4)), .val (.ref b11), .val (.ref b38), .val (.int (Int32.ofNat ((([] : List Int32) ++ n8 (chF p2)) ++ n8 (chF p3)).length)), .unset, .unset] [(.int (Int32.ofNat (((([] : List Int32) ++ n8 (chF p2)) ++ n8 (chF p3)) ++ n8 (chF p4)).length))]))
        refine g_istore X49 #[.val (.int p0), .val (.int p1), .val (.int p2), .val (.int p3), .val (.int p4), .val (.int (3 : Int32)), .val (.int fl), .val (.int (chF p2)), .val (.int (chF p3)), .val (.int (chF p4)), .val (.ref b11), .val (.ref b38), .val (.int (Int32.ofNat (((([] : List Int32) ++ n8 (chF p2)) ++ n8 (chF p3)) ++ n8 (chF p4)).length)), .unset, .unset] d55_159 rfl ?_
        refine g_new X49 d55_161 (w213 hw) (w98 hw) (w59 hw) 3 17 rfl rfl (by decide) (by decide) fun T50 h50 b50 X50 E50 eb50 nb50 Ex50 D50 => ?_
        have z50 := E50.1; have lt50 : @LT.lt Nat _ b50 h50.size := Ex50.lt; have zl50 : @LE.le Nat _ Z.heap.size b50 := eb50 ▸ X49.szZ; have fr50 : @LE.le Nat _ h0.size b50 := eb50 ▸ X49.sz
        have F50_value : Fld Z h50 b50 "java/lang/String" "value" "[B" .null := D50 (Or.inr (w99 hw)) (ty := (.array .byte)) (by decide)
        have F50_coder : Fld Z h50 b50 "java/lang/String" "coder" "B" (.int (0 : Int32)) := D50 (Or.inr (w100 hw)) (ty := .byte) (by decide)
        refine g_dup X50 d55_164 rfl ?_
        refine g_aload X50 d55_165 rfl rfl ?_
        have A51 := ((A47a.keep K49 (ninS (k_neN (by omega)) nin0)).ext E50)
        refine g_callI X50 d55_167 (w214 hw) (w215 hw) (w59 hw) (w216 hw) rfl (by decide) pd42 b50 [(.ref b38)] [(.ref b50)] 1 (c_initC hw hs b50 b38 [(chF p2), (chF p3), (chF p4)] Ex50 F50_value F50_coder nb50 zl50 A51 (k_neN (by omega)) (by simp) (by simp) (by intro c hc; simp only [List.mem_cons, List.not_mem_nil, or_false] at hc; rcases hc with rfl | rfl | rfl <;> exact chF_c16 _)) rfl rfl rfl (Nat.le_of_eq rfl) (by decide) (by decide) 5 26 rfl rfl (by decide) (by decide) (k_ws1 ⟨nb50, zl50, (Or.inr fr50)⟩) fun v52 T52 h52 B52 X52 K52 M52 q52 => ?_
        obtain ⟨rfl, rfl, Ss⟩ := q52
        have z52 := K52.1
        show Go x (T52.setTop (mkF x.m 170 #[.val (.int p0), .val (.int p1), .val (.int p2), .val (.int p3), .val (.int p4), .val (.int (3 : Int32)), .val (.int fl), .val (.int (chF p2)), .val (.int (chF p3)), .val (.int (chF p4)), .val (.ref b11), .val (.ref b38), .val (.int (Int32.ofNat (((([] : List Int32) ++ n8 (chF p2)) ++ n8 (chF p3)) ++ n8 (chF p4)).length)), .unset, .unset] [(.ref b50)]))
        refine g_astore X52 #[.val (.int p0), .val (.int p1), .val (.int p2), .val (.int p3), .val (.int p4), .val (.int (3 : Int32)), .val (.int fl), .val (.int (chF p2)), .val (.int (chF p3)), .val (.int (chF p4)), .val (.ref b11), .val (.ref b38), .val (.int (Int32.ofNat (((([] : List Int32) ++ n8 (chF p2)) ++ n8 (chF p3)) ++ n8 (chF p4)).length)), .val (.ref b50), .unset] d55_170 rfl rfl ?_
        have hqa := n8_one (chF p2); have hqb := n8_one (chF p3); have hqc := n8_one (chF p4)
        have A53 := ((Ae2.ext E50).keep K52 (ninS (k_neN (by omega)) nin0))
        exact rest (((([] : List Int32) ++ n8 (chF p2)) ++ n8 (chF p3)) ++ n8 (chF p4)) (3 : Int32) fl b11 b38 (.ref b50) rfl (by simp; omega) T52 h52 B0 (X52.more (by decide) (by decide)) nb11 zl11 fr11 A53 (Or.inr ⟨b50, [(chF p2), (chF p3), (chF p4)], rfl, Ss, (by intro c hc; simp only [List.mem_cons, List.not_mem_nil, or_false] at hc; rcases hc with rfl | rfl | rfl <;> exact chF_ns _), (by simp), (by simp)⟩)
    ·
      refine g_newarray X11 d55_48 rfl (w7 hw) nk 3 rfl hk3 (by decide) 2 13 rfl rfl (by decide) (by decide) fun T54 h54 b54 X54 E54 eb54 nb54 A54 => ?_
      have z54 := E54.1; have lt54 : @LT.lt Nat _ b54 h54.size := A54.lt; have zl54 : @LE.le Nat _ Z.heap.size b54 := eb54 ▸ X11.szZ; have fr54 : @LE.le Nat _ h0.size b54 := eb54 ▸ X11.sz
      refine g_astore X54 #[.val (.int p0), .val (.int p1), .val (.int p2), .val (.int p3), .val (.int p4), .val (.int (Int32.ofNat nk)), .val (.int fl), .val (.int (chF p2)), .val (.int (chF p3)), .val (.int (chF p4)), .val (.ref b11), .val (.ref b54), .unset, .unset, .unset] d55_50 rfl rfl ?_
      refine g_iconst X54 (0 : Int32) d55_52 (by decide) ?_
      refine g_istore X54 #[.val (.int p0), .val (.int p1), .val (.int p2), .val (.int p3), .val (.int p4), .val (.int (Int32.ofNat nk)), .val (.int fl), .val (.int (chF p2)), .val (.int (chF p3)), .val (.int (chF p4)), .val (.ref b11), .val (.ref b54), .val (.int (0 : Int32)), .unset, .unset] d55_53 rfl ?_
      refine g_iload X54 d55_55 rfl ?_
      refine g_ifF X54 d55_57 (XT.i0_eq_f hfl) ?_
      refine g_aconst_null X54 d55_60 ?_
      refine g_astore X54 #[.val (.int p0), .val (.int p1), .val (.int p2), .val (.int p3), .val (.int p4), .val (.int (Int32.ofNat nk)), .val (.int fl), .val (.int (chF p2)), .val (.int (chF p3)), .val (.int (chF p4)), .val (.ref b11), .val (.ref b54), .val (.int (0 : Int32)), .val .null, .unset] d55_61 rfl rfl ?_
      refine g_aload X54 d55_63 rfl rfl ?_
      refine g_iconst X54 (0 : Int32) d55_65 (by decide) ?_
      refine g_bipush X54 (110 : Int32) d55_66 (by decide) ?_
      have A55 := (A11a.ext E54)
      refine g_bastore X54 d55_68 A55 0 (by decide) (110 : Int32) (by decide) (Nat.le_of_ble_eq_true rfl) nb11 zl11 (Or.inr fr11) fun T56 h56 X56 K56 A56 => ?_
      have z56 := K56.1
      have A56a : Ay Z h56 b11 .byte [(.int (110 : Int32)), (.int (0 : Int32)), (.int (0 : Int32)), (.int (0 : Int32)), (.int (0 : Int32)), (.int (0 : Int32)), (.int (0 : Int32)), (.int (0 : Int32)), (.int (0 : Int32)), (.int (0 : Int32))] := A56
      refine g_aload X56 d55_69 rfl rfl ?_
      refine g_iconst X56 (1 : Int32) d55_71 (by decide) ?_
      refine g_bipush X56 (117 : Int32) d55_72 (by decide) ?_
      refine g_bastore X56 d55_74 A56a 1 (by decide) (117 : Int32) (by decide) (Nat.le_of_ble_eq_true rfl) nb11 zl11 (Or.inr fr11) fun T57 h57 X57 K57 A57 => ?_
      have z57 := K57.1
      have A57a : Ay Z h57 b11 .byte [(.int (110 : Int32)), (.int (117 : Int32)), (.int (0 : Int32)), (.int (0 : Int32)), (.int (0 : Int32)), (.int (0 : Int32)), (.int (0 : Int32)), (.int (0 : Int32)), (.int (0 : Int32)), (.int (0 : Int32))] := A57
      refine g_aload X57 d55_75 rfl rfl ?_
      refine g_iconst X57 (2 : Int32) d55_77 (by decide) ?_
      refine g_bipush X57 (108 : Int32) d55_78 (by decide) ?_
      refine g_bastore X57 d55_80 A57a 2 (by decide) (108 : Int32) (by decide) (Nat.le_of_ble_eq_true rfl) nb11 zl11 (Or.inr fr11) fun T58 h58 X58 K58 A58 => ?_
      have z58 := K58.1
      have A58a : Ay Z h58 b11 .byte [(.int (110 : Int32)), (.int (117 : Int32)), (.int (108 : Int32)), (.int (0 : Int32)), (.int (0 : Int32)), (.int (0 : Int32)), (.int (0 : Int32)), (.int (0 : Int32)), (.int (0 : Int32)), (.int (0 : Int32))] := A58
      refine g_aload X58 d55_81 rfl rfl ?_
      refine g_iconst X58 (3 : Int32) d55_83 (by decide) ?_
      refine g_bipush X58 (108 : Int32) d55_84 (by decide) ?_
      refine g_bastore X58 d55_86 A58a 3 (by decide) (108 : Int32) (by decide) (Nat.le_of_ble_eq_true rfl) nb11 zl11 (Or.inr fr11) fun T59 h59 X59 K59 A59 => ?_
      have z59 := K59.1
      have A59a : Ay Z h59 b11 .byte [(.int (110 : Int32)), (.int (117 : Int32)), (.int (108 : Int32)), (.int (108 : Int32)), (.int (0 : Int32)), (.int (0 : Int32)), (.int (0 : Int32)), (.int (0 : Int32)), (.int (0 : Int32)), (.int (0 : Int32))] := A59
      refine g_iconst X59 (4 : Int32) d55_87 (by decide) ?_
      refine g_istore X59 #[.val (.int p0), .val (.int p1), .val (.int p2), .val (.int p3), .val (.int p4), .val (.int (Int32.ofNat nk)), .val (.int fl), .val (.int (chF p2)), .val (.int (chF p3)), .val (.int (chF p4)), .val (.ref b11), .val (.ref b54), .val (.int (4 : Int32)), .val .null, .unset] d55_88 rfl ?_
      refine g_goto X59 d55_90 ?_
      exact rest [(110 : Int32), (117 : Int32), (108 : Int32), (108 : Int32)] (Int32.ofNat nk) fl b11 b54 .null rfl (by decide) T59 h59 B0 (X59.more (by decide) (by decide)) nb11 zl11 fr11 A59a (Or.inl ⟨rfl, rfl⟩)
  by_cases hcd : ((XT.ushr p1 (2 : Int32)) &&& (7 : Int32)) = 0
  ·
    refine g_ifF X0 d55_11 (XT.i0_ne_f hcd) ?_
    refine g_iconst X0 (1 : Int32) d55_14 (by decide) ?_
    refine g_goto X0 d55_15 ?_
    exact J19 (1 : Int32)
  ·
    refine g_ifT X0 d55_11 (XT.i0_ne_t hcd) ?_
    refine g_iconst X0 (0 : Int32) d55_18 (by decide) ?_
    exact J19 (0 : Int32)
set_option maxRecDepth 65536 in
theorem comes_1 {Post : Tables → Env → Array Value → State → Outcome → State → Prop} (hpost : ∀ tb e args s v u, (limb_1_1.after args s (.returned v) u = true ∧ limb_1_2.after args s (.returned v) u = true ∧ True) → FramedW s (.returned v) u (Jvm.fieldLocs frame_1_writes args s ++ Jvm.arrayLocs frame_1_arrays args s ++ Jvm.staticLocs frame_1_statics s) 40 2368 → Post tb e args s (.returned v) u) :
    ArmFor flags0 classFile x code maxLocals ret World_1 tables_1 room_1 Calls_1 rest_1 Pre_1 Post := by
  intro l hfl _ _ p e ha hc hk s m args below hf hA hF happ hP
  obtain ⟨hcalls, hrest, hpre⟩ := hP
  obtain ⟨-, -, -, hnamed, -, -, -, hat⟩ := (Spec.applies_iff hf).mp happ
  obtain ⟨hg, hn⟩ := and_e (Cond.before_iff.mp (show (Jvm.Cond.and given_1 narrow_1).before args s = true from hpre))
  obtain ⟨h1, hg⟩ := and_e hg
  obtain ⟨g0, hg⟩ := and_e hg
  obtain ⟨g1, hg⟩ := and_e hg
  obtain ⟨g2, hg⟩ := and_e hg
  obtain ⟨g3, hg⟩ := and_e hg
  have g4 := hg
  obtain ⟨w0, w1, w2, w3, w4, rfl⟩ : ∃ w0 w1 w2 w3 w4 : Value, args = #[w0, w1, w2, w3, w4] := by
    have hs : args.size = 5 := by simpa [Cond.value, given_1] using h1
    obtain ⟨L⟩ := args
    match L, hs with
    | [w0, w1, w2, w3, w4], _ => exact ⟨w0, w1, w2, w3, w4, rfl⟩
  have hw := fun d (hd : d ∈ tables_1) => atoms_spec (ws := Jvm.Cond.code x code maxLocals ret :: tables_1) hat d (List.mem_cons_of_mem _ hd)
  obtain ⟨hsets, hown0⟩ := atoms_of _ (rest_1_c_eq ▸ (show rest_1_c.before _ s = true from hrest))
  obtain ⟨p0, e0⟩ := is_v g0
  obtain rfl : w0 = (.int p0) := Option.some.inj e0
  obtain ⟨p1, e1⟩ := is_v g1
  obtain rfl : w1 = (.int p1) := Option.some.inj e1
  obtain ⟨p2, e2⟩ := is_v g2
  obtain rfl : w2 = (.int p2) := Option.some.inj e2
  obtain ⟨p3, e3⟩ := is_v g3
  obtain rfl : w3 = (.int p3) := Option.some.inj e3
  obtain ⟨p4, e4⟩ := is_v g4
  obtain rfl : w4 = (.int p4) := Option.some.inj e4
  have n5 := not_v (Cond.before_iff.mp (hsets _ (List.mem_of_getElem? (i := 22) rfl)))
  obtain ⟨cv, ec⟩ := is_v (Cond.before_iff.mp (hsets _ (List.mem_of_getElem? (i := 21) rfl)))
  have S1 : Sta s s.heap "java/lang/String" "COMPACT_STRINGS" "Z" (.int cv) := Sta.start ec (Or.inl (hsets _ (List.mem_of_getElem? (i := 20) rfl)))
  have ncv : ¬ (cv = (0 : Int32)) := gotF (Cond.eq_ints ec (Term.int_eval (0))) n5
  obtain ⟨fv, ef, rf⟩ := isR_v (Cond.before_iff.mp (hsets _ (List.mem_of_getElem? (i := 28) rfl)))
  have S2 : Sta s s.heap "jdk/internal/util/Preconditions" "SIOOBE_FORMATTER" "Ljava/util/function/BiFunction;" fv := Sta.start ef (Or.inl (hsets _ (List.mem_of_getElem? (i := 27) rfl)))
  obtain ⟨u, eU⟩ := exa_v (Cond.before_iff.mp (hsets _ (List.mem_of_getElem? (i := 37) rfl)))
  obtain ⟨yv, eA, eB⟩ := Cond.eq_one (hsets _ (List.mem_of_getElem? (i := 33) rfl))
  obtain rfl : yv = .ref u := Option.some.inj (eB.symm.trans eU)
  have S3 : Sta s s.heap "java/nio/charset/StandardCharsets" "UTF_8" "Ljava/nio/charset/Charset;" (.ref u) := Sta.start eA (Or.inl (hsets _ (List.mem_of_getElem? (i := 30) rfl)))
  have S4 : Sta s s.heap "sun/nio/cs/UTF_8" "INSTANCE" "Lsun/nio/cs/UTF_8;" (.ref u) := Sta.start eU (Or.inl (hsets _ (List.mem_of_getElem? (i := 32) rfl)))
  have S5 : Sta s s.heap "java/lang/StringUTF16" "$assertionsDisabled" "Z" (.int 1) := Sta.start (eqv_i (Term.int_eval _) (Cond.before_iff.mp (hsets _ (List.mem_of_getElem? (i := 41) rfl)))) (Or.inl (hsets _ (List.mem_of_getElem? (i := 40) rfl)))
  have S6 : Sta s s.heap "java/lang/StringUTF16" "HI_BYTE_SHIFT" "I" (.int 0) := Sta.start (eqv_i (Term.int_eval _) (Cond.before_iff.mp (hsets _ (List.mem_of_getElem? (i := 44) rfl)))) (Or.inl (hsets _ (List.mem_of_getElem? (i := 43) rfl)))
  have S7 : Sta s s.heap "java/lang/StringUTF16" "LO_BYTE_SHIFT" "I" (.int 8) := Sta.start (eqv_i (Term.int_eval _) (Cond.before_iff.mp (hsets _ (List.mem_of_getElem? (i := 47) rfl)))) (Or.inl (hsets _ (List.mem_of_getElem? (i := 46) rfl)))
  obtain ⟨us, eus, rus⟩ := isR_v (Cond.before_iff.mp (hsets _ (List.mem_of_getElem? (i := 7) rfl)))
  have S8 : Sta s s.heap "java/lang/Throwable" "UNASSIGNED_STACK" "[Ljava/lang/StackTraceElement;" us := Sta.start eus (Or.inl (hsets _ (List.mem_of_getElem? (i := 6) rfl)))
  obtain ⟨ss, ess, rss⟩ := isR_v (Cond.before_iff.mp (hsets _ (List.mem_of_getElem? (i := 12) rfl)))
  have S9 : Sta s s.heap "java/lang/Throwable" "SUPPRESSED_SENTINEL" "Ljava/util/List;" ss := Sta.start ess (Or.inl (hsets _ (List.mem_of_getElem? (i := 11) rfl)))
  have hS : Sts s := ⟨⟨cv, S1, ncv⟩, ⟨fv, S2, rf⟩, ⟨S5, S6, S7⟩, ⟨u, S3, S4⟩, ⟨us, ss, S8, rus, S9, rss⟩, trivial⟩
  have hEW : EW s _ consts_1 := (EW.cons (w97 hw) (by decide) (EW.cons (w220 hw) (by decide) EW.nil))
  have hH : ∀ p ∈ consts_1, Jvm.Lit.constHeld s p.1 p.2 := hcalls.1
  have hI : k_inv s consts_1 (Bk s consts_1 s.vm s.heap) s.vm s.heap := ⟨CHv.start hEW hH (hsets _ (List.mem_of_getElem? (i := 22) rfl)) (strAtoms hw _ (List.mem_of_getElem? (i := 2) rfl)) (strAtoms hw _ (List.mem_of_getElem? (i := 1) rfl)), fun y b => b, fun y b => by obtain ⟨cell, hc⟩ := Bk.there b; exact (Array.getElem?_eq_some_iff.mp hc).1, ⟨Nat.le_refl _, fun _ _ q => q⟩, _, hEW⟩
  obtain ⟨n, o, h1, h2, h3, v, L, B', rfl, rfl, -, -, N, -, hq⟩ := c_law (l := l) hw hS (B0 := (Bk s consts_1 s.vm s.heap)) p0 p1 p2 p3 p4 p e ha hc hk s m _ below hf ((Spec.applies_iff_loose hf).mp happ).1 ⟨rfl, State.Warmed39.refl s, rfl, hI⟩ trivial
  obtain ⟨⟨q1, q2, q3, q4⟩, -⟩ := hq
  refine ⟨n, _, h1, h2, h3, hpost _ _ _ _ _ _ ⟨Cond.after_iff.mpr rfl, Cond.after_iff.mpr (eq_i res_at (Term.int_eval (1)) rfl), trivial⟩ ⟨q1, q2, q3, (q4.sift fun y hy => Or.inr (N y hy)).mono (by decide) (by decide)⟩⟩
theorem main_1_1 : Claimed_1_1 := comes_1 fun _ _ _ _ _ _ h hF => ⟨h.1, hF⟩
theorem main_1_2 : Claimed_1_2 := comes_1 fun _ _ _ _ _ _ h hF => ⟨h.2.1, hF⟩
end Jvm.Pilot.@@N@@
namespace Jvm.Pilot.@@N@@
open Jvm Jvm.ClassFile Sem Op Lib Jvm.Free Jvm.Stand Jvm.Pilot.@@N@@.Jvm.D
/-! MADE BY PROGRAM (witnessworld.py) out of the Statement's table words and the real class files: 47 classes; the members and pool entries that the words name. The judged class is class 1, her method 1. -/
namespace start1
open Jvm.ClassFile
def u (s : String) : CpInfo := .utf8 (stringToUtf16 s)
/-- a pool by its gaps: so many unusable entries, then the entry; so many at the end -/
def gap : Nat → List CpInfo → List CpInfo
  | 0, r => r
  | n + 1, r => .unusable :: gap n r
def poolList (es : List (Nat × CpInfo)) (last : Nat) : List CpInfo := es.foldr (fun e r => gap e.1 (e.2 :: r)) (gap last [])
def pool (es : List (Nat × CpInfo)) (last : Nat) : Array CpInfo := ⟨poolList es last⟩
def fileOf (pool : Array CpInfo) (this : Nat) (attrs : Array Attribute := #[]) (ms : Array MethodInfo := #[]) (fl : Nat := 33) (sup : Nat := 0) (ifs : Array Nat := #[]) (fds : Array FieldInfo := #[]) : ClassFile where
  minorVersion := 0
  majorVersion := 65
  constantPool := pool
  accessFlags := fl
  thisClass := this
  superClass := sup
  interfaces := ifs
  fields := fds
  methods := ms
  attributes := attrs
def plain (name : String) (sup : Option ClassId) : Class where
  name := name
  kind := .ordinary
  loader := none
  accessFlags := 33
  super := sup
  interfaces := #[]
  cf := none
  fields := #[]
  methods := #[]
  instanceTypes := #[]
  staticTypes := #[]
  resolved := #[]
  callSites := []
  init := .initialized
  statics := none
  mirror := none

def pool0 : Array CpInfo := pool [(5, u "<init>"), (0, u "()V"), (1, .class_ 10), (1, u "java/lang/Object"), (85, u "clone"), (0, u "()Ljava/lang/Object;")] 26

def k0c0 : Code := { maxStack := 0, maxLocals := 1, code := object_method_1_code, exceptionTable := #[], attributes := #[] }
def k0m0 : Method := { name := "<init>", desc := "()V", sig := { parameters := [], returnType := none }, accessFlags := 1, code := some k0c0 }
def k0m1 : Method := { name := "clone", desc := "()Ljava/lang/Object;", sig := { parameters := [], returnType := some (.object "java/lang/Object") }, accessFlags := 260, code := none }
/-- java/lang/Object -/
def k0 : Class := { plain "java/lang/Object" none with
  accessFlags := 33
  interfaces := #[]
  cf := some (fileOf pool0 8 #[] #[{ accessFlags := 1, nameIndex := 5, descriptorIndex := 6, attributes := #[] }, { accessFlags := 260, nameIndex := 96, descriptorIndex := 97, attributes := #[] }] 33 0 #[] #[])
  fields := #[]
  methods := #[k0m0, k0m1]
  instanceTypes := #[]
  staticTypes := #[]
  resolved := Array.replicate 124 none
  statics := none }

def pool1 : Array CpInfo := pool [(2, .class_ 4), (1, u "java/lang/Object"), (0, u "<init>"), (0, u "()V"), (0, .methodref 8 9), (0, .class_ 10), (0, .nameAndType 11 12), (0, u "com/example/musterpoint/musterpoint/registry/ProblemBodyPinLaw"), (0, u "ch"), (0, u "(I)C"), (0, .methodref 8 14), (0, .nameAndType 15 16), (0, u "enc"), (0, u "(C[BI)I"), (0, .class_ 18), (0, u "java/lang/String"), (0, .methodref 17 20), (0, .nameAndType 5 21), (0, u "([C)V"), (0, .class_ 23), (0, u "com/example/musterpoint/musterpoint/registry/Problem"), (0, .methodref 22 25), (0, .nameAndType 5 26), (0, u "(ILjava/lang/String;)V"), (0, .methodref 22 28), (0, .nameAndType 29 30), (0, u "body"), (0, u "()[B"), (0, .methodref 8 32), (0, .nameAndType 33 34), (0, u "same"), (0, u "([B[BI)Z"), (0, .integer 65535), (0, .integer 55296), (0, .integer 57343), (2, u "law"), (0, u "(IIIII)Z")] 7

def k1m0 : Method := { name := "<init>", desc := "()V", sig := { parameters := [], returnType := none }, accessFlags := 1, code := none }
def k1c1 : Code := { maxStack := 4, maxLocals := 15, code := code, exceptionTable := #[], attributes := #[] }
def k1m1 : Method := { name := "law", desc := "(IIIII)Z", sig := { parameters := [.int, .int, .int, .int, .int], returnType := some .boolean }, accessFlags := 9, code := some k1c1 }
def k1c2 : Code := { maxStack := 2, maxLocals := 2, code := method_3_code, exceptionTable := #[], attributes := #[] }
def k1m2 : Method := { name := "ch", desc := "(I)C", sig := { parameters := [.int], returnType := some .char }, accessFlags := 10, code := some k1c2 }
def k1c3 : Code := { maxStack := 5, maxLocals := 4, code := method_4_code, exceptionTable := #[], attributes := #[] }
def k1m3 : Method := { name := "enc", desc := "(C[BI)I", sig := { parameters := [.char, (.array .byte), .int], returnType := some .int }, accessFlags := 10, code := some k1c3 }
def k1c4 : Code := { maxStack := 3, maxLocals := 3, code := method_5_code, exceptionTable := #[], attributes := #[] }
def k1m4 : Method := { name := "same", desc := "([B[BI)Z", sig := { parameters := [(.array .byte), (.array .byte), .int], returnType := some .boolean }, accessFlags := 10, code := some k1c4 }
/-- com/example/musterpoint/musterpoint/registry/ProblemBodyPinLaw -/
def k1 : Class := { plain "com/example/musterpoint/musterpoint/registry/ProblemBodyPinLaw" (some 0) with
  accessFlags := 49
  interfaces := #[]
  cf := some (fileOf pool1 8 #[] #[{ accessFlags := 1, nameIndex := 5, descriptorIndex := 6, attributes := #[] }, { accessFlags := 9, nameIndex := 40, descriptorIndex := 41, attributes := #[] }, { accessFlags := 10, nameIndex := 11, descriptorIndex := 12, attributes := #[] }, { accessFlags := 10, nameIndex := 15, descriptorIndex := 16, attributes := #[] }, { accessFlags := 10, nameIndex := 33, descriptorIndex := 34, attributes := #[] }] 49 2 #[] #[])
  fields := #[]
  methods := #[k1m0, k1m1, k1m2, k1m3, k1m4]
  instanceTypes := #[]
  staticTypes := #[]
  resolved := Array.replicate 49 none
  statics := none }

def pool2 : Array CpInfo := pool [(1, .class_ 2), (0, u "java/io/Serializable"), (0, .class_ 4), (0, u "java/lang/Object")] 2

/-- java/io/Serializable -/
def k2 : Class := { plain "java/io/Serializable" (some 0) with
  accessFlags := 1537
  interfaces := #[]
  cf := some (fileOf pool2 1 #[] #[] 1537 3 #[] #[])
  fields := #[]
  methods := #[]
  instanceTypes := #[]
  staticTypes := #[]
  resolved := Array.replicate 7 none
  statics := none }

def pool3 : Array CpInfo := pool [(1, .methodref 2 3), (0, .class_ 4), (0, .nameAndType 5 6), (0, u "java/lang/Object"), (0, u "<init>"), (0, u "()V"), (0, .fieldref 8 9), (0, .class_ 10), (0, .nameAndType 11 12), (0, u "java/lang/Throwable"), (0, u "cause"), (0, u "Ljava/lang/Throwable;"), (0, .fieldref 8 14), (0, .nameAndType 15 16), (0, u "UNASSIGNED_STACK"), (0, u "[Ljava/lang/StackTraceElement;"), (0, .fieldref 8 18), (0, .nameAndType 19 16), (0, u "stackTrace"), (0, .fieldref 8 21), (0, .nameAndType 22 23), (0, u "SUPPRESSED_SENTINEL"), (0, u "Ljava/util/List;"), (0, .fieldref 8 25), (0, .nameAndType 26 23), (0, u "suppressedExceptions"), (4, .fieldref 8 32), (0, .nameAndType 33 34), (0, u "detailMessage"), (0, u "Ljava/lang/String;"), (3, u "()Ljava/lang/String;"), (2, u "getMessage"), (51, .class_ 94), (0, u "java/lang/Throwable$WrappedPrintStream"), (6, .class_ 103), (1, u "java/lang/Throwable$PrintStreamOrWriter"), (61, u "$assertionsDisabled"), (0, u "Z"), (26, .class_ 194), (0, u "java/lang/Throwable$WrappedPrintWriter"), (5, u "backtrace"), (0, u "Ljava/lang/Object;"), (9, u "depth"), (0, u "I"), (56, .class_ 271), (1, u "java/lang/Throwable$SentinelHolder"), (32, u "EMPTY_THROWABLE_ARRAY"), (0, u "[Ljava/lang/Throwable;"), (12, .class_ 319), (0, u "java/io/Serializable"), (0, u "serialVersionUID"), (0, u "J"), (5, u "NULL_CAUSE_MESSAGE"), (0, u "SELF_SUPPRESSION_MESSAGE"), (0, u "CAUSE_CAPTION"), (0, u "SUPPRESSED_CAPTION"), (9, u "(Ljava/lang/String;Ljava/lang/Throwable;ZZ)V")] 63

def k3m0 : Method := { name := "<init>", desc := "()V", sig := { parameters := [], returnType := none }, accessFlags := 1, code := none }
def k3c1 : Code := { maxStack := 2, maxLocals := 5, code := jdk_78_method_5_code, exceptionTable := #[], attributes := #[] }
def k3m1 : Method := { name := "<init>", desc := "(Ljava/lang/String;Ljava/lang/Throwable;ZZ)V", sig := { parameters := [(.object "java/lang/String"), (.object "java/lang/Throwable"), .boolean, .boolean], returnType := none }, accessFlags := 4, code := some k3c1 }
def k3c2 : Code := { maxStack := 1, maxLocals := 1, code := jdk_78_method_6_code, exceptionTable := #[], attributes := #[] }
def k3m2 : Method := { name := "getMessage", desc := "()Ljava/lang/String;", sig := { parameters := [], returnType := some (.object "java/lang/String") }, accessFlags := 1, code := some k3c2 }
/-- java/lang/Throwable -/
def k3 : Class := { plain "java/lang/Throwable" (some 0) with
  accessFlags := 33
  interfaces := #[2]
  cf := some (fileOf pool3 8 #[.nestMembers #[193, 93, 101, 269]] #[{ accessFlags := 1, nameIndex := 5, descriptorIndex := 6, attributes := #[] }, { accessFlags := 4, nameIndex := 5, descriptorIndex := 340, attributes := #[] }, { accessFlags := 1, nameIndex := 41, descriptorIndex := 38, attributes := #[] }] 33 2 #[318] #[{ accessFlags := 26, nameIndex := 320, descriptorIndex := 321, attributes := #[] }, { accessFlags := 130, nameIndex := 200, descriptorIndex := 201, attributes := #[] }, { accessFlags := 2, nameIndex := 33, descriptorIndex := 34, attributes := #[] }, { accessFlags := 26, nameIndex := 15, descriptorIndex := 16, attributes := #[] }, { accessFlags := 2, nameIndex := 11, descriptorIndex := 12, attributes := #[] }, { accessFlags := 2, nameIndex := 19, descriptorIndex := 16, attributes := #[] }, { accessFlags := 130, nameIndex := 211, descriptorIndex := 212, attributes := #[] }, { accessFlags := 26, nameIndex := 22, descriptorIndex := 23, attributes := #[] }, { accessFlags := 2, nameIndex := 26, descriptorIndex := 23, attributes := #[] }, { accessFlags := 26, nameIndex := 327, descriptorIndex := 34, attributes := #[] }, { accessFlags := 26, nameIndex := 328, descriptorIndex := 34, attributes := #[] }, { accessFlags := 26, nameIndex := 329, descriptorIndex := 34, attributes := #[] }, { accessFlags := 26, nameIndex := 330, descriptorIndex := 34, attributes := #[] }, { accessFlags := 26, nameIndex := 304, descriptorIndex := 305, attributes := #[] }, { accessFlags := 4120, nameIndex := 165, descriptorIndex := 166, attributes := #[] }])
  fields := #[{ name := "serialVersionUID", type := .long, accessFlags := 26, slot := 0, constantValue := 0 }, { name := "backtrace", type := (.object "java/lang/Object"), accessFlags := 130, slot := 0, constantValue := 0 }, { name := "detailMessage", type := (.object "java/lang/String"), accessFlags := 2, slot := 1, constantValue := 0 }, { name := "UNASSIGNED_STACK", type := (.array (.object "java/lang/StackTraceElement")), accessFlags := 26, slot := 1, constantValue := 0 }, { name := "cause", type := (.object "java/lang/Throwable"), accessFlags := 2, slot := 2, constantValue := 0 }, { name := "stackTrace", type := (.array (.object "java/lang/StackTraceElement")), accessFlags := 2, slot := 3, constantValue := 0 }, { name := "depth", type := .int, accessFlags := 130, slot := 4, constantValue := 0 }, { name := "SUPPRESSED_SENTINEL", type := (.object "java/util/List"), accessFlags := 26, slot := 2, constantValue := 0 }, { name := "suppressedExceptions", type := (.object "java/util/List"), accessFlags := 2, slot := 5, constantValue := 0 }, { name := "NULL_CAUSE_MESSAGE", type := (.object "java/lang/String"), accessFlags := 26, slot := 3, constantValue := 0 }, { name := "SELF_SUPPRESSION_MESSAGE", type := (.object "java/lang/String"), accessFlags := 26, slot := 4, constantValue := 0 }, { name := "CAUSE_CAPTION", type := (.object "java/lang/String"), accessFlags := 26, slot := 5, constantValue := 0 }, { name := "SUPPRESSED_CAPTION", type := (.object "java/lang/String"), accessFlags := 26, slot := 6, constantValue := 0 }, { name := "EMPTY_THROWABLE_ARRAY", type := (.array (.object "java/lang/Throwable")), accessFlags := 26, slot := 7, constantValue := 0 }, { name := "$assertionsDisabled", type := .boolean, accessFlags := 4120, slot := 8, constantValue := 0 }]
  methods := #[k3m0, k3m1, k3m2]
  instanceTypes := #[(.object "java/lang/Object"), (.object "java/lang/String"), (.object "java/lang/Throwable"), (.array (.object "java/lang/StackTraceElement")), .int, (.object "java/util/List")]
  staticTypes := #[.long, (.array (.object "java/lang/StackTraceElement")), (.object "java/util/List"), (.object "java/lang/String"), (.object "java/lang/String"), (.object "java/lang/String"), (.object "java/lang/String"), (.array (.object "java/lang/Throwable")), .boolean]
  resolved := Array.replicate 404 none
  statics := some 0 }

def pool4 : Array CpInfo := pool [(2, .class_ 4), (1, u "java/lang/Throwable"), (0, u "<init>"), (0, u "()V"), (9, .methodref 2 17), (0, .nameAndType 5 18), (0, u "(Ljava/lang/String;Ljava/lang/Throwable;ZZ)V"), (0, .class_ 20), (0, u "java/lang/Exception"), (0, u "serialVersionUID"), (0, u "J")] 17

def k4m0 : Method := { name := "<init>", desc := "()V", sig := { parameters := [], returnType := none }, accessFlags := 1, code := none }
def k4c1 : Code := { maxStack := 5, maxLocals := 5, code := jdk_59_method_5_code, exceptionTable := #[], attributes := #[] }
def k4m1 : Method := { name := "<init>", desc := "(Ljava/lang/String;Ljava/lang/Throwable;ZZ)V", sig := { parameters := [(.object "java/lang/String"), (.object "java/lang/Throwable"), .boolean, .boolean], returnType := none }, accessFlags := 4, code := some k4c1 }
/-- java/lang/Exception -/
def k4 : Class := { plain "java/lang/Exception" (some 3) with
  accessFlags := 33
  interfaces := #[]
  cf := some (fileOf pool4 19 #[] #[{ accessFlags := 1, nameIndex := 5, descriptorIndex := 6, attributes := #[] }, { accessFlags := 4, nameIndex := 5, descriptorIndex := 18, attributes := #[] }] 33 2 #[] #[{ accessFlags := 24, nameIndex := 21, descriptorIndex := 22, attributes := #[] }])
  fields := #[{ name := "serialVersionUID", type := .long, accessFlags := 24, slot := 0, constantValue := 0 }]
  methods := #[k4m0, k4m1]
  instanceTypes := #[(.object "java/lang/Object"), (.object "java/lang/String"), (.object "java/lang/Throwable"), (.array (.object "java/lang/StackTraceElement")), .int, (.object "java/util/List")]
  staticTypes := #[.long]
  resolved := Array.replicate 40 none
  statics := none }

def pool5 : Array CpInfo := pool [(1, .methodref 2 3), (0, .class_ 4), (0, .nameAndType 5 6), (0, u "java/lang/Exception"), (0, u "<init>"), (0, u "(Ljava/lang/String;Ljava/lang/Throwable;ZZ)V"), (0, .fieldref 8 9), (0, .class_ 10), (0, .nameAndType 11 12), (0, u "com/example/musterpoint/musterpoint/registry/Problem"), (0, u "status"), (0, u "I"), (4, u "(ILjava/lang/String;)V"), (14, .class_ 33), (0, u "java/lang/StringBuilder"), (0, .methodref 32 35), (0, .nameAndType 5 36), (0, u "()V"), (2, .methodref 32 40), (0, .nameAndType 41 42), (0, u "append"), (0, u "(Ljava/lang/String;)Ljava/lang/StringBuilder;"), (0, .methodref 32 44), (0, .nameAndType 45 46), (0, u "toString"), (0, u "()Ljava/lang/String;"), (0, .methodref 8 48), (0, .nameAndType 49 46), (0, u "getMessage"), (0, .string 51), (0, u "\n"), (0, .fieldref 53 54), (0, .class_ 55), (0, .nameAndType 56 57), (0, u "java/nio/charset/StandardCharsets"), (0, u "UTF_8"), (0, u "Ljava/nio/charset/Charset;"), (0, .methodref 59 60), (0, .class_ 61), (0, .nameAndType 62 63), (0, u "java/lang/String"), (0, u "getBytes"), (0, u "(Ljava/nio/charset/Charset;)[B"), (0, u "serialVersionUID"), (0, u "J"), (10, u "body"), (0, u "()[B")] 2

def k5c0 : Code := { maxStack := 5, maxLocals := 3, code := prog_15_method_1_code, exceptionTable := #[], attributes := #[] }
def k5m0 : Method := { name := "<init>", desc := "(ILjava/lang/String;)V", sig := { parameters := [.int, (.object "java/lang/String")], returnType := none }, accessFlags := 0, code := some k5c0 }
def k5c1 : Code := { maxStack := 2, maxLocals := 1, code := prog_15_method_5_code, exceptionTable := #[], attributes := #[] }
def k5m1 : Method := { name := "body", desc := "()[B", sig := { parameters := [], returnType := some (.array .byte) }, accessFlags := 0, code := some k5c1 }
/-- com/example/musterpoint/musterpoint/registry/Problem -/
def k5 : Class := { plain "com/example/musterpoint/musterpoint/registry/Problem" (some 4) with
  accessFlags := 48
  interfaces := #[]
  cf := some (fileOf pool5 8 #[] #[{ accessFlags := 0, nameIndex := 5, descriptorIndex := 17, attributes := #[] }, { accessFlags := 0, nameIndex := 76, descriptorIndex := 77, attributes := #[] }] 48 2 #[] #[{ accessFlags := 26, nameIndex := 64, descriptorIndex := 65, attributes := #[] }, { accessFlags := 18, nameIndex := 11, descriptorIndex := 12, attributes := #[] }])
  fields := #[{ name := "serialVersionUID", type := .long, accessFlags := 26, slot := 0, constantValue := 0 }, { name := "status", type := .int, accessFlags := 18, slot := 6, constantValue := 0 }]
  methods := #[k5m0, k5m1]
  instanceTypes := #[(.object "java/lang/Object"), (.object "java/lang/String"), (.object "java/lang/Throwable"), (.array (.object "java/lang/StackTraceElement")), .int, (.object "java/util/List"), .int]
  staticTypes := #[.long]
  resolved := Array.replicate 80 none
  statics := none }

def pool6 : Array CpInfo := pool [(1, .class_ 2), (0, u "java/lang/Appendable"), (0, .class_ 4), (0, u "java/lang/Object")] 9

/-- java/lang/Appendable -/
def k6 : Class := { plain "java/lang/Appendable" (some 0) with
  accessFlags := 1537
  interfaces := #[]
  cf := some (fileOf pool6 1 #[] #[] 1537 3 #[] #[])
  fields := #[]
  methods := #[]
  instanceTypes := #[]
  staticTypes := #[]
  resolved := Array.replicate 14 none
  statics := none }

def pool7 : Array CpInfo := pool [(2, .class_ 4), (1, u "java/lang/CharSequence"), (42, .class_ 48), (0, u "java/lang/CharSequence$1CodePointIterator"), (10, .class_ 60), (0, u "java/lang/CharSequence$1CharIterator"), (5, .class_ 67), (0, u "java/lang/Object")] 63

/-- java/lang/CharSequence -/
def k7 : Class := { plain "java/lang/CharSequence" (some 0) with
  accessFlags := 1537
  interfaces := #[]
  cf := some (fileOf pool7 2 #[.nestMembers #[47, 59]] #[] 1537 66 #[] #[])
  fields := #[]
  methods := #[]
  instanceTypes := #[]
  staticTypes := #[]
  resolved := Array.replicate 131 none
  statics := none }

def pool8 : Array CpInfo := pool [(1, .class_ 2), (0, u "java/lang/String"), (0, .methodref 4 5), (0, .class_ 6), (0, .nameAndType 7 8), (0, u "java/lang/Object"), (0, u "<init>"), (0, u "()V"), (1, .class_ 12), (1, u "java/lang/AbstractStringBuilder"), (0, u "EMPTYVALUE"), (0, u "[B"), (0, .fieldref 10 16), (0, .nameAndType 17 14), (0, u "value"), (0, .fieldref 1 19), (0, .nameAndType 20 21), (0, u "COMPACT_STRINGS"), (0, u "Z"), (0, .fieldref 10 23), (0, .nameAndType 24 25), (0, u "coder"), (0, u "B"), (0, .methodref 27 28), (0, .class_ 29), (0, .nameAndType 30 31), (0, u "java/lang/StringUTF16"), (0, u "newBytesFor"), (0, u "(I)[B"), (0, .methodref 1 33), (0, .nameAndType 34 35), (0, u "length"), (0, u "()I"), (4, .methodref 1 41), (0, .nameAndType 24 42), (0, u "()B"), (2, u "append"), (0, u "(Ljava/lang/String;)Ljava/lang/AbstractStringBuilder;"), (1, .class_ 49), (0, u "java/lang/CharSequence"), (19, u "(Ljava/lang/String;)V"), (5, u "maybeLatin1"), (3, .fieldref 10 80), (0, .nameAndType 81 82), (0, u "count"), (0, u "I"), (0, .methodref 10 84), (0, .nameAndType 85 86), (0, u "isLatin1"), (0, u "()Z"), (1, .class_ 90), (1, u "java/lang/StringLatin1"), (9, .methodref 10 101), (0, .nameAndType 102 103), (0, u "ensureCapacityInternal"), (0, u "(I)V"), (21, .methodref 88 126), (0, .nameAndType 127 128), (0, u "inflate"), (0, u "([BI[BII)V"), (66, .methodref 10 196), (0, .nameAndType 127 8), (7, .methodref 10 205), (0, .nameAndType 206 207), (0, u "appendNull"), (0, u "()Ljava/lang/AbstractStringBuilder;"), (0, .methodref 10 209), (0, .nameAndType 210 211), (0, u "putStringAt"), (0, u "(ILjava/lang/String;)V"), (5, u "inflateIfNeededFor"), (2, .nameAndType 221 222), (0, u "getBytes"), (0, u "([BIB)V"), (174, .methodref 10 398), (0, .nameAndType 217 69), (0, .methodref 1 220), (3, u "()[B"), (40, .class_ 445), (0, u "java/lang/Appendable"), (106, u "getValue")] 56

def k8m0 : Method := { name := "<init>", desc := "()V", sig := { parameters := [], returnType := none }, accessFlags := 0, code := none }
def k8c1 : Code := { maxStack := 2, maxLocals := 2, code := jdk_68_method_2_code, exceptionTable := #[], attributes := #[] }
def k8m1 : Method := { name := "<init>", desc := "(I)V", sig := { parameters := [.int], returnType := none }, accessFlags := 0, code := some k8c1 }
def k8c2 : Code := { maxStack := 1, maxLocals := 1, code := jdk_68_method_6_code, exceptionTable := #[], attributes := #[] }
def k8m2 : Method := { name := "length", desc := "()I", sig := { parameters := [], returnType := some .int }, accessFlags := 1, code := some k8c2 }
def k8c3 : Code := { maxStack := 4, maxLocals := 3, code := jdk_68_method_9_code, exceptionTable := #[], attributes := #[] }
def k8m3 : Method := { name := "ensureCapacityInternal", desc := "(I)V", sig := { parameters := [.int], returnType := none }, accessFlags := 2, code := some k8c3 }
def k8c4 : Code := { maxStack := 5, maxLocals := 2, code := jdk_68_method_11_code, exceptionTable := #[], attributes := #[] }
def k8m4 : Method := { name := "inflate", desc := "()V", sig := { parameters := [], returnType := none }, accessFlags := 2, code := some k8c4 }
def k8c5 : Code := { maxStack := 3, maxLocals := 3, code := jdk_68_method_22_code, exceptionTable := #[], attributes := #[] }
def k8m5 : Method := { name := "append", desc := "(Ljava/lang/String;)Ljava/lang/AbstractStringBuilder;", sig := { parameters := [(.object "java/lang/String")], returnType := some (.object "java/lang/AbstractStringBuilder") }, accessFlags := 1, code := some k8c5 }
def k8c6 : Code := { maxStack := 6, maxLocals := 3, code := jdk_68_method_26_code, exceptionTable := #[], attributes := #[] }
def k8m6 : Method := { name := "appendNull", desc := "()Ljava/lang/AbstractStringBuilder;", sig := { parameters := [], returnType := some (.object "java/lang/AbstractStringBuilder") }, accessFlags := 2, code := some k8c6 }
def k8c7 : Code := { maxStack := 1, maxLocals := 1, code := jdk_68_method_64_code, exceptionTable := #[], attributes := #[] }
def k8m7 : Method := { name := "getValue", desc := "()[B", sig := { parameters := [], returnType := some (.array .byte) }, accessFlags := 16, code := some k8c7 }
def k8c8 : Code := { maxStack := 1, maxLocals := 1, code := jdk_68_method_68_code, exceptionTable := #[], attributes := #[] }
def k8m8 : Method := { name := "isLatin1", desc := "()Z", sig := { parameters := [], returnType := some .boolean }, accessFlags := 16, code := some k8c8 }
def k8c9 : Code := { maxStack := 2, maxLocals := 2, code := jdk_68_method_71_code, exceptionTable := #[], attributes := #[] }
def k8m9 : Method := { name := "inflateIfNeededFor", desc := "(Ljava/lang/String;)V", sig := { parameters := [(.object "java/lang/String")], returnType := none }, accessFlags := 2, code := some k8c9 }
def k8c10 : Code := { maxStack := 4, maxLocals := 3, code := jdk_68_method_73_code, exceptionTable := #[], attributes := #[] }
def k8m10 : Method := { name := "putStringAt", desc := "(ILjava/lang/String;)V", sig := { parameters := [.int, (.object "java/lang/String")], returnType := none }, accessFlags := 2, code := some k8c10 }
/-- java/lang/AbstractStringBuilder -/
def k8 : Class := { plain "java/lang/AbstractStringBuilder" (some 0) with
  accessFlags := 1056
  interfaces := #[6, 7]
  cf := some (fileOf pool8 10 #[] #[{ accessFlags := 0, nameIndex := 7, descriptorIndex := 8, attributes := #[] }, { accessFlags := 0, nameIndex := 7, descriptorIndex := 103, attributes := #[] }, { accessFlags := 1, nameIndex := 34, descriptorIndex := 35, attributes := #[] }, { accessFlags := 2, nameIndex := 102, descriptorIndex := 103, attributes := #[] }, { accessFlags := 2, nameIndex := 127, descriptorIndex := 8, attributes := #[] }, { accessFlags := 1, nameIndex := 45, descriptorIndex := 46, attributes := #[] }, { accessFlags := 2, nameIndex := 206, descriptorIndex := 207, attributes := #[] }, { accessFlags := 16, nameIndex := 552, descriptorIndex := 403, attributes := #[] }, { accessFlags := 16, nameIndex := 85, descriptorIndex := 86, attributes := #[] }, { accessFlags := 2, nameIndex := 217, descriptorIndex := 69, attributes := #[] }, { accessFlags := 2, nameIndex := 210, descriptorIndex := 211, attributes := #[] }] 1056 4 #[444, 48] #[{ accessFlags := 0, nameIndex := 17, descriptorIndex := 14, attributes := #[] }, { accessFlags := 0, nameIndex := 24, descriptorIndex := 25, attributes := #[] }, { accessFlags := 0, nameIndex := 75, descriptorIndex := 21, attributes := #[] }, { accessFlags := 0, nameIndex := 81, descriptorIndex := 82, attributes := #[] }, { accessFlags := 26, nameIndex := 13, descriptorIndex := 14, attributes := #[] }])
  fields := #[{ name := "value", type := (.array .byte), accessFlags := 0, slot := 0, constantValue := 0 }, { name := "coder", type := .byte, accessFlags := 0, slot := 1, constantValue := 0 }, { name := "maybeLatin1", type := .boolean, accessFlags := 0, slot := 2, constantValue := 0 }, { name := "count", type := .int, accessFlags := 0, slot := 3, constantValue := 0 }, { name := "EMPTYVALUE", type := (.array .byte), accessFlags := 26, slot := 0, constantValue := 0 }]
  methods := #[k8m0, k8m1, k8m2, k8m3, k8m4, k8m5, k8m6, k8m7, k8m8, k8m9, k8m10]
  instanceTypes := #[(.array .byte), .byte, .boolean, .int]
  staticTypes := #[(.array .byte)]
  resolved := Array.replicate 609 none
  statics := none }

def pool9 : Array CpInfo := pool [(1, .class_ 2), (0, u "java/lang/Comparable"), (0, .class_ 4), (0, u "java/lang/Object")] 7

/-- java/lang/Comparable -/
def k9 : Class := { plain "java/lang/Comparable" (some 0) with
  accessFlags := 1537
  interfaces := #[]
  cf := some (fileOf pool9 1 #[] #[] 1537 3 #[] #[])
  fields := #[]
  methods := #[]
  instanceTypes := #[]
  staticTypes := #[]
  resolved := Array.replicate 12 none
  statics := none }

def pool10 : Array CpInfo := pool [(1, .methodref 2 3), (0, .class_ 4), (0, .nameAndType 5 6), (0, u "java/lang/AbstractStringBuilder"), (0, u "<init>"), (0, u "(I)V"), (11, .class_ 20), (1, u "java/lang/String"), (3, .class_ 26), (1, u "java/lang/StringBuilder"), (0, u "append"), (0, u "(Ljava/lang/String;)Ljava/lang/StringBuilder;"), (0, .methodref 2 30), (0, .nameAndType 27 31), (0, u "(Ljava/lang/String;)Ljava/lang/AbstractStringBuilder;"), (105, .methodref 18 138), (0, .nameAndType 5 139), (0, u "(Ljava/lang/StringBuilder;)V"), (5, u "()V"), (10, u "()I"), (186, .methodref 2 344), (0, .nameAndType 345 156), (0, u "length"), (3, .class_ 350), (0, u "java/lang/Appendable"), (0, .class_ 352), (0, u "java/io/Serializable"), (0, .class_ 354), (0, u "java/lang/Comparable"), (0, .class_ 356), (0, u "java/lang/CharSequence"), (0, u "serialVersionUID"), (0, u "J"), (40, u "toString"), (0, u "()Ljava/lang/String;")] 21

def k10c0 : Code := { maxStack := 2, maxLocals := 1, code := jdk_67_method_1_code, exceptionTable := #[], attributes := #[] }
def k10m0 : Method := { name := "<init>", desc := "()V", sig := { parameters := [], returnType := none }, accessFlags := 1, code := some k10c0 }
def k10c1 : Code := { maxStack := 2, maxLocals := 2, code := jdk_67_method_7_code, exceptionTable := #[], attributes := #[] }
def k10m1 : Method := { name := "append", desc := "(Ljava/lang/String;)Ljava/lang/StringBuilder;", sig := { parameters := [(.object "java/lang/String")], returnType := some (.object "java/lang/StringBuilder") }, accessFlags := 1, code := some k10c1 }
def k10c2 : Code := { maxStack := 3, maxLocals := 1, code := jdk_67_method_42_code, exceptionTable := #[], attributes := #[] }
def k10m2 : Method := { name := "toString", desc := "()Ljava/lang/String;", sig := { parameters := [], returnType := some (.object "java/lang/String") }, accessFlags := 1, code := some k10c2 }
def k10c3 : Code := { maxStack := 1, maxLocals := 1, code := jdk_67_method_93_code, exceptionTable := #[], attributes := #[] }
def k10m3 : Method := { name := "length", desc := "()I", sig := { parameters := [], returnType := some .int }, accessFlags := 4161, code := some k10c3 }
/-- java/lang/StringBuilder -/
def k10 : Class := { plain "java/lang/StringBuilder" (some 8) with
  accessFlags := 49
  interfaces := #[6, 2, 9, 7]
  cf := some (fileOf pool10 24 #[] #[{ accessFlags := 1, nameIndex := 5, descriptorIndex := 145, attributes := #[] }, { accessFlags := 1, nameIndex := 27, descriptorIndex := 28, attributes := #[] }, { accessFlags := 1, nameIndex := 399, descriptorIndex := 400, attributes := #[] }, { accessFlags := 4161, nameIndex := 345, descriptorIndex := 156, attributes := #[] }] 49 2 #[349, 351, 353, 355] #[{ accessFlags := 24, nameIndex := 357, descriptorIndex := 358, attributes := #[] }])
  fields := #[{ name := "serialVersionUID", type := .long, accessFlags := 24, slot := 0, constantValue := 0 }]
  methods := #[k10m0, k10m1, k10m2, k10m3]
  instanceTypes := #[(.array .byte), .byte, .boolean, .int]
  staticTypes := #[.long]
  resolved := Array.replicate 422 none
  statics := none }

def pool11 : Array CpInfo := pool [(1, .class_ 2), (0, u "java/lang/constant/Constable"), (0, .class_ 4), (0, u "java/lang/Object")] 6

/-- java/lang/constant/Constable -/
def k11 : Class := { plain "java/lang/constant/Constable" (some 0) with
  accessFlags := 1537
  interfaces := #[]
  cf := some (fileOf pool11 1 #[] #[] 1537 3 #[] #[])
  fields := #[]
  methods := #[]
  instanceTypes := #[]
  staticTypes := #[]
  resolved := Array.replicate 11 none
  statics := none }

def pool12 : Array CpInfo := pool [(1, .class_ 2), (0, u "java/lang/constant/ConstantDesc"), (0, .class_ 4), (0, u "java/lang/Object")] 32

/-- java/lang/constant/ConstantDesc -/
def k12 : Class := { plain "java/lang/constant/ConstantDesc" (some 0) with
  accessFlags := 1537
  interfaces := #[]
  cf := some (fileOf pool12 1 #[] #[] 1537 3 #[] #[])
  fields := #[]
  methods := #[]
  instanceTypes := #[]
  staticTypes := #[]
  resolved := Array.replicate 37 none
  statics := none }

def pool13 : Array CpInfo := pool [(1, .methodref 2 3), (0, .class_ 4), (0, .nameAndType 5 6), (0, u "java/lang/Object"), (0, u "<init>"), (0, u "()V"), (0, .string 8), (0, u ""), (0, .fieldref 10 11), (0, .class_ 12), (0, .nameAndType 13 14), (0, u "java/lang/String"), (0, u "value"), (0, u "[B"), (0, .fieldref 10 16), (0, .nameAndType 17 18), (0, u "coder"), (0, u "B"), (2, u "hash"), (0, u "I"), (2, u "hashIsZero"), (0, u "Z"), (0, .methodref 10 28), (0, .nameAndType 5 29), (0, u "([CIILjava/lang/Void;)V"), (6, u "checkBoundsOffCount"), (0, u "(III)I"), (0, .fieldref 10 39), (0, .nameAndType 40 26), (0, u "COMPACT_STRINGS"), (1, .class_ 44), (1, u "java/lang/StringUTF16"), (0, u "compress"), (1, .methodref 42 48), (0, .nameAndType 49 50), (0, u "coderFromArrayLen"), (0, u "([BI)B"), (3, .methodref 55 56), (0, .class_ 57), (0, .nameAndType 58 59), (0, u "java/util/Arrays"), (0, u "copyOfRange"), (0, u "([BII)[B"), (0, .methodref 42 61), (0, .nameAndType 62 63), (0, u "newBytesFor"), (0, u "(I)[B"), (22, .fieldref 87 88), (0, .class_ 89), (0, .nameAndType 90 91), (0, u "sun/nio/cs/UTF_8"), (0, u "INSTANCE"), (0, u "Lsun/nio/cs/UTF_8;"), (1, .class_ 95), (1, u "java/lang/StringCoding"), (6, .methodref 55 103), (0, .nameAndType 104 105), (0, u "copyOf"), (0, u "([BI)[B"), (0, .methodref 107 108), (0, .class_ 109), (0, .nameAndType 110 111), (0, u "java/lang/StringLatin1"), (0, u "inflate"), (0, u "([BI[BII)V"), (16, .methodref 93 129), (0, .nameAndType 130 131), (0, u "hasNegatives"), (0, u "([BII)Z"), (10, u "()Z"), (34, .methodref 42 178), (0, .nameAndType 45 179), (0, u "([CII)[B"), (13, .class_ 195), (1, u "java/lang/System"), (16, .methodref 193 213), (0, .nameAndType 214 215), (0, u "arraycopy"), (0, u "(Ljava/lang/Object;ILjava/lang/Object;II)V"), (36, .methodref 10 253), (0, .nameAndType 254 255), (0, u "encodeUTF8"), (0, u "(B[BZ)[B"), (23, .methodref 280 281), (0, .class_ 14), (0, .nameAndType 282 283), (0, u "clone"), (0, u "()Ljava/lang/Object;"), (33, u "encode"), (16, u "()I"), (0, .methodref 10 336), (0, .nameAndType 17 337), (0, u "()B"), (2, u "()[B"), (19, .methodref 42 361), (0, .nameAndType 362 363), (0, u "getChar"), (0, u "([BI)C"), (1, .class_ 367), (1, u "java/lang/Character"), (1, u "(C)Z"), (34, .methodref 365 405), (0, .nameAndType 406 369), (0, u "isSurrogate"), (66, .methodref 10 474), (0, .nameAndType 475 476), (0, u "encodeUTF8_UTF16"), (0, u "([BZ)[B"), (12, .methodref 10 490), (0, .nameAndType 5 491), (0, u "(Ljava/lang/AbstractStringBuilder;Ljava/lang/Void;)V"), (1, .nameAndType 494 142), (0, u "isLatin1"), (11, .nameAndType 507 334), (0, u "length"), (24, u "getBytes"), (2, .methodref 10 536), (0, .nameAndType 317 537), (0, u "(Ljava/nio/charset/Charset;B[B)[B"), (11, .methodref 550 506), (0, .class_ 551), (0, u "java/lang/AbstractStringBuilder"), (0, .methodref 550 553), (0, .nameAndType 554 340), (0, u "getValue"), (20, .class_ 576), (0, u "java/lang/CharSequence"), (22, u "CASE_INSENSITIVE_ORDER"), (0, u "Ljava/util/Comparator;"), (220, u "([BIB)V"), (188, u "([C)V"), (36, .methodref 550 493), (0, .fieldref 550 1049), (0, .nameAndType 1050 26), (0, u "maybeLatin1"), (2, .fieldref 1054 1055), (0, .class_ 1056), (0, .nameAndType 1057 1058), (0, u "jdk/internal/util/Preconditions"), (0, u "SIOOBE_FORMATTER"), (0, u "Ljava/util/function/BiFunction;"), (5, u "(IIILjava/util/function/BiFunction;)I"), (0, .methodref 1054 1066), (0, .nameAndType 1067 1064), (0, u "checkFromIndexSize"), (33, u "serialPersistentFields"), (0, u "[Ljava/io/ObjectStreamField;"), (0, .class_ 1104), (0, u "java/lang/String$CaseInsensitiveComparator"), (1, .class_ 1107), (0, u "java/io/Serializable"), (0, .class_ 1109), (0, u "java/lang/Comparable"), (0, .class_ 1111), (0, u "java/lang/constant/Constable"), (0, .class_ 1113), (0, u "java/lang/constant/ConstantDesc"), (2, u "serialVersionUID"), (0, u "J"), (3, u "REPL"), (0, u "C"), (2, u "LATIN1"), (1, u "UTF16"), (105, u "(Ljava/lang/StringBuilder;)V"), (11, u "(Ljava/nio/charset/Charset;)[B")] 205

def k13m0 : Method := { name := "<init>", desc := "()V", sig := { parameters := [], returnType := none }, accessFlags := 1, code := none }
def k13c1 : Code := { maxStack := 5, maxLocals := 2, code := jdk_42_method_3_code, exceptionTable := #[], attributes := #[] }
def k13m1 : Method := { name := "<init>", desc := "([C)V", sig := { parameters := [(.array .char)], returnType := none }, accessFlags := 1, code := some k13c1 }
def k13c2 : Code := { maxStack := 4, maxLocals := 3, code := jdk_42_method_18_code, exceptionTable := #[], attributes := #[] }
def k13m2 : Method := { name := "encode", desc := "(Ljava/nio/charset/Charset;B[B)[B", sig := { parameters := [(.object "java/nio/charset/Charset"), .byte, (.array .byte)], returnType := some (.array .byte) }, accessFlags := 10, code := some k13c2 }
def k13c3 : Code := { maxStack := 5, maxLocals := 9, code := jdk_42_method_46_code, exceptionTable := #[], attributes := #[] }
def k13m3 : Method := { name := "encodeUTF8", desc := "(B[BZ)[B", sig := { parameters := [.byte, (.array .byte), .boolean], returnType := some (.array .byte) }, accessFlags := 10, code := some k13c3 }
def k13c4 : Code := { maxStack := 5, maxLocals := 9, code := jdk_42_method_47_code, exceptionTable := #[], attributes := #[] }
def k13m4 : Method := { name := "encodeUTF8_UTF16", desc := "([BZ)[B", sig := { parameters := [(.array .byte), .boolean], returnType := some (.array .byte) }, accessFlags := 10, code := some k13c4 }
def k13c5 : Code := { maxStack := 3, maxLocals := 2, code := jdk_42_method_53_code, exceptionTable := #[], attributes := #[] }
def k13m5 : Method := { name := "<init>", desc := "(Ljava/lang/StringBuilder;)V", sig := { parameters := [(.object "java/lang/StringBuilder")], returnType := none }, accessFlags := 1, code := some k13c5 }
def k13c6 : Code := { maxStack := 2, maxLocals := 1, code := jdk_42_method_54_code, exceptionTable := #[], attributes := #[] }
def k13m6 : Method := { name := "length", desc := "()I", sig := { parameters := [], returnType := some .int }, accessFlags := 1, code := some k13c6 }
def k13c7 : Code := { maxStack := 3, maxLocals := 2, code := jdk_42_method_64_code, exceptionTable := #[], attributes := #[] }
def k13m7 : Method := { name := "getBytes", desc := "(Ljava/nio/charset/Charset;)[B", sig := { parameters := [(.object "java/nio/charset/Charset")], returnType := some (.array .byte) }, accessFlags := 1, code := some k13c7 }
def k13c8 : Code := { maxStack := 5, maxLocals := 4, code := jdk_42_method_147_code, exceptionTable := #[], attributes := #[] }
def k13m8 : Method := { name := "getBytes", desc := "([BIB)V", sig := { parameters := [(.array .byte), .int, .byte], returnType := none }, accessFlags := 0, code := some k13c8 }
def k13c9 : Code := { maxStack := 4, maxLocals := 6, code := jdk_42_method_149_code, exceptionTable := #[], attributes := #[] }
def k13m9 : Method := { name := "<init>", desc := "([CIILjava/lang/Void;)V", sig := { parameters := [(.array .char), .int, .int, (.object "java/lang/Void")], returnType := none }, accessFlags := 2, code := some k13c9 }
def k13c10 : Code := { maxStack := 5, maxLocals := 5, code := jdk_42_method_150_code, exceptionTable := #[], attributes := #[] }
def k13m10 : Method := { name := "<init>", desc := "(Ljava/lang/AbstractStringBuilder;Ljava/lang/Void;)V", sig := { parameters := [(.object "java/lang/AbstractStringBuilder"), (.object "java/lang/Void")], returnType := none }, accessFlags := 0, code := some k13c10 }
def k13c11 : Code := { maxStack := 1, maxLocals := 1, code := jdk_42_method_152_code, exceptionTable := #[], attributes := #[] }
def k13m11 : Method := { name := "coder", desc := "()B", sig := { parameters := [], returnType := some .byte }, accessFlags := 0, code := some k13c11 }
def k13c12 : Code := { maxStack := 4, maxLocals := 3, code := jdk_42_method_157_code, exceptionTable := #[], attributes := #[] }
def k13m12 : Method := { name := "checkBoundsOffCount", desc := "(III)I", sig := { parameters := [.int, .int, .int], returnType := some .int }, accessFlags := 8, code := some k13c12 }
/-- java/lang/String -/
def k13 : Class := { plain "java/lang/String" (some 0) with
  accessFlags := 49
  interfaces := #[2, 9, 7, 11, 12]
  cf := some (fileOf pool13 10 #[.nestMembers #[1103]] #[{ accessFlags := 1, nameIndex := 5, descriptorIndex := 6, attributes := #[] }, { accessFlags := 1, nameIndex := 5, descriptorIndex := 1010, attributes := #[] }, { accessFlags := 10, nameIndex := 317, descriptorIndex := 537, attributes := #[] }, { accessFlags := 10, nameIndex := 254, descriptorIndex := 255, attributes := #[] }, { accessFlags := 10, nameIndex := 475, descriptorIndex := 476, attributes := #[] }, { accessFlags := 1, nameIndex := 5, descriptorIndex := 1233, attributes := #[] }, { accessFlags := 1, nameIndex := 507, descriptorIndex := 334, attributes := #[] }, { accessFlags := 1, nameIndex := 532, descriptorIndex := 1245, attributes := #[] }, { accessFlags := 0, nameIndex := 532, descriptorIndex := 821, attributes := #[] }, { accessFlags := 2, nameIndex := 5, descriptorIndex := 29, attributes := #[] }, { accessFlags := 0, nameIndex := 5, descriptorIndex := 491, attributes := #[] }, { accessFlags := 0, nameIndex := 17, descriptorIndex := 337, attributes := #[] }, { accessFlags := 8, nameIndex := 36, descriptorIndex := 37, attributes := #[] }] 49 2 #[1106, 1108, 575, 1110, 1112] #[{ accessFlags := 18, nameIndex := 13, descriptorIndex := 14, attributes := #[] }, { accessFlags := 18, nameIndex := 17, descriptorIndex := 18, attributes := #[] }, { accessFlags := 2, nameIndex := 21, descriptorIndex := 22, attributes := #[] }, { accessFlags := 2, nameIndex := 25, descriptorIndex := 26, attributes := #[] }, { accessFlags := 26, nameIndex := 1116, descriptorIndex := 1117, attributes := #[] }, { accessFlags := 24, nameIndex := 40, descriptorIndex := 26, attributes := #[] }, { accessFlags := 26, nameIndex := 1101, descriptorIndex := 1102, attributes := #[] }, { accessFlags := 26, nameIndex := 1121, descriptorIndex := 1122, attributes := #[] }, { accessFlags := 25, nameIndex := 599, descriptorIndex := 600, attributes := #[] }, { accessFlags := 24, nameIndex := 1125, descriptorIndex := 18, attributes := #[] }, { accessFlags := 24, nameIndex := 1127, descriptorIndex := 18, attributes := #[] }])
  fields := #[{ name := "value", type := (.array .byte), accessFlags := 18, slot := 0, constantValue := 0 }, { name := "coder", type := .byte, accessFlags := 18, slot := 1, constantValue := 0 }, { name := "hash", type := .int, accessFlags := 2, slot := 2, constantValue := 0 }, { name := "hashIsZero", type := .boolean, accessFlags := 2, slot := 3, constantValue := 0 }, { name := "serialVersionUID", type := .long, accessFlags := 26, slot := 0, constantValue := 0 }, { name := "COMPACT_STRINGS", type := .boolean, accessFlags := 24, slot := 1, constantValue := 0 }, { name := "serialPersistentFields", type := (.array (.object "java/io/ObjectStreamField")), accessFlags := 26, slot := 2, constantValue := 0 }, { name := "REPL", type := .char, accessFlags := 26, slot := 3, constantValue := 0 }, { name := "CASE_INSENSITIVE_ORDER", type := (.object "java/util/Comparator"), accessFlags := 25, slot := 4, constantValue := 0 }, { name := "LATIN1", type := .byte, accessFlags := 24, slot := 5, constantValue := 0 }, { name := "UTF16", type := .byte, accessFlags := 24, slot := 6, constantValue := 0 }]
  methods := #[k13m0, k13m1, k13m2, k13m3, k13m4, k13m5, k13m6, k13m7, k13m8, k13m9, k13m10, k13m11, k13m12]
  instanceTypes := #[(.array .byte), .byte, .int, .boolean]
  staticTypes := #[.long, .boolean, (.array (.object "java/io/ObjectStreamField")), .char, (.object "java/util/Comparator"), .byte, .byte]
  resolved := Array.replicate 1451 none
  statics := some 1 }

def pool14 : Array CpInfo := pool [(2, .class_ 4), (1, u "java/lang/Object"), (0, u "<init>"), (0, u "()V"), (1, .class_ 10), (1, u "java/lang/System"), (0, u "allowSecurityManager"), (0, u "I"), (16, u "cons"), (0, u "Ljava/io/Console;"), (77, .class_ 110), (1, u "java/lang/System$CallersHolder"), (43, u "initialErrStream"), (0, u "Ljava/io/PrintStream;"), (19, u "security"), (0, u "Ljava/lang/SecurityManager;"), (31, .class_ 209), (0, u "java/lang/System$1"), (7, u "props"), (0, u "Ljava/util/Properties;"), (2, u "lineSeparator"), (0, u "Ljava/lang/String;"), (96, .class_ 321), (1, u "java/lang/System$LoggerFinder"), (5, .class_ 328), (0, u "java/lang/System$Logger"), (67, u "err"), (2, u "out"), (91, u "notSupportedJnuEncoding"), (15, u "in"), (17, u "initialIn"), (0, u "Ljava/io/InputStream;"), (35, u "bootLayer"), (0, u "Ljava/lang/ModuleLayer;"), (99, .class_ 664), (0, u "java/lang/System$2"), (9, u "NEVER"), (2, u "MAYBE"), (49, u "arraycopy"), (0, u "(Ljava/lang/Object;ILjava/lang/Object;II)V"), (72, .class_ 802), (0, u "java/lang/System$Logger$Level")] 31

def k14m0 : Method := { name := "<init>", desc := "()V", sig := { parameters := [], returnType := none }, accessFlags := 2, code := none }
def k14m1 : Method := { name := "arraycopy", desc := "(Ljava/lang/Object;ILjava/lang/Object;II)V", sig := { parameters := [(.object "java/lang/Object"), .int, (.object "java/lang/Object"), .int, .int], returnType := none }, accessFlags := 265, code := none }
/-- java/lang/System -/
def k14 : Class := { plain "java/lang/System" (some 0) with
  accessFlags := 49
  interfaces := #[]
  cf := some (fileOf pool14 8 #[.nestMembers #[319, 327, 801, 108, 663, 208]] #[{ accessFlags := 2, nameIndex := 5, descriptorIndex := 6, attributes := #[] }, { accessFlags := 265, nameIndex := 727, descriptorIndex := 728, attributes := #[] }] 49 2 #[] #[{ accessFlags := 25, nameIndex := 507, descriptorIndex := 526, attributes := #[] }, { accessFlags := 25, nameIndex := 399, descriptorIndex := 155, attributes := #[] }, { accessFlags := 25, nameIndex := 396, descriptorIndex := 155, attributes := #[] }, { accessFlags := 10, nameIndex := 525, descriptorIndex := 526, attributes := #[] }, { accessFlags := 26, nameIndex := 674, descriptorIndex := 12, attributes := #[] }, { accessFlags := 26, nameIndex := 677, descriptorIndex := 12, attributes := #[] }, { accessFlags := 10, nameIndex := 11, descriptorIndex := 12, attributes := #[] }, { accessFlags := 74, nameIndex := 175, descriptorIndex := 176, attributes := #[] }, { accessFlags := 10, nameIndex := 491, descriptorIndex := 222, attributes := #[] }, { accessFlags := 74, nameIndex := 29, descriptorIndex := 30, attributes := #[] }, { accessFlags := 74, nameIndex := 154, descriptorIndex := 155, attributes := #[] }, { accessFlags := 10, nameIndex := 217, descriptorIndex := 218, attributes := #[] }, { accessFlags := 10, nameIndex := 221, descriptorIndex := 222, attributes := #[] }, { accessFlags := 8, nameIndex := 562, descriptorIndex := 563, attributes := #[] }])
  fields := #[{ name := "in", type := (.object "java/io/InputStream"), accessFlags := 25, slot := 0, constantValue := 0 }, { name := "out", type := (.object "java/io/PrintStream"), accessFlags := 25, slot := 1, constantValue := 0 }, { name := "err", type := (.object "java/io/PrintStream"), accessFlags := 25, slot := 2, constantValue := 0 }, { name := "initialIn", type := (.object "java/io/InputStream"), accessFlags := 10, slot := 3, constantValue := 0 }, { name := "NEVER", type := .int, accessFlags := 26, slot := 4, constantValue := 0 }, { name := "MAYBE", type := .int, accessFlags := 26, slot := 5, constantValue := 0 }, { name := "allowSecurityManager", type := .int, accessFlags := 10, slot := 6, constantValue := 0 }, { name := "security", type := (.object "java/lang/SecurityManager"), accessFlags := 74, slot := 7, constantValue := 0 }, { name := "notSupportedJnuEncoding", type := (.object "java/lang/String"), accessFlags := 10, slot := 8, constantValue := 0 }, { name := "cons", type := (.object "java/io/Console"), accessFlags := 74, slot := 9, constantValue := 0 }, { name := "initialErrStream", type := (.object "java/io/PrintStream"), accessFlags := 74, slot := 10, constantValue := 0 }, { name := "props", type := (.object "java/util/Properties"), accessFlags := 10, slot := 11, constantValue := 0 }, { name := "lineSeparator", type := (.object "java/lang/String"), accessFlags := 10, slot := 12, constantValue := 0 }, { name := "bootLayer", type := (.object "java/lang/ModuleLayer"), accessFlags := 8, slot := 13, constantValue := 0 }]
  methods := #[k14m0, k14m1]
  instanceTypes := #[]
  staticTypes := #[(.object "java/io/InputStream"), (.object "java/io/PrintStream"), (.object "java/io/PrintStream"), (.object "java/io/InputStream"), .int, .int, .int, (.object "java/lang/SecurityManager"), (.object "java/lang/String"), (.object "java/io/Console"), (.object "java/io/PrintStream"), (.object "java/util/Properties"), (.object "java/lang/String"), (.object "java/lang/ModuleLayer")]
  resolved := Array.replicate 834 none
  statics := none }

def pool15 : Array CpInfo := pool [(2, .class_ 4), (1, u "java/lang/Object"), (0, u "<init>"), (0, u "()V"), (7, .class_ 16), (1, u "java/util/Arrays"), (57, .class_ 76), (1, u "java/util/Arrays$NaturalOrder"), (36, .class_ 115), (1, u "java/util/Arrays$LegacyMergeSort"), (1, u "Z"), (21, u "copyOfRange"), (10, .methodref 151 152), (0, .class_ 153), (0, .nameAndType 154 155), (0, u "java/lang/System"), (0, u "arraycopy"), (0, u "(Ljava/lang/Object;ILjava/lang/Object;II)V"), (146, u "copyOf"), (1, .methodref 305 306), (0, .class_ 307), (0, .nameAndType 308 309), (0, u "java/lang/Math"), (0, u "min"), (0, u "(II)I"), (29, .methodref 14 340), (0, .nameAndType 341 342), (0, u "copyOfRangeByte"), (0, u "([BII)[B"), (0, .methodref 14 344), (0, .nameAndType 345 346), (0, u "checkLength"), (0, u "(II)V"), (28, .class_ 376), (0, u "java/util/Arrays$ArrayList"), (68, u "$assertionsDisabled"), (269, u "MIN_ARRAY_SORT_GRAN"), (0, u "I"), (2, u "INSERTIONSORT_THRESHOLD"), (149, u "([BI)[B"), (105, .class_ 976), (0, u "java/util/Arrays$ArrayItr")] 52

def k15m0 : Method := { name := "<init>", desc := "()V", sig := { parameters := [], returnType := none }, accessFlags := 2, code := none }
def k15c1 : Code := { maxStack := 6, maxLocals := 3, code := jdk_65_method_121_code, exceptionTable := #[], attributes := #[] }
def k15m1 : Method := { name := "copyOf", desc := "([BI)[B", sig := { parameters := [(.array .byte), .int], returnType := some (.array .byte) }, accessFlags := 9, code := some k15c1 }
def k15c2 : Code := { maxStack := 4, maxLocals := 2, code := jdk_65_method_131_code, exceptionTable := #[], attributes := #[] }
def k15m2 : Method := { name := "checkLength", desc := "(II)V", sig := { parameters := [.int, .int], returnType := none }, accessFlags := 10, code := some k15c2 }
def k15c3 : Code := { maxStack := 3, maxLocals := 3, code := jdk_65_method_132_code, exceptionTable := #[], attributes := #[] }
def k15m3 : Method := { name := "copyOfRange", desc := "([BII)[B", sig := { parameters := [(.array .byte), .int, .int], returnType := some (.array .byte) }, accessFlags := 9, code := some k15c3 }
def k15c4 : Code := { maxStack := 6, maxLocals := 5, code := jdk_65_method_133_code, exceptionTable := #[], attributes := #[] }
def k15m4 : Method := { name := "copyOfRangeByte", desc := "([BII)[B", sig := { parameters := [(.array .byte), .int, .int], returnType := some (.array .byte) }, accessFlags := 10, code := some k15c4 }
/-- java/util/Arrays -/
def k15 : Class := { plain "java/util/Arrays" (some 0) with
  accessFlags := 49
  interfaces := #[]
  cf := some (fileOf pool15 14 #[.nestMembers #[975, 375, 113, 74]] #[{ accessFlags := 2, nameIndex := 5, descriptorIndex := 6, attributes := #[] }, { accessFlags := 9, nameIndex := 302, descriptorIndex := 869, attributes := #[] }, { accessFlags := 10, nameIndex := 345, descriptorIndex := 346, attributes := #[] }, { accessFlags := 9, nameIndex := 139, descriptorIndex := 342, attributes := #[] }, { accessFlags := 10, nameIndex := 341, descriptorIndex := 342, attributes := #[] }] 49 2 #[] #[{ accessFlags := 26, nameIndex := 715, descriptorIndex := 716, attributes := #[] }, { accessFlags := 26, nameIndex := 719, descriptorIndex := 716, attributes := #[] }, { accessFlags := 4120, nameIndex := 445, descriptorIndex := 117, attributes := #[] }])
  fields := #[{ name := "MIN_ARRAY_SORT_GRAN", type := .int, accessFlags := 26, slot := 0, constantValue := 0 }, { name := "INSERTIONSORT_THRESHOLD", type := .int, accessFlags := 26, slot := 1, constantValue := 0 }, { name := "$assertionsDisabled", type := .boolean, accessFlags := 4120, slot := 2, constantValue := 0 }]
  methods := #[k15m0, k15m1, k15m2, k15m3, k15m4]
  instanceTypes := #[]
  staticTypes := #[.int, .int, .boolean]
  resolved := Array.replicate 1029 none
  statics := none }

def pool16 : Array CpInfo := pool [(1, .class_ 2), (0, u "java/lang/Math"), (1, .class_ 6), (1, u "java/lang/Object"), (0, u "<init>"), (0, u "()V"), (89, .class_ 100), (1, u "java/lang/Math$RandomNumberGeneratorHolder"), (71, u "negativeZeroFloatBits"), (0, u "J"), (2, u "negativeZeroDoubleBits"), (24, u "min"), (43, u "$assertionsDisabled"), (0, u "Z"), (88, u "(II)I"), (2, u "twoToTheDoubleScaleDown"), (0, u "D"), (4, u "twoToTheDoubleScaleUp"), (9, u "E"), (3, u "PI"), (2, u "TAU"), (2, u "DEGREES_TO_RADIANS"), (0, u "RADIANS_TO_DEGREES")] 94

def k16m0 : Method := { name := "<init>", desc := "()V", sig := { parameters := [], returnType := none }, accessFlags := 2, code := none }
def k16c1 : Code := { maxStack := 2, maxLocals := 2, code := jdk_29_method_69_code, exceptionTable := #[], attributes := #[] }
def k16m1 : Method := { name := "min", desc := "(II)I", sig := { parameters := [.int, .int], returnType := some .int }, accessFlags := 9, code := some k16c1 }
/-- java/lang/Math -/
def k16 : Class := { plain "java/lang/Math" (some 0) with
  accessFlags := 49
  interfaces := #[]
  cf := some (fileOf pool16 1 #[.nestMembers #[98]] #[{ accessFlags := 2, nameIndex := 7, descriptorIndex := 8, attributes := #[] }, { accessFlags := 9, nameIndex := 201, descriptorIndex := 335, attributes := #[] }] 49 4 #[] #[{ accessFlags := 25, nameIndex := 354, descriptorIndex := 339, attributes := #[] }, { accessFlags := 25, nameIndex := 358, descriptorIndex := 339, attributes := #[] }, { accessFlags := 25, nameIndex := 361, descriptorIndex := 339, attributes := #[] }, { accessFlags := 26, nameIndex := 364, descriptorIndex := 339, attributes := #[] }, { accessFlags := 26, nameIndex := 365, descriptorIndex := 339, attributes := #[] }, { accessFlags := 26, nameIndex := 172, descriptorIndex := 173, attributes := #[] }, { accessFlags := 26, nameIndex := 176, descriptorIndex := 173, attributes := #[] }, { accessFlags := 8, nameIndex := 344, descriptorIndex := 339, attributes := #[] }, { accessFlags := 8, nameIndex := 338, descriptorIndex := 339, attributes := #[] }, { accessFlags := 4120, nameIndex := 245, descriptorIndex := 246, attributes := #[] }])
  fields := #[{ name := "E", type := .double, accessFlags := 25, slot := 0, constantValue := 0 }, { name := "PI", type := .double, accessFlags := 25, slot := 1, constantValue := 0 }, { name := "TAU", type := .double, accessFlags := 25, slot := 2, constantValue := 0 }, { name := "DEGREES_TO_RADIANS", type := .double, accessFlags := 26, slot := 3, constantValue := 0 }, { name := "RADIANS_TO_DEGREES", type := .double, accessFlags := 26, slot := 4, constantValue := 0 }, { name := "negativeZeroFloatBits", type := .long, accessFlags := 26, slot := 5, constantValue := 0 }, { name := "negativeZeroDoubleBits", type := .long, accessFlags := 26, slot := 6, constantValue := 0 }, { name := "twoToTheDoubleScaleUp", type := .double, accessFlags := 8, slot := 7, constantValue := 0 }, { name := "twoToTheDoubleScaleDown", type := .double, accessFlags := 8, slot := 8, constantValue := 0 }, { name := "$assertionsDisabled", type := .boolean, accessFlags := 4120, slot := 9, constantValue := 0 }]
  methods := #[k16m0, k16m1]
  instanceTypes := #[]
  staticTypes := #[.double, .double, .double, .double, .double, .long, .long, .double, .double, .boolean]
  resolved := Array.replicate 460 none
  statics := none }

def pool17 : Array CpInfo := pool [(2, .class_ 4), (1, u "java/lang/Object"), (0, u "<init>"), (0, u "()V"), (14, .class_ 23), (1, u "java/nio/charset/StandardCharsets"), (0, u "US_ASCII"), (0, u "Ljava/nio/charset/Charset;"), (7, u "ISO_8859_1"), (7, u "UTF_8"), (5, u "UTF_16BE"), (5, u "UTF_16LE"), (5, u "UTF_16")] 8

def k17m0 : Method := { name := "<init>", desc := "()V", sig := { parameters := [], returnType := none }, accessFlags := 2, code := none }
/-- java/nio/charset/StandardCharsets -/
def k17 : Class := { plain "java/nio/charset/StandardCharsets" (some 0) with
  accessFlags := 49
  interfaces := #[]
  cf := some (fileOf pool17 21 #[] #[{ accessFlags := 2, nameIndex := 5, descriptorIndex := 6, attributes := #[] }] 49 2 #[] #[{ accessFlags := 25, nameIndex := 24, descriptorIndex := 25, attributes := #[] }, { accessFlags := 25, nameIndex := 33, descriptorIndex := 25, attributes := #[] }, { accessFlags := 25, nameIndex := 41, descriptorIndex := 25, attributes := #[] }, { accessFlags := 25, nameIndex := 47, descriptorIndex := 25, attributes := #[] }, { accessFlags := 25, nameIndex := 53, descriptorIndex := 25, attributes := #[] }, { accessFlags := 25, nameIndex := 59, descriptorIndex := 25, attributes := #[] }])
  fields := #[{ name := "US_ASCII", type := (.object "java/nio/charset/Charset"), accessFlags := 25, slot := 0, constantValue := 0 }, { name := "ISO_8859_1", type := (.object "java/nio/charset/Charset"), accessFlags := 25, slot := 1, constantValue := 0 }, { name := "UTF_8", type := (.object "java/nio/charset/Charset"), accessFlags := 25, slot := 2, constantValue := 0 }, { name := "UTF_16BE", type := (.object "java/nio/charset/Charset"), accessFlags := 25, slot := 3, constantValue := 0 }, { name := "UTF_16LE", type := (.object "java/nio/charset/Charset"), accessFlags := 25, slot := 4, constantValue := 0 }, { name := "UTF_16", type := (.object "java/nio/charset/Charset"), accessFlags := 25, slot := 5, constantValue := 0 }]
  methods := #[k17m0]
  instanceTypes := #[]
  staticTypes := #[(.object "java/nio/charset/Charset"), (.object "java/nio/charset/Charset"), (.object "java/nio/charset/Charset"), (.object "java/nio/charset/Charset"), (.object "java/nio/charset/Charset"), (.object "java/nio/charset/Charset")]
  resolved := Array.replicate 68 none
  statics := some 2 }

def pool18 : Array CpInfo := pool [(18, .class_ 20), (1, u "java/nio/charset/Charset"), (0, u "cache1"), (0, u "[Ljava/lang/Object;"), (2, u "cache2"), (0, .class_ 27), (0, u "java/lang/Object"), (0, .class_ 29), (0, u "java/nio/charset/Charset$1"), (4, .class_ 36), (1, u "java/nio/charset/Charset$ThreadTrackHolder"), (21, .class_ 59), (0, u "java/nio/charset/Charset$2"), (11, .class_ 73), (1, u "java/nio/charset/Charset$ExtendedProviderHolder"), (22, u "standardProvider"), (0, u "Ljava/nio/charset/spi/CharsetProvider;"), (29, u "name"), (7, .class_ 136), (0, u "java/nio/charset/Charset$3"), (5, u "defaultCharset"), (0, u "Ljava/nio/charset/Charset;"), (14, u "zeroAliases"), (0, u "[Ljava/lang/String;"), (29, u "Ljava/lang/String;"), (2, u "aliases"), (2, u "aliasSet"), (0, u "Ljava/util/Set;"), (82, .class_ 280), (0, u "java/lang/Comparable"), (84, .class_ 366), (0, u "java/nio/charset/Charset$ExtendedProviderHolder$1")] 3

/-- java/nio/charset/Charset -/
def k18 : Class := { plain "java/nio/charset/Charset" (some 0) with
  accessFlags := 1057
  interfaces := #[9]
  cf := some (fileOf pool18 18 #[.nestMembers #[71, 365, 34, 135, 58, 28]] #[] 1057 26 #[279] #[{ accessFlags := 26, nameIndex := 96, descriptorIndex := 97, attributes := #[] }, { accessFlags := 26, nameIndex := 158, descriptorIndex := 159, attributes := #[] }, { accessFlags := 74, nameIndex := 21, descriptorIndex := 22, attributes := #[] }, { accessFlags := 74, nameIndex := 25, descriptorIndex := 22, attributes := #[] }, { accessFlags := 10, nameIndex := 142, descriptorIndex := 143, attributes := #[] }, { accessFlags := 18, nameIndex := 127, descriptorIndex := 189, attributes := #[] }, { accessFlags := 18, nameIndex := 192, descriptorIndex := 159, attributes := #[] }, { accessFlags := 2, nameIndex := 195, descriptorIndex := 196, attributes := #[] }])
  fields := #[{ name := "standardProvider", type := (.object "java/nio/charset/spi/CharsetProvider"), accessFlags := 26, slot := 0, constantValue := 0 }, { name := "zeroAliases", type := (.array (.object "java/lang/String")), accessFlags := 26, slot := 1, constantValue := 0 }, { name := "cache1", type := (.array (.object "java/lang/Object")), accessFlags := 74, slot := 2, constantValue := 0 }, { name := "cache2", type := (.array (.object "java/lang/Object")), accessFlags := 74, slot := 3, constantValue := 0 }, { name := "defaultCharset", type := (.object "java/nio/charset/Charset"), accessFlags := 10, slot := 4, constantValue := 0 }, { name := "name", type := (.object "java/lang/String"), accessFlags := 18, slot := 0, constantValue := 0 }, { name := "aliases", type := (.array (.object "java/lang/String")), accessFlags := 18, slot := 1, constantValue := 0 }, { name := "aliasSet", type := (.object "java/util/Set"), accessFlags := 2, slot := 2, constantValue := 0 }]
  methods := #[]
  instanceTypes := #[(.object "java/lang/String"), (.array (.object "java/lang/String")), (.object "java/util/Set")]
  staticTypes := #[(.object "java/nio/charset/spi/CharsetProvider"), (.array (.object "java/lang/String")), (.array (.object "java/lang/Object")), (.array (.object "java/lang/Object")), (.object "java/nio/charset/Charset")]
  resolved := Array.replicate 370 none
  statics := none }

def pool19 : Array CpInfo := pool [(1, .class_ 2), (0, u "sun/nio/cs/HistoricallyNamedCharset"), (0, .class_ 4), (0, u "java/lang/Object")] 4

/-- sun/nio/cs/HistoricallyNamedCharset -/
def k19 : Class := { plain "sun/nio/cs/HistoricallyNamedCharset" (some 0) with
  accessFlags := 1537
  interfaces := #[]
  cf := some (fileOf pool19 1 #[] #[] 1537 3 #[] #[])
  fields := #[]
  methods := #[]
  instanceTypes := #[]
  staticTypes := #[]
  resolved := Array.replicate 9 none
  statics := none }

def pool20 : Array CpInfo := pool [(2, .class_ 4), (1, u "java/nio/charset/Charset"), (130, .class_ 136), (0, u "sun/nio/cs/Unicode"), (0, .class_ 138), (0, u "sun/nio/cs/HistoricallyNamedCharset")] 15

/-- sun/nio/cs/Unicode -/
def k20 : Class := { plain "sun/nio/cs/Unicode" (some 18) with
  accessFlags := 1056
  interfaces := #[19]
  cf := some (fileOf pool20 135 #[] #[] 1056 2 #[137] #[])
  fields := #[]
  methods := #[]
  instanceTypes := #[(.object "java/lang/String"), (.array (.object "java/lang/String")), (.object "java/util/Set")]
  staticTypes := #[]
  resolved := Array.replicate 154 none
  statics := none }

def pool21 : Array CpInfo := pool [(10, .class_ 12), (1, u "sun/nio/cs/Unicode"), (0, u "<init>"), (3, .class_ 18), (0, u "sun/nio/cs/UTF_8$Decoder"), (3, .class_ 23), (0, u "sun/nio/cs/UTF_8$Encoder"), (15, .class_ 40), (0, u "sun/nio/cs/UTF_8"), (2, u "()V"), (2, u "INSTANCE"), (0, u "Lsun/nio/cs/UTF_8;"), (8, u "JLA"), (0, u "Ljdk/internal/access/JavaLangAccess;")] 26

def k21m0 : Method := { name := "<init>", desc := "()V", sig := { parameters := [], returnType := none }, accessFlags := 1, code := none }
/-- sun/nio/cs/UTF_8 -/
def k21 : Class := { plain "sun/nio/cs/UTF_8" (some 20) with
  accessFlags := 49
  interfaces := #[]
  cf := some (fileOf pool21 39 #[.nestMembers #[22, 17]] #[{ accessFlags := 1, nameIndex := 13, descriptorIndex := 43, attributes := #[] }] 49 10 #[] #[{ accessFlags := 25, nameIndex := 46, descriptorIndex := 47, attributes := #[] }, { accessFlags := 26, nameIndex := 56, descriptorIndex := 57, attributes := #[] }])
  fields := #[{ name := "INSTANCE", type := (.object "sun/nio/cs/UTF_8"), accessFlags := 25, slot := 0, constantValue := 0 }, { name := "JLA", type := (.object "jdk/internal/access/JavaLangAccess"), accessFlags := 26, slot := 1, constantValue := 0 }]
  methods := #[k21m0]
  instanceTypes := #[(.object "java/lang/String"), (.array (.object "java/lang/String")), (.object "java/util/Set")]
  staticTypes := #[(.object "sun/nio/cs/UTF_8"), (.object "jdk/internal/access/JavaLangAccess")]
  resolved := Array.replicate 84 none
  statics := some 3 }

def pool22 : Array CpInfo := pool [(2, .class_ 4), (1, u "java/lang/Object"), (0, u "<init>"), (0, u "()V"), (0, .methodref 8 9), (0, .class_ 10), (0, .nameAndType 11 12), (0, u "java/lang/StringCoding"), (0, u "countPositives"), (0, u "([BII)I"), (11, u "hasNegatives"), (0, u "([BII)Z")] 23

def k22m0 : Method := { name := "<init>", desc := "()V", sig := { parameters := [], returnType := none }, accessFlags := 2, code := none }
def k22c1 : Code := { maxStack := 3, maxLocals := 3, code := jdk_123_method_2_code, exceptionTable := #[], attributes := #[] }
def k22m1 : Method := { name := "hasNegatives", desc := "([BII)Z", sig := { parameters := [(.array .byte), .int, .int], returnType := some .boolean }, accessFlags := 9, code := some k22c1 }
def k22c2 : Code := { maxStack := 2, maxLocals := 5, code := jdk_123_method_3_code, exceptionTable := #[], attributes := #[] }
def k22m2 : Method := { name := "countPositives", desc := "([BII)I", sig := { parameters := [(.array .byte), .int, .int], returnType := some .int }, accessFlags := 9, code := some k22c2 }
/-- java/lang/StringCoding -/
def k22 : Class := { plain "java/lang/StringCoding" (some 0) with
  accessFlags := 32
  interfaces := #[]
  cf := some (fileOf pool22 8 #[] #[{ accessFlags := 2, nameIndex := 5, descriptorIndex := 6, attributes := #[] }, { accessFlags := 9, nameIndex := 24, descriptorIndex := 25, attributes := #[] }, { accessFlags := 9, nameIndex := 11, descriptorIndex := 12, attributes := #[] }] 32 2 #[] #[])
  fields := #[]
  methods := #[k22m0, k22m1, k22m2]
  instanceTypes := #[]
  staticTypes := #[]
  resolved := Array.replicate 49 none
  statics := none }

def pool23 : Array CpInfo := pool [(1, .class_ 2), (0, u "java/lang/Cloneable"), (0, .class_ 4), (0, u "java/lang/Object")] 2

/-- java/lang/Cloneable -/
def k23 : Class := { plain "java/lang/Cloneable" (some 0) with
  accessFlags := 1537
  interfaces := #[]
  cf := some (fileOf pool23 1 #[] #[] 1537 3 #[] #[])
  fields := #[]
  methods := #[]
  instanceTypes := #[]
  staticTypes := #[]
  resolved := Array.replicate 7 none
  statics := none }

def pool24 : Array CpInfo := pool [(3, .class_ 4), (0, u "java/lang/String"), (1, .class_ 8), (1, u "java/lang/Object"), (0, u "<init>"), (0, u "()V"), (0, .methodref 12 13), (0, .class_ 14), (0, .nameAndType 15 16), (0, u "java/lang/StringUTF16"), (0, u "newBytesLength"), (0, u "(I)I"), (3, .integer 1073741823), (23, .fieldref 12 45), (0, .nameAndType 46 47), (0, u "$assertionsDisabled"), (0, u "Z"), (0, .methodref 12 49), (0, .nameAndType 50 51), (0, u "length"), (0, u "([B)I"), (7, .fieldref 12 60), (0, .nameAndType 61 62), (0, u "HI_BYTE_SHIFT"), (0, u "I"), (0, .fieldref 12 64), (0, .nameAndType 65 62), (0, u "LO_BYTE_SHIFT"), (5, .methodref 12 72), (0, .nameAndType 73 74), (0, u "getChar"), (0, u "([BI)C"), (24, u "(II[B)V"), (7, .methodref 12 108), (0, .nameAndType 109 110), (0, u "newBytesFor"), (0, u "(I)[B"), (0, .methodref 12 112), (0, .nameAndType 113 114), (0, u "putChar"), (0, u "([BII)V"), (0, .methodref 12 116), (0, .nameAndType 117 118), (0, u "compress"), (0, u "([CI[BII)I"), (0, .methodref 12 120), (0, .nameAndType 121 122), (0, u "toBytes"), (0, u "([CII)[B"), (17, u "inflate"), (0, u "([BI[BII)V"), (31, .methodref 12 174), (0, .nameAndType 175 99), (0, u "checkBoundsOffCount"), (85, u "coderFromArrayLen"), (0, u "([BI)B"), (18, u "(III)I"), (87, .class_ 371), (1, u "java/lang/StringUTF16$LinesSpliterator"), (47, .methodref 3 420), (0, .nameAndType 175 281), (9, u "MAX_LENGTH"), (196, .class_ 628), (0, u "java/lang/StringUTF16$CodePointsSpliterator"), (0, .class_ 630), (0, u "java/lang/StringUTF16$CharsSpliterator")] 4

def k24m0 : Method := { name := "<init>", desc := "()V", sig := { parameters := [], returnType := none }, accessFlags := 0, code := none }
def k24c1 : Code := { maxStack := 1, maxLocals := 1, code := jdk_52_method_2_code, exceptionTable := #[], attributes := #[] }
def k24m1 : Method := { name := "newBytesFor", desc := "(I)[B", sig := { parameters := [.int], returnType := some (.array .byte) }, accessFlags := 9, code := some k24c1 }
def k24c2 : Code := { maxStack := 4, maxLocals := 1, code := jdk_52_method_3_code, exceptionTable := #[], attributes := #[] }
def k24m2 : Method := { name := "newBytesLength", desc := "(I)I", sig := { parameters := [.int], returnType := some .int }, accessFlags := 9, code := some k24c2 }
def k24c3 : Code := { maxStack := 4, maxLocals := 3, code := jdk_52_method_4_code, exceptionTable := #[], attributes := #[] }
def k24m3 : Method := { name := "putChar", desc := "([BII)V", sig := { parameters := [(.array .byte), .int, .int], returnType := none }, accessFlags := 8, code := some k24c3 }
def k24c4 : Code := { maxStack := 3, maxLocals := 2, code := jdk_52_method_5_code, exceptionTable := #[], attributes := #[] }
def k24m4 : Method := { name := "getChar", desc := "([BI)C", sig := { parameters := [(.array .byte), .int], returnType := some .char }, accessFlags := 8, code := some k24c4 }
def k24c5 : Code := { maxStack := 2, maxLocals := 1, code := jdk_52_method_6_code, exceptionTable := #[], attributes := #[] }
def k24m5 : Method := { name := "length", desc := "([B)I", sig := { parameters := [(.array .byte)], returnType := some .int }, accessFlags := 9, code := some k24c5 }
def k24c6 : Code := { maxStack := 4, maxLocals := 5, code := jdk_52_method_14_code, exceptionTable := #[], attributes := #[] }
def k24m6 : Method := { name := "toBytes", desc := "([CII)[B", sig := { parameters := [(.array .char), .int, .int], returnType := some (.array .byte) }, accessFlags := 9, code := some k24c6 }
def k24c7 : Code := { maxStack := 2, maxLocals := 2, code := jdk_52_method_15_code, exceptionTable := #[], attributes := #[] }
def k24m7 : Method := { name := "coderFromArrayLen", desc := "([BI)B", sig := { parameters := [(.array .byte), .int], returnType := some .byte }, accessFlags := 8, code := some k24c7 }
def k24c8 : Code := { maxStack := 5, maxLocals := 6, code := jdk_52_method_16_code, exceptionTable := #[], attributes := #[] }
def k24m8 : Method := { name := "compress", desc := "([CII)[B", sig := { parameters := [(.array .char), .int, .int], returnType := some (.array .byte) }, accessFlags := 9, code := some k24c8 }
def k24c9 : Code := { maxStack := 3, maxLocals := 7, code := jdk_52_method_21_code, exceptionTable := #[], attributes := #[] }
def k24m9 : Method := { name := "compress", desc := "([CI[BII)I", sig := { parameters := [(.array .char), .int, (.array .byte), .int, .int], returnType := some .int }, accessFlags := 9, code := some k24c9 }
def k24c10 : Code := { maxStack := 4, maxLocals := 6, code := jdk_52_method_86_code, exceptionTable := #[], attributes := #[] }
def k24m10 : Method := { name := "inflate", desc := "([BI[BII)V", sig := { parameters := [(.array .byte), .int, (.array .byte), .int, .int], returnType := none }, accessFlags := 9, code := some k24c10 }
def k24c11 : Code := { maxStack := 3, maxLocals := 3, code := jdk_52_method_94_code, exceptionTable := #[], attributes := #[] }
def k24m11 : Method := { name := "checkBoundsOffCount", desc := "(II[B)V", sig := { parameters := [.int, .int, (.array .byte)], returnType := none }, accessFlags := 9, code := some k24c11 }
/-- java/lang/StringUTF16 -/
def k24 : Class := { plain "java/lang/StringUTF16" (some 0) with
  accessFlags := 48
  interfaces := #[]
  cf := some (fileOf pool24 12 #[.nestMembers #[627, 629, 369]] #[{ accessFlags := 0, nameIndex := 9, descriptorIndex := 10, attributes := #[] }, { accessFlags := 9, nameIndex := 109, descriptorIndex := 110, attributes := #[] }, { accessFlags := 9, nameIndex := 15, descriptorIndex := 16, attributes := #[] }, { accessFlags := 8, nameIndex := 113, descriptorIndex := 114, attributes := #[] }, { accessFlags := 8, nameIndex := 73, descriptorIndex := 74, attributes := #[] }, { accessFlags := 9, nameIndex := 50, descriptorIndex := 51, attributes := #[] }, { accessFlags := 9, nameIndex := 121, descriptorIndex := 122, attributes := #[] }, { accessFlags := 8, nameIndex := 261, descriptorIndex := 262, attributes := #[] }, { accessFlags := 9, nameIndex := 117, descriptorIndex := 122, attributes := #[] }, { accessFlags := 9, nameIndex := 117, descriptorIndex := 118, attributes := #[] }, { accessFlags := 9, nameIndex := 140, descriptorIndex := 141, attributes := #[] }, { accessFlags := 9, nameIndex := 175, descriptorIndex := 99, attributes := #[] }] 48 6 #[] #[{ accessFlags := 26, nameIndex := 61, descriptorIndex := 62, attributes := #[] }, { accessFlags := 26, nameIndex := 65, descriptorIndex := 62, attributes := #[] }, { accessFlags := 24, nameIndex := 430, descriptorIndex := 62, attributes := #[] }, { accessFlags := 4120, nameIndex := 46, descriptorIndex := 47, attributes := #[] }])
  fields := #[{ name := "HI_BYTE_SHIFT", type := .int, accessFlags := 26, slot := 0, constantValue := 0 }, { name := "LO_BYTE_SHIFT", type := .int, accessFlags := 26, slot := 1, constantValue := 0 }, { name := "MAX_LENGTH", type := .int, accessFlags := 24, slot := 2, constantValue := 0 }, { name := "$assertionsDisabled", type := .boolean, accessFlags := 4120, slot := 3, constantValue := 0 }]
  methods := #[k24m0, k24m1, k24m2, k24m3, k24m4, k24m5, k24m6, k24m7, k24m8, k24m9, k24m10, k24m11]
  instanceTypes := #[]
  staticTypes := #[.int, .int, .int, .boolean]
  resolved := Array.replicate 635 none
  statics := some 4 }

def pool25 : Array CpInfo := pool [(4, .class_ 6), (1, u "java/lang/Object"), (0, u "<init>"), (0, u "()V"), (5, .class_ 16), (1, u "java/lang/StringLatin1"), (0, u "inflate"), (2, .class_ 22), (1, u "java/lang/StringUTF16"), (3, .nameAndType 17 27), (0, u "([BI[BII)V"), (93, u "$assertionsDisabled"), (0, u "Z"), (98, .class_ 223), (1, u "java/lang/StringLatin1$LinesSpliterator"), (16, .methodref 20 26), (149, .class_ 391), (0, u "java/lang/StringLatin1$CharsSpliterator")] 3

def k25m0 : Method := { name := "<init>", desc := "()V", sig := { parameters := [], returnType := none }, accessFlags := 0, code := none }
def k25c1 : Code := { maxStack := 5, maxLocals := 5, code := jdk_43_method_50_code, exceptionTable := #[], attributes := #[] }
def k25m1 : Method := { name := "inflate", desc := "([BI[BII)V", sig := { parameters := [(.array .byte), .int, (.array .byte), .int, .int], returnType := none }, accessFlags := 9, code := some k25c1 }
/-- java/lang/StringLatin1 -/
def k25 : Class := { plain "java/lang/StringLatin1" (some 0) with
  accessFlags := 48
  interfaces := #[]
  cf := some (fileOf pool25 14 #[.nestMembers #[390, 221]] #[{ accessFlags := 0, nameIndex := 7, descriptorIndex := 8, attributes := #[] }, { accessFlags := 9, nameIndex := 17, descriptorIndex := 27, attributes := #[] }] 48 4 #[] #[{ accessFlags := 4120, nameIndex := 121, descriptorIndex := 122, attributes := #[] }])
  fields := #[{ name := "$assertionsDisabled", type := .boolean, accessFlags := 4120, slot := 0, constantValue := 0 }]
  methods := #[k25m0, k25m1]
  instanceTypes := #[]
  staticTypes := #[.boolean]
  resolved := Array.replicate 395 none
  statics := none }

def pool26 : Array CpInfo := pool [(2, .class_ 4), (1, u "java/lang/Object"), (0, u "<init>"), (0, u "()V"), (17, .class_ 26), (1, u "jdk/internal/util/Preconditions"), (22, u "checkFromIndexSize"), (5, .class_ 56), (0, u "jdk/internal/util/Preconditions$4"), (57, .class_ 115), (0, u "jdk/internal/util/Preconditions$1"), (7, u "SIOOBE_FORMATTER"), (0, u "Ljava/util/function/BiFunction;"), (0, .class_ 126), (0, u "jdk/internal/util/Preconditions$2"), (3, u "AIOOBE_FORMATTER"), (0, .class_ 132), (0, u "jdk/internal/util/Preconditions$3"), (3, u "IOOBE_FORMATTER"), (46, u "(IIILjava/util/function/BiFunction;)I")] 10

def k26m0 : Method := { name := "<init>", desc := "()V", sig := { parameters := [], returnType := none }, accessFlags := 1, code := none }
def k26c1 : Code := { maxStack := 4, maxLocals := 4, code := jdk_41_method_13_code, exceptionTable := #[], attributes := #[] }
def k26m1 : Method := { name := "checkFromIndexSize", desc := "(IIILjava/util/function/BiFunction;)I", sig := { parameters := [.int, .int, .int, (.object "java/util/function/BiFunction")], returnType := some .int }, accessFlags := 9, code := some k26c1 }
/-- jdk/internal/util/Preconditions -/
def k26 : Class := { plain "jdk/internal/util/Preconditions" (some 0) with
  accessFlags := 33
  interfaces := #[]
  cf := some (fileOf pool26 24 #[.nestMembers #[55, 131, 125, 114]] #[{ accessFlags := 1, nameIndex := 5, descriptorIndex := 6, attributes := #[] }, { accessFlags := 9, nameIndex := 49, descriptorIndex := 183, attributes := #[] }] 33 2 #[] #[{ accessFlags := 25, nameIndex := 123, descriptorIndex := 124, attributes := #[] }, { accessFlags := 25, nameIndex := 130, descriptorIndex := 124, attributes := #[] }, { accessFlags := 25, nameIndex := 136, descriptorIndex := 124, attributes := #[] }])
  fields := #[{ name := "SIOOBE_FORMATTER", type := (.object "java/util/function/BiFunction"), accessFlags := 25, slot := 0, constantValue := 0 }, { name := "AIOOBE_FORMATTER", type := (.object "java/util/function/BiFunction"), accessFlags := 25, slot := 1, constantValue := 0 }, { name := "IOOBE_FORMATTER", type := (.object "java/util/function/BiFunction"), accessFlags := 25, slot := 2, constantValue := 0 }]
  methods := #[k26m0, k26m1]
  instanceTypes := #[]
  staticTypes := #[(.object "java/util/function/BiFunction"), (.object "java/util/function/BiFunction"), (.object "java/util/function/BiFunction")]
  resolved := Array.replicate 194 none
  statics := some 5 }

def pool27 : Array CpInfo := pool [(1, .class_ 2), (0, u "java/lang/Character"), (18, u "value"), (0, u "C"), (19, .class_ 44), (1, u "java/lang/Object"), (3, .class_ 50), (1, u "java/lang/Character$CharacterCache"), (24, .integer 55296), (1, .integer 57344), (3, u "(C)Z"), (202, u "$assertionsDisabled"), (0, u "Z"), (21, .class_ 309), (1, u "java/lang/Character$UnicodeBlock"), (73, u "TYPE"), (0, u "Ljava/lang/Class;"), (0, .class_ 386), (0, u "java/io/Serializable"), (0, .class_ 388), (0, u "java/lang/Comparable"), (0, .class_ 390), (0, u "java/lang/constant/Constable"), (0, u "MIN_RADIX"), (0, u "I"), (2, u "MAX_RADIX"), (1, u "MIN_VALUE"), (1, u "MAX_VALUE"), (3, u "UNASSIGNED"), (0, u "B"), (0, u "UPPERCASE_LETTER"), (1, u "LOWERCASE_LETTER"), (0, u "TITLECASE_LETTER"), (1, u "MODIFIER_LETTER"), (1, u "OTHER_LETTER"), (1, u "NON_SPACING_MARK"), (1, u "ENCLOSING_MARK"), (1, u "COMBINING_SPACING_MARK"), (1, u "DECIMAL_DIGIT_NUMBER"), (1, u "LETTER_NUMBER"), (1, u "OTHER_NUMBER"), (1, u "SPACE_SEPARATOR"), (1, u "LINE_SEPARATOR"), (1, u "PARAGRAPH_SEPARATOR"), (1, u "CONTROL"), (1, u "FORMAT"), (1, u "PRIVATE_USE"), (1, u "SURROGATE"), (1, u "DASH_PUNCTUATION"), (1, u "START_PUNCTUATION"), (1, u "END_PUNCTUATION"), (1, u "CONNECTOR_PUNCTUATION"), (1, u "OTHER_PUNCTUATION"), (1, u "MATH_SYMBOL"), (1, u "CURRENCY_SYMBOL"), (1, u "MODIFIER_SYMBOL"), (1, u "OTHER_SYMBOL"), (1, u "INITIAL_QUOTE_PUNCTUATION"), (1, u "FINAL_QUOTE_PUNCTUATION"), (1, u "ERROR"), (1, u "DIRECTIONALITY_UNDEFINED"), (0, u "DIRECTIONALITY_LEFT_TO_RIGHT"), (0, u "DIRECTIONALITY_RIGHT_TO_LEFT"), (0, u "DIRECTIONALITY_RIGHT_TO_LEFT_ARABIC"), (0, u "DIRECTIONALITY_EUROPEAN_NUMBER"), (0, u "DIRECTIONALITY_EUROPEAN_NUMBER_SEPARATOR"), (0, u "DIRECTIONALITY_EUROPEAN_NUMBER_TERMINATOR"), (0, u "DIRECTIONALITY_ARABIC_NUMBER"), (0, u "DIRECTIONALITY_COMMON_NUMBER_SEPARATOR"), (0, u "DIRECTIONALITY_NONSPACING_MARK"), (0, u "DIRECTIONALITY_BOUNDARY_NEUTRAL"), (0, u "DIRECTIONALITY_PARAGRAPH_SEPARATOR"), (0, u "DIRECTIONALITY_SEGMENT_SEPARATOR"), (0, u "DIRECTIONALITY_WHITESPACE"), (0, u "DIRECTIONALITY_OTHER_NEUTRALS"), (0, u "DIRECTIONALITY_LEFT_TO_RIGHT_EMBEDDING"), (0, u "DIRECTIONALITY_LEFT_TO_RIGHT_OVERRIDE"), (0, u "DIRECTIONALITY_RIGHT_TO_LEFT_EMBEDDING"), (0, u "DIRECTIONALITY_RIGHT_TO_LEFT_OVERRIDE"), (1, u "DIRECTIONALITY_POP_DIRECTIONAL_FORMAT"), (0, u "DIRECTIONALITY_LEFT_TO_RIGHT_ISOLATE"), (0, u "DIRECTIONALITY_RIGHT_TO_LEFT_ISOLATE"), (0, u "DIRECTIONALITY_FIRST_STRONG_ISOLATE"), (0, u "DIRECTIONALITY_POP_DIRECTIONAL_ISOLATE"), (0, u "MIN_HIGH_SURROGATE"), (0, u "MAX_HIGH_SURROGATE"), (1, u "MIN_LOW_SURROGATE"), (0, u "MAX_LOW_SURROGATE"), (1, u "MIN_SURROGATE"), (0, u "MAX_SURROGATE"), (0, u "MIN_SUPPLEMENTARY_CODE_POINT"), (0, u "MIN_CODE_POINT"), (0, u "MAX_CODE_POINT"), (1, u "serialVersionUID"), (0, u "J"), (2, u "SIZE"), (0, u "BYTES"), (24, u "isSurrogate"), (63, .class_ 596), (0, u "java/lang/Character$UnicodeScript"), (0, .class_ 598), (0, u "java/lang/Character$Subset")] 5

def k27c0 : Code := { maxStack := 2, maxLocals := 1, code := jdk_89_method_16_code, exceptionTable := #[], attributes := #[] }
def k27m0 : Method := { name := "isSurrogate", desc := "(C)Z", sig := { parameters := [.char], returnType := some .boolean }, accessFlags := 9, code := some k27c0 }
/-- java/lang/Character -/
def k27 : Class := { plain "java/lang/Character" (some 0) with
  accessFlags := 49
  interfaces := #[2, 9, 11]
  cf := some (fileOf pool27 1 #[.nestMembers #[48, 595, 307, 597]] #[{ accessFlags := 9, nameIndex := 531, descriptorIndex := 81, attributes := #[] }] 49 42 #[385, 387, 389] #[{ accessFlags := 25, nameIndex := 391, descriptorIndex := 392, attributes := #[] }, { accessFlags := 25, nameIndex := 395, descriptorIndex := 392, attributes := #[] }, { accessFlags := 25, nameIndex := 397, descriptorIndex := 22, attributes := #[] }, { accessFlags := 25, nameIndex := 399, descriptorIndex := 22, attributes := #[] }, { accessFlags := 25, nameIndex := 383, descriptorIndex := 384, attributes := #[] }, { accessFlags := 25, nameIndex := 403, descriptorIndex := 404, attributes := #[] }, { accessFlags := 25, nameIndex := 405, descriptorIndex := 404, attributes := #[] }, { accessFlags := 25, nameIndex := 407, descriptorIndex := 404, attributes := #[] }, { accessFlags := 25, nameIndex := 408, descriptorIndex := 404, attributes := #[] }, { accessFlags := 25, nameIndex := 410, descriptorIndex := 404, attributes := #[] }, { accessFlags := 25, nameIndex := 412, descriptorIndex := 404, attributes := #[] }, { accessFlags := 25, nameIndex := 414, descriptorIndex := 404, attributes := #[] }, { accessFlags := 25, nameIndex := 416, descriptorIndex := 404, attributes := #[] }, { accessFlags := 25, nameIndex := 418, descriptorIndex := 404, attributes := #[] }, { accessFlags := 25, nameIndex := 420, descriptorIndex := 404, attributes := #[] }, { accessFlags := 25, nameIndex := 422, descriptorIndex := 404, attributes := #[] }, { accessFlags := 25, nameIndex := 424, descriptorIndex := 404, attributes := #[] }, { accessFlags := 25, nameIndex := 426, descriptorIndex := 404, attributes := #[] }, { accessFlags := 25, nameIndex := 428, descriptorIndex := 404, attributes := #[] }, { accessFlags := 25, nameIndex := 430, descriptorIndex := 404, attributes := #[] }, { accessFlags := 25, nameIndex := 432, descriptorIndex := 404, attributes := #[] }, { accessFlags := 25, nameIndex := 434, descriptorIndex := 404, attributes := #[] }, { accessFlags := 25, nameIndex := 436, descriptorIndex := 404, attributes := #[] }, { accessFlags := 25, nameIndex := 438, descriptorIndex := 404, attributes := #[] }, { accessFlags := 25, nameIndex := 440, descriptorIndex := 404, attributes := #[] }, { accessFlags := 25, nameIndex := 442, descriptorIndex := 404, attributes := #[] }, { accessFlags := 25, nameIndex := 444, descriptorIndex := 404, attributes := #[] }, { accessFlags := 25, nameIndex := 446, descriptorIndex := 404, attributes := #[] }, { accessFlags := 25, nameIndex := 448, descriptorIndex := 404, attributes := #[] }, { accessFlags := 25, nameIndex := 450, descriptorIndex := 404, attributes := #[] }, { accessFlags := 25, nameIndex := 452, descriptorIndex := 404, attributes := #[] }, { accessFlags := 25, nameIndex := 454, descriptorIndex := 404, attributes := #[] }, { accessFlags := 25, nameIndex := 456, descriptorIndex := 404, attributes := #[] }, { accessFlags := 25, nameIndex := 458, descriptorIndex := 404, attributes := #[] }, { accessFlags := 25, nameIndex := 460, descriptorIndex := 404, attributes := #[] }, { accessFlags := 24, nameIndex := 462, descriptorIndex := 392, attributes := #[] }, { accessFlags := 25, nameIndex := 464, descriptorIndex := 404, attributes := #[] }, { accessFlags := 25, nameIndex := 465, descriptorIndex := 404, attributes := #[] }, { accessFlags := 25, nameIndex := 466, descriptorIndex := 404, attributes := #[] }, { accessFlags := 25, nameIndex := 467, descriptorIndex := 404, attributes := #[] }, { accessFlags := 25, nameIndex := 468, descriptorIndex := 404, attributes := #[] }, { accessFlags := 25, nameIndex := 469, descriptorIndex := 404, attributes := #[] }, { accessFlags := 25, nameIndex := 470, descriptorIndex := 404, attributes := #[] }, { accessFlags := 25, nameIndex := 471, descriptorIndex := 404, attributes := #[] }, { accessFlags := 25, nameIndex := 472, descriptorIndex := 404, attributes := #[] }, { accessFlags := 25, nameIndex := 473, descriptorIndex := 404, attributes := #[] }, { accessFlags := 25, nameIndex := 474, descriptorIndex := 404, attributes := #[] }, { accessFlags := 25, nameIndex := 475, descriptorIndex := 404, attributes := #[] }, { accessFlags := 25, nameIndex := 476, descriptorIndex := 404, attributes := #[] }, { accessFlags := 25, nameIndex := 477, descriptorIndex := 404, attributes := #[] }, { accessFlags := 25, nameIndex := 478, descriptorIndex := 404, attributes := #[] }, { accessFlags := 25, nameIndex := 479, descriptorIndex := 404, attributes := #[] }, { accessFlags := 25, nameIndex := 480, descriptorIndex := 404, attributes := #[] }, { accessFlags := 25, nameIndex := 481, descriptorIndex := 404, attributes := #[] }, { accessFlags := 25, nameIndex := 482, descriptorIndex := 404, attributes := #[] }, { accessFlags := 25, nameIndex := 484, descriptorIndex := 404, attributes := #[] }, { accessFlags := 25, nameIndex := 485, descriptorIndex := 404, attributes := #[] }, { accessFlags := 25, nameIndex := 486, descriptorIndex := 404, attributes := #[] }, { accessFlags := 25, nameIndex := 487, descriptorIndex := 404, attributes := #[] }, { accessFlags := 25, nameIndex := 488, descriptorIndex := 404, attributes := #[] }, { accessFlags := 25, nameIndex := 489, descriptorIndex := 22, attributes := #[] }, { accessFlags := 25, nameIndex := 490, descriptorIndex := 22, attributes := #[] }, { accessFlags := 25, nameIndex := 492, descriptorIndex := 22, attributes := #[] }, { accessFlags := 25, nameIndex := 493, descriptorIndex := 22, attributes := #[] }, { accessFlags := 25, nameIndex := 495, descriptorIndex := 22, attributes := #[] }, { accessFlags := 25, nameIndex := 496, descriptorIndex := 22, attributes := #[] }, { accessFlags := 25, nameIndex := 497, descriptorIndex := 392, attributes := #[] }, { accessFlags := 25, nameIndex := 498, descriptorIndex := 392, attributes := #[] }, { accessFlags := 25, nameIndex := 499, descriptorIndex := 392, attributes := #[] }, { accessFlags := 18, nameIndex := 21, descriptorIndex := 22, attributes := #[] }, { accessFlags := 26, nameIndex := 501, descriptorIndex := 502, attributes := #[] }, { accessFlags := 25, nameIndex := 505, descriptorIndex := 392, attributes := #[] }, { accessFlags := 25, nameIndex := 506, descriptorIndex := 392, attributes := #[] }, { accessFlags := 4120, nameIndex := 284, descriptorIndex := 285, attributes := #[] }])
  fields := #[{ name := "MIN_RADIX", type := .int, accessFlags := 25, slot := 0, constantValue := 0 }, { name := "MAX_RADIX", type := .int, accessFlags := 25, slot := 1, constantValue := 0 }, { name := "MIN_VALUE", type := .char, accessFlags := 25, slot := 2, constantValue := 0 }, { name := "MAX_VALUE", type := .char, accessFlags := 25, slot := 3, constantValue := 0 }, { name := "TYPE", type := (.object "java/lang/Class"), accessFlags := 25, slot := 4, constantValue := 0 }, { name := "UNASSIGNED", type := .byte, accessFlags := 25, slot := 5, constantValue := 0 }, { name := "UPPERCASE_LETTER", type := .byte, accessFlags := 25, slot := 6, constantValue := 0 }, { name := "LOWERCASE_LETTER", type := .byte, accessFlags := 25, slot := 7, constantValue := 0 }, { name := "TITLECASE_LETTER", type := .byte, accessFlags := 25, slot := 8, constantValue := 0 }, { name := "MODIFIER_LETTER", type := .byte, accessFlags := 25, slot := 9, constantValue := 0 }, { name := "OTHER_LETTER", type := .byte, accessFlags := 25, slot := 10, constantValue := 0 }, { name := "NON_SPACING_MARK", type := .byte, accessFlags := 25, slot := 11, constantValue := 0 }, { name := "ENCLOSING_MARK", type := .byte, accessFlags := 25, slot := 12, constantValue := 0 }, { name := "COMBINING_SPACING_MARK", type := .byte, accessFlags := 25, slot := 13, constantValue := 0 }, { name := "DECIMAL_DIGIT_NUMBER", type := .byte, accessFlags := 25, slot := 14, constantValue := 0 }, { name := "LETTER_NUMBER", type := .byte, accessFlags := 25, slot := 15, constantValue := 0 }, { name := "OTHER_NUMBER", type := .byte, accessFlags := 25, slot := 16, constantValue := 0 }, { name := "SPACE_SEPARATOR", type := .byte, accessFlags := 25, slot := 17, constantValue := 0 }, { name := "LINE_SEPARATOR", type := .byte, accessFlags := 25, slot := 18, constantValue := 0 }, { name := "PARAGRAPH_SEPARATOR", type := .byte, accessFlags := 25, slot := 19, constantValue := 0 }, { name := "CONTROL", type := .byte, accessFlags := 25, slot := 20, constantValue := 0 }, { name := "FORMAT", type := .byte, accessFlags := 25, slot := 21, constantValue := 0 }, { name := "PRIVATE_USE", type := .byte, accessFlags := 25, slot := 22, constantValue := 0 }, { name := "SURROGATE", type := .byte, accessFlags := 25, slot := 23, constantValue := 0 }, { name := "DASH_PUNCTUATION", type := .byte, accessFlags := 25, slot := 24, constantValue := 0 }, { name := "START_PUNCTUATION", type := .byte, accessFlags := 25, slot := 25, constantValue := 0 }, { name := "END_PUNCTUATION", type := .byte, accessFlags := 25, slot := 26, constantValue := 0 }, { name := "CONNECTOR_PUNCTUATION", type := .byte, accessFlags := 25, slot := 27, constantValue := 0 }, { name := "OTHER_PUNCTUATION", type := .byte, accessFlags := 25, slot := 28, constantValue := 0 }, { name := "MATH_SYMBOL", type := .byte, accessFlags := 25, slot := 29, constantValue := 0 }, { name := "CURRENCY_SYMBOL", type := .byte, accessFlags := 25, slot := 30, constantValue := 0 }, { name := "MODIFIER_SYMBOL", type := .byte, accessFlags := 25, slot := 31, constantValue := 0 }, { name := "OTHER_SYMBOL", type := .byte, accessFlags := 25, slot := 32, constantValue := 0 }, { name := "INITIAL_QUOTE_PUNCTUATION", type := .byte, accessFlags := 25, slot := 33, constantValue := 0 }, { name := "FINAL_QUOTE_PUNCTUATION", type := .byte, accessFlags := 25, slot := 34, constantValue := 0 }, { name := "ERROR", type := .int, accessFlags := 24, slot := 35, constantValue := 0 }, { name := "DIRECTIONALITY_UNDEFINED", type := .byte, accessFlags := 25, slot := 36, constantValue := 0 }, { name := "DIRECTIONALITY_LEFT_TO_RIGHT", type := .byte, accessFlags := 25, slot := 37, constantValue := 0 }, { name := "DIRECTIONALITY_RIGHT_TO_LEFT", type := .byte, accessFlags := 25, slot := 38, constantValue := 0 }, { name := "DIRECTIONALITY_RIGHT_TO_LEFT_ARABIC", type := .byte, accessFlags := 25, slot := 39, constantValue := 0 }, { name := "DIRECTIONALITY_EUROPEAN_NUMBER", type := .byte, accessFlags := 25, slot := 40, constantValue := 0 }, { name := "DIRECTIONALITY_EUROPEAN_NUMBER_SEPARATOR", type := .byte, accessFlags := 25, slot := 41, constantValue := 0 }, { name := "DIRECTIONALITY_EUROPEAN_NUMBER_TERMINATOR", type := .byte, accessFlags := 25, slot := 42, constantValue := 0 }, { name := "DIRECTIONALITY_ARABIC_NUMBER", type := .byte, accessFlags := 25, slot := 43, constantValue := 0 }, { name := "DIRECTIONALITY_COMMON_NUMBER_SEPARATOR", type := .byte, accessFlags := 25, slot := 44, constantValue := 0 }, { name := "DIRECTIONALITY_NONSPACING_MARK", type := .byte, accessFlags := 25, slot := 45, constantValue := 0 }, { name := "DIRECTIONALITY_BOUNDARY_NEUTRAL", type := .byte, accessFlags := 25, slot := 46, constantValue := 0 }, { name := "DIRECTIONALITY_PARAGRAPH_SEPARATOR", type := .byte, accessFlags := 25, slot := 47, constantValue := 0 }, { name := "DIRECTIONALITY_SEGMENT_SEPARATOR", type := .byte, accessFlags := 25, slot := 48, constantValue := 0 }, { name := "DIRECTIONALITY_WHITESPACE", type := .byte, accessFlags := 25, slot := 49, constantValue := 0 }, { name := "DIRECTIONALITY_OTHER_NEUTRALS", type := .byte, accessFlags := 25, slot := 50, constantValue := 0 }, { name := "DIRECTIONALITY_LEFT_TO_RIGHT_EMBEDDING", type := .byte, accessFlags := 25, slot := 51, constantValue := 0 }, { name := "DIRECTIONALITY_LEFT_TO_RIGHT_OVERRIDE", type := .byte, accessFlags := 25, slot := 52, constantValue := 0 }, { name := "DIRECTIONALITY_RIGHT_TO_LEFT_EMBEDDING", type := .byte, accessFlags := 25, slot := 53, constantValue := 0 }, { name := "DIRECTIONALITY_RIGHT_TO_LEFT_OVERRIDE", type := .byte, accessFlags := 25, slot := 54, constantValue := 0 }, { name := "DIRECTIONALITY_POP_DIRECTIONAL_FORMAT", type := .byte, accessFlags := 25, slot := 55, constantValue := 0 }, { name := "DIRECTIONALITY_LEFT_TO_RIGHT_ISOLATE", type := .byte, accessFlags := 25, slot := 56, constantValue := 0 }, { name := "DIRECTIONALITY_RIGHT_TO_LEFT_ISOLATE", type := .byte, accessFlags := 25, slot := 57, constantValue := 0 }, { name := "DIRECTIONALITY_FIRST_STRONG_ISOLATE", type := .byte, accessFlags := 25, slot := 58, constantValue := 0 }, { name := "DIRECTIONALITY_POP_DIRECTIONAL_ISOLATE", type := .byte, accessFlags := 25, slot := 59, constantValue := 0 }, { name := "MIN_HIGH_SURROGATE", type := .char, accessFlags := 25, slot := 60, constantValue := 0 }, { name := "MAX_HIGH_SURROGATE", type := .char, accessFlags := 25, slot := 61, constantValue := 0 }, { name := "MIN_LOW_SURROGATE", type := .char, accessFlags := 25, slot := 62, constantValue := 0 }, { name := "MAX_LOW_SURROGATE", type := .char, accessFlags := 25, slot := 63, constantValue := 0 }, { name := "MIN_SURROGATE", type := .char, accessFlags := 25, slot := 64, constantValue := 0 }, { name := "MAX_SURROGATE", type := .char, accessFlags := 25, slot := 65, constantValue := 0 }, { name := "MIN_SUPPLEMENTARY_CODE_POINT", type := .int, accessFlags := 25, slot := 66, constantValue := 0 }, { name := "MIN_CODE_POINT", type := .int, accessFlags := 25, slot := 67, constantValue := 0 }, { name := "MAX_CODE_POINT", type := .int, accessFlags := 25, slot := 68, constantValue := 0 }, { name := "value", type := .char, accessFlags := 18, slot := 0, constantValue := 0 }, { name := "serialVersionUID", type := .long, accessFlags := 26, slot := 69, constantValue := 0 }, { name := "SIZE", type := .int, accessFlags := 25, slot := 70, constantValue := 0 }, { name := "BYTES", type := .int, accessFlags := 25, slot := 71, constantValue := 0 }, { name := "$assertionsDisabled", type := .boolean, accessFlags := 4120, slot := 72, constantValue := 0 }]
  methods := #[k27m0]
  instanceTypes := #[.char]
  staticTypes := #[.int, .int, .char, .char, (.object "java/lang/Class"), .byte, .byte, .byte, .byte, .byte, .byte, .byte, .byte, .byte, .byte, .byte, .byte, .byte, .byte, .byte, .byte, .byte, .byte, .byte, .byte, .byte, .byte, .byte, .byte, .byte, .byte, .byte, .byte, .byte, .byte, .int, .byte, .byte, .byte, .byte, .byte, .byte, .byte, .byte, .byte, .byte, .byte, .byte, .byte, .byte, .byte, .byte, .byte, .byte, .byte, .byte, .byte, .byte, .byte, .byte, .char, .char, .char, .char, .char, .char, .int, .int, .int, .long, .int, .int, .boolean]
  resolved := Array.replicate 604 none
  statics := none }

def pool28 : Array CpInfo := pool [(2, .class_ 4), (1, u "java/lang/Object"), (0, u "<init>"), (0, u "()V"), (12, .class_ 20), (0, u "java/util/Collections"), (63, u "r"), (0, u "Ljava/util/Random;"), (80, .class_ 167), (0, u "java/util/Collections$UnmodifiableCollection"), (6, .class_ 175), (0, u "java/util/Collections$UnmodifiableSequencedCollection"), (6, .class_ 183), (0, u "java/util/Collections$UnmodifiableSet"), (6, .class_ 191), (0, u "java/util/Collections$UnmodifiableSequencedSet"), (6, .class_ 199), (0, u "java/util/Collections$UnmodifiableSortedSet"), (6, .class_ 207), (0, u "java/util/Collections$UnmodifiableNavigableSet"), (4, .class_ 213), (0, u "java/util/Collections$UnmodifiableList"), (1, .class_ 216), (0, u "java/util/Collections$UnmodifiableRandomAccessList"), (6, .class_ 224), (0, u "java/util/Collections$UnmodifiableMap"), (6, .class_ 232), (0, u "java/util/Collections$UnmodifiableSequencedMap"), (4, .class_ 238), (0, u "java/util/Collections$UnmodifiableSortedMap"), (6, .class_ 246), (0, u "java/util/Collections$UnmodifiableNavigableMap"), (3, .class_ 251), (0, u "java/util/Collections$SynchronizedCollection"), (4, .class_ 257), (0, u "java/util/Collections$SynchronizedSet"), (4, .class_ 263), (0, u "java/util/Collections$SynchronizedSortedSet"), (1, .class_ 266), (0, u "java/util/Collections$SynchronizedNavigableSet"), (1, .class_ 269), (0, u "java/util/Collections$SynchronizedRandomAccessList"), (1, .class_ 272), (0, u "java/util/Collections$SynchronizedList"), (5, .class_ 279), (0, u "java/util/Collections$SynchronizedMap"), (1, .class_ 282), (0, u "java/util/Collections$SynchronizedSortedMap"), (1, .class_ 285), (0, u "java/util/Collections$SynchronizedNavigableMap"), (1, .class_ 288), (0, u "java/util/Collections$CheckedCollection"), (11, .class_ 301), (0, u "java/util/Collections$CheckedQueue"), (3, .class_ 306), (0, u "java/util/Collections$CheckedSet"), (3, .class_ 311), (0, u "java/util/Collections$CheckedSortedSet"), (3, .class_ 316), (0, u "java/util/Collections$CheckedNavigableSet"), (3, .class_ 321), (0, u "java/util/Collections$CheckedRandomAccessList"), (3, .class_ 326), (0, u "java/util/Collections$CheckedList"), (1, .class_ 329), (0, u "java/util/Collections$CheckedMap"), (3, .class_ 334), (0, u "java/util/Collections$CheckedSortedMap"), (3, .class_ 339), (0, u "java/util/Collections$CheckedNavigableMap"), (4, .class_ 346), (1, u "java/util/Collections$EmptyIterator"), (3, .class_ 352), (1, u "java/util/Collections$EmptyListIterator"), (2, .class_ 357), (1, u "java/util/Collections$EmptyEnumeration"), (4, u "EMPTY_SET"), (0, u "Ljava/util/Set;"), (6, u "EMPTY_LIST"), (0, u "Ljava/util/List;"), (2, u "EMPTY_MAP"), (0, u "Ljava/util/Map;"), (4, .class_ 381), (0, u "java/util/Collections$SingletonSet"), (2, .class_ 385), (0, u "java/util/Collections$1"), (1, .class_ 388), (0, u "java/util/Collections$2"), (1, .class_ 391), (0, u "java/util/Collections$SingletonList"), (1, .class_ 394), (0, u "java/util/Collections$SingletonMap"), (22, .class_ 418), (0, u "java/util/Collections$CopiesList"), (4, .class_ 425), (1, u "java/util/Collections$ReverseComparator"), (8, .class_ 435), (0, u "java/util/Collections$ReverseComparator2"), (6, .class_ 443), (0, u "java/util/Collections$3"), (25, .class_ 470), (0, u "java/util/Collections$SetFromMap"), (2, .class_ 474), (0, u "java/util/Collections$SequencedSetFromMap"), (3, .class_ 479), (0, u "java/util/Collections$AsLIFOQueue"), (11, .class_ 492), (0, u "java/util/Collections$EmptySet"), (1, .class_ 495), (0, u "java/util/Collections$EmptyList"), (1, .class_ 498), (0, u "java/util/Collections$EmptyMap"), (1, u "BINARYSEARCH_THRESHOLD"), (0, u "I"), (2, u "REVERSE_THRESHOLD"), (1, u "SHUFFLE_THRESHOLD"), (1, u "FILL_THRESHOLD"), (1, u "ROTATE_THRESHOLD"), (1, u "COPY_THRESHOLD"), (1, u "REPLACEALL_THRESHOLD"), (1, u "INDEXOFSUBLIST_THRESHOLD"), (333, .class_ 851), (0, u "java/util/Collections$CheckedMap$CheckedEntrySet"), (0, .class_ 853), (0, u "java/util/Collections$CheckedMap$CheckedEntrySet$CheckedEntry"), (0, .class_ 855), (0, u "java/util/Collections$CheckedMap$CheckedEntrySet$1"), (0, .class_ 857), (0, u "java/util/Collections$CheckedList$1"), (0, .class_ 859), (0, u "java/util/Collections$CheckedCollection$1"), (0, .class_ 861), (0, u "java/util/Collections$UnmodifiableNavigableMap$EmptyNavigableMap"), (0, .class_ 863), (0, u "java/util/Collections$UnmodifiableMap$UnmodifiableEntrySet"), (0, .class_ 865), (0, u "java/util/Collections$UnmodifiableMap$UnmodifiableEntrySet$UnmodifiableEntry"), (0, .class_ 867), (0, u "java/util/Collections$UnmodifiableMap$UnmodifiableEntrySet$UnmodifiableEntrySetSpliterator"), (0, .class_ 869), (0, u "java/util/Collections$UnmodifiableMap$UnmodifiableEntrySet$1"), (0, .class_ 871), (0, u "java/util/Collections$UnmodifiableList$1"), (0, .class_ 873), (0, u "java/util/Collections$UnmodifiableNavigableSet$EmptyNavigableSet"), (0, .class_ 875), (0, u "java/util/Collections$UnmodifiableCollection$1")] 57

def k28m0 : Method := { name := "<init>", desc := "()V", sig := { parameters := [], returnType := none }, accessFlags := 2, code := none }
/-- java/util/Collections -/
def k28 : Class := { plain "java/util/Collections" (some 0) with
  accessFlags := 33
  interfaces := #[]
  cf := some (fileOf pool28 19 #[.nestMembers #[478, 473, 469, 434, 423, 417, 393, 390, 380, 497, 494, 491, 355, 350, 344, 338, 333, 328, 850, 852, 854, 320, 325, 856, 315, 310, 305, 300, 287, 858, 284, 281, 278, 268, 271, 265, 262, 256, 250, 245, 860, 237, 231, 223, 862, 864, 866, 868, 215, 212, 870, 206, 872, 198, 190, 182, 174, 166, 874, 442, 387, 384]] #[{ accessFlags := 2, nameIndex := 5, descriptorIndex := 6, attributes := #[] }] 33 2 #[] #[{ accessFlags := 26, nameIndex := 500, descriptorIndex := 501, attributes := #[] }, { accessFlags := 26, nameIndex := 504, descriptorIndex := 501, attributes := #[] }, { accessFlags := 26, nameIndex := 506, descriptorIndex := 501, attributes := #[] }, { accessFlags := 26, nameIndex := 508, descriptorIndex := 501, attributes := #[] }, { accessFlags := 26, nameIndex := 510, descriptorIndex := 501, attributes := #[] }, { accessFlags := 26, nameIndex := 512, descriptorIndex := 501, attributes := #[] }, { accessFlags := 26, nameIndex := 514, descriptorIndex := 501, attributes := #[] }, { accessFlags := 26, nameIndex := 516, descriptorIndex := 501, attributes := #[] }, { accessFlags := 10, nameIndex := 84, descriptorIndex := 85, attributes := #[] }, { accessFlags := 25, nameIndex := 362, descriptorIndex := 363, attributes := #[] }, { accessFlags := 25, nameIndex := 370, descriptorIndex := 371, attributes := #[] }, { accessFlags := 25, nameIndex := 374, descriptorIndex := 375, attributes := #[] }])
  fields := #[{ name := "BINARYSEARCH_THRESHOLD", type := .int, accessFlags := 26, slot := 0, constantValue := 0 }, { name := "REVERSE_THRESHOLD", type := .int, accessFlags := 26, slot := 1, constantValue := 0 }, { name := "SHUFFLE_THRESHOLD", type := .int, accessFlags := 26, slot := 2, constantValue := 0 }, { name := "FILL_THRESHOLD", type := .int, accessFlags := 26, slot := 3, constantValue := 0 }, { name := "ROTATE_THRESHOLD", type := .int, accessFlags := 26, slot := 4, constantValue := 0 }, { name := "COPY_THRESHOLD", type := .int, accessFlags := 26, slot := 5, constantValue := 0 }, { name := "REPLACEALL_THRESHOLD", type := .int, accessFlags := 26, slot := 6, constantValue := 0 }, { name := "INDEXOFSUBLIST_THRESHOLD", type := .int, accessFlags := 26, slot := 7, constantValue := 0 }, { name := "r", type := (.object "java/util/Random"), accessFlags := 10, slot := 8, constantValue := 0 }, { name := "EMPTY_SET", type := (.object "java/util/Set"), accessFlags := 25, slot := 9, constantValue := 0 }, { name := "EMPTY_LIST", type := (.object "java/util/List"), accessFlags := 25, slot := 10, constantValue := 0 }, { name := "EMPTY_MAP", type := (.object "java/util/Map"), accessFlags := 25, slot := 11, constantValue := 0 }]
  methods := #[k28m0]
  instanceTypes := #[]
  staticTypes := #[.int, .int, .int, .int, .int, .int, .int, .int, (.object "java/util/Random"), (.object "java/util/Set"), (.object "java/util/List"), (.object "java/util/Map")]
  resolved := Array.replicate 933 none
  statics := some 6 }

def pool29 : Array CpInfo := pool [(9, u "<init>"), (6, .class_ 18), (1, u "java/lang/Object"), (0, u "()V"), (1, .class_ 23), (1, u "jdk/internal/util/ArraysSupport"), (0, u "LOG2_ARRAY_LONG_INDEX_SCALE"), (0, u "I"), (2, u "U"), (0, u "Ljdk/internal/misc/Unsafe;"), (8, u "BIG_ENDIAN"), (0, u "Z"), (8, u "LOG2_BYTE_BIT_SIZE"), (4, u "LOG2_ARRAY_INT_INDEX_SCALE"), (54, u "JLA"), (0, u "Ljdk/internal/access/JavaLangAccess;"), (11, u "LOG2_ARRAY_BOOLEAN_INDEX_SCALE"), (9, u "LOG2_ARRAY_BYTE_INDEX_SCALE"), (5, u "LOG2_ARRAY_CHAR_INDEX_SCALE"), (5, u "LOG2_ARRAY_SHORT_INDEX_SCALE"), (18, u "LOG2_ARRAY_FLOAT_INDEX_SCALE"), (24, u "LOG2_ARRAY_DOUBLE_INDEX_SCALE"), (89, u "T_BOOLEAN"), (2, u "T_CHAR"), (1, u "T_FLOAT"), (1, u "T_DOUBLE"), (1, u "T_BYTE"), (1, u "T_SHORT"), (1, u "T_INT"), (1, u "T_LONG"), (1, u "SOFT_MAX_ARRAY_LENGTH")] 83

def k29m0 : Method := { name := "<init>", desc := "()V", sig := { parameters := [], returnType := none }, accessFlags := 2, code := none }
/-- jdk/internal/util/ArraysSupport -/
def k29 : Class := { plain "jdk/internal/util/ArraysSupport" (some 0) with
  accessFlags := 33
  interfaces := #[]
  cf := some (fileOf pool29 21 #[] #[{ accessFlags := 2, nameIndex := 9, descriptorIndex := 19, attributes := #[] }] 33 16 #[] #[{ accessFlags := 24, nameIndex := 28, descriptorIndex := 29, attributes := #[] }, { accessFlags := 26, nameIndex := 38, descriptorIndex := 39, attributes := #[] }, { accessFlags := 25, nameIndex := 121, descriptorIndex := 25, attributes := #[] }, { accessFlags := 25, nameIndex := 131, descriptorIndex := 25, attributes := #[] }, { accessFlags := 25, nameIndex := 137, descriptorIndex := 25, attributes := #[] }, { accessFlags := 25, nameIndex := 143, descriptorIndex := 25, attributes := #[] }, { accessFlags := 25, nameIndex := 53, descriptorIndex := 25, attributes := #[] }, { accessFlags := 25, nameIndex := 24, descriptorIndex := 25, attributes := #[] }, { accessFlags := 25, nameIndex := 162, descriptorIndex := 25, attributes := #[] }, { accessFlags := 25, nameIndex := 187, descriptorIndex := 25, attributes := #[] }, { accessFlags := 26, nameIndex := 48, descriptorIndex := 25, attributes := #[] }, { accessFlags := 25, nameIndex := 277, descriptorIndex := 25, attributes := #[] }, { accessFlags := 25, nameIndex := 280, descriptorIndex := 25, attributes := #[] }, { accessFlags := 25, nameIndex := 282, descriptorIndex := 25, attributes := #[] }, { accessFlags := 25, nameIndex := 284, descriptorIndex := 25, attributes := #[] }, { accessFlags := 25, nameIndex := 286, descriptorIndex := 25, attributes := #[] }, { accessFlags := 25, nameIndex := 288, descriptorIndex := 25, attributes := #[] }, { accessFlags := 25, nameIndex := 290, descriptorIndex := 25, attributes := #[] }, { accessFlags := 25, nameIndex := 292, descriptorIndex := 25, attributes := #[] }, { accessFlags := 26, nameIndex := 108, descriptorIndex := 109, attributes := #[] }, { accessFlags := 25, nameIndex := 294, descriptorIndex := 25, attributes := #[] }])
  fields := #[{ name := "U", type := (.object "jdk/internal/misc/Unsafe"), accessFlags := 24, slot := 0, constantValue := 0 }, { name := "BIG_ENDIAN", type := .boolean, accessFlags := 26, slot := 1, constantValue := 0 }, { name := "LOG2_ARRAY_BOOLEAN_INDEX_SCALE", type := .int, accessFlags := 25, slot := 2, constantValue := 0 }, { name := "LOG2_ARRAY_BYTE_INDEX_SCALE", type := .int, accessFlags := 25, slot := 3, constantValue := 0 }, { name := "LOG2_ARRAY_CHAR_INDEX_SCALE", type := .int, accessFlags := 25, slot := 4, constantValue := 0 }, { name := "LOG2_ARRAY_SHORT_INDEX_SCALE", type := .int, accessFlags := 25, slot := 5, constantValue := 0 }, { name := "LOG2_ARRAY_INT_INDEX_SCALE", type := .int, accessFlags := 25, slot := 6, constantValue := 0 }, { name := "LOG2_ARRAY_LONG_INDEX_SCALE", type := .int, accessFlags := 25, slot := 7, constantValue := 0 }, { name := "LOG2_ARRAY_FLOAT_INDEX_SCALE", type := .int, accessFlags := 25, slot := 8, constantValue := 0 }, { name := "LOG2_ARRAY_DOUBLE_INDEX_SCALE", type := .int, accessFlags := 25, slot := 9, constantValue := 0 }, { name := "LOG2_BYTE_BIT_SIZE", type := .int, accessFlags := 26, slot := 10, constantValue := 0 }, { name := "T_BOOLEAN", type := .int, accessFlags := 25, slot := 11, constantValue := 0 }, { name := "T_CHAR", type := .int, accessFlags := 25, slot := 12, constantValue := 0 }, { name := "T_FLOAT", type := .int, accessFlags := 25, slot := 13, constantValue := 0 }, { name := "T_DOUBLE", type := .int, accessFlags := 25, slot := 14, constantValue := 0 }, { name := "T_BYTE", type := .int, accessFlags := 25, slot := 15, constantValue := 0 }, { name := "T_SHORT", type := .int, accessFlags := 25, slot := 16, constantValue := 0 }, { name := "T_INT", type := .int, accessFlags := 25, slot := 17, constantValue := 0 }, { name := "T_LONG", type := .int, accessFlags := 25, slot := 18, constantValue := 0 }, { name := "JLA", type := (.object "jdk/internal/access/JavaLangAccess"), accessFlags := 26, slot := 19, constantValue := 0 }, { name := "SOFT_MAX_ARRAY_LENGTH", type := .int, accessFlags := 25, slot := 20, constantValue := 0 }]
  methods := #[k29m0]
  instanceTypes := #[]
  staticTypes := #[(.object "jdk/internal/misc/Unsafe"), .boolean, .int, .int, .int, .int, .int, .int, .int, .int, .int, .int, .int, .int, .int, .int, .int, .int, .int, (.object "jdk/internal/access/JavaLangAccess"), .int]
  resolved := Array.replicate 378 none
  statics := none }

def pool30 : Array CpInfo := pool [(8, .class_ 10), (1, u "java/lang/Iterable"), (24, .class_ 36), (0, u "java/lang/Object")] 25

/-- java/lang/Iterable -/
def k30 : Class := { plain "java/lang/Iterable" (some 0) with
  accessFlags := 1537
  interfaces := #[]
  cf := some (fileOf pool30 8 #[] #[] 1537 35 #[] #[])
  fields := #[]
  methods := #[]
  instanceTypes := #[]
  staticTypes := #[]
  resolved := Array.replicate 62 none
  statics := none }

def pool31 : Array CpInfo := pool [(10, .class_ 12), (1, u "java/util/Collection"), (47, .class_ 61), (0, u "java/lang/Object"), (0, .class_ 63), (0, u "java/lang/Iterable")] 51

/-- java/util/Collection -/
def k31 : Class := { plain "java/util/Collection" (some 0) with
  accessFlags := 1537
  interfaces := #[30]
  cf := some (fileOf pool31 10 #[] #[] 1537 60 #[62] #[])
  fields := #[]
  methods := #[]
  instanceTypes := #[]
  staticTypes := #[]
  resolved := Array.replicate 115 none
  statics := none }

def pool32 : Array CpInfo := pool [(2, .class_ 4), (1, u "java/lang/Object"), (0, u "<init>"), (0, u "()V"), (1, .class_ 10), (1, u "java/util/AbstractCollection"), (66, .class_ 78), (0, u "java/util/Collection")] 81

def k32m0 : Method := { name := "<init>", desc := "()V", sig := { parameters := [], returnType := none }, accessFlags := 4, code := none }
/-- java/util/AbstractCollection -/
def k32 : Class := { plain "java/util/AbstractCollection" (some 0) with
  accessFlags := 1057
  interfaces := #[31]
  cf := some (fileOf pool32 8 #[] #[{ accessFlags := 4, nameIndex := 5, descriptorIndex := 6, attributes := #[] }] 1057 2 #[77] #[])
  fields := #[]
  methods := #[k32m0]
  instanceTypes := #[]
  staticTypes := #[]
  resolved := Array.replicate 160 none
  statics := none }

def pool33 : Array CpInfo := pool [(8, .class_ 10), (1, u "java/util/SequencedCollection"), (15, .class_ 27), (0, u "java/lang/Object"), (0, .class_ 29), (0, u "java/util/Collection")] 27

/-- java/util/SequencedCollection -/
def k33 : Class := { plain "java/util/SequencedCollection" (some 0) with
  accessFlags := 1537
  interfaces := #[31]
  cf := some (fileOf pool33 8 #[] #[] 1537 26 #[28] #[])
  fields := #[]
  methods := #[]
  instanceTypes := #[]
  staticTypes := #[]
  resolved := Array.replicate 57 none
  statics := none }

def pool34 : Array CpInfo := pool [(8, .class_ 10), (1, u "java/util/List"), (92, .class_ 104), (0, u "java/lang/Object"), (15, .class_ 121), (0, u "java/util/SequencedCollection")] 129

/-- java/util/List -/
def k34 : Class := { plain "java/util/List" (some 0) with
  accessFlags := 1537
  interfaces := #[33]
  cf := some (fileOf pool34 8 #[] #[] 1537 103 #[120] #[])
  fields := #[]
  methods := #[]
  instanceTypes := #[]
  staticTypes := #[]
  resolved := Array.replicate 251 none
  statics := none }

def pool35 : Array CpInfo := pool [(2, .class_ 4), (1, u "java/util/AbstractCollection"), (0, u "<init>"), (0, u "()V"), (1, .class_ 10), (1, u "java/util/AbstractList"), (0, u "modCount"), (0, u "I"), (64, .class_ 78), (0, u "java/util/AbstractList$Itr"), (3, .class_ 83), (0, u "java/util/AbstractList$ListItr"), (9, .class_ 94), (0, u "java/util/AbstractList$RandomAccessSubList"), (3, .class_ 99), (0, u "java/util/AbstractList$SubList"), (33, .class_ 134), (0, u "java/util/List"), (73, .class_ 209), (0, u "java/util/AbstractList$SubList$1"), (0, .class_ 211), (0, u "java/util/AbstractList$RandomAccessSpliterator")] 6

def k35m0 : Method := { name := "<init>", desc := "()V", sig := { parameters := [], returnType := none }, accessFlags := 4, code := none }
/-- java/util/AbstractList -/
def k35 : Class := { plain "java/util/AbstractList" (some 32) with
  accessFlags := 1057
  interfaces := #[34]
  cf := some (fileOf pool35 8 #[.nestMembers #[93, 98, 208, 210, 82, 77]] #[{ accessFlags := 4, nameIndex := 5, descriptorIndex := 6, attributes := #[] }] 1057 2 #[133] #[{ accessFlags := 132, nameIndex := 11, descriptorIndex := 12, attributes := #[] }])
  fields := #[{ name := "modCount", type := .int, accessFlags := 132, slot := 0, constantValue := 0 }]
  methods := #[k35m0]
  instanceTypes := #[.int]
  staticTypes := #[]
  resolved := Array.replicate 218 none
  statics := none }

def pool36 : Array CpInfo := pool [(1, .class_ 2), (0, u "java/util/RandomAccess"), (0, .class_ 4), (0, u "java/lang/Object")] 2

/-- java/util/RandomAccess -/
def k36 : Class := { plain "java/util/RandomAccess" (some 0) with
  accessFlags := 1537
  interfaces := #[]
  cf := some (fileOf pool36 1 #[] #[] 1537 3 #[] #[])
  fields := #[]
  methods := #[]
  instanceTypes := #[]
  staticTypes := #[]
  resolved := Array.replicate 7 none
  statics := none }

def pool37 : Array CpInfo := pool [(2, .class_ 4), (1, u "java/util/AbstractList"), (0, u "<init>"), (0, u "()V"), (1, .class_ 10), (1, u "java/util/Collections"), (54, .class_ 66), (0, u "java/util/Collections$EmptyList"), (0, .class_ 68), (0, u "java/util/RandomAccess"), (0, .class_ 70), (0, u "java/io/Serializable"), (0, u "serialVersionUID"), (0, u "J")] 77

def k37m0 : Method := { name := "<init>", desc := "()V", sig := { parameters := [], returnType := none }, accessFlags := 2, code := none }
/-- java/util/Collections$EmptyList -/
def k37 : Class := { plain "java/util/Collections$EmptyList" (some 35) with
  accessFlags := 32
  interfaces := #[36, 2]
  cf := some (fileOf pool37 65 #[.nestHost 8] #[{ accessFlags := 2, nameIndex := 5, descriptorIndex := 6, attributes := #[] }] 32 2 #[67, 69] #[{ accessFlags := 26, nameIndex := 71, descriptorIndex := 72, attributes := #[] }])
  fields := #[{ name := "serialVersionUID", type := .long, accessFlags := 26, slot := 0, constantValue := 0 }]
  methods := #[k37m0]
  instanceTypes := #[.int]
  staticTypes := #[.long]
  resolved := Array.replicate 150 none
  statics := none }

def pool38 : Array CpInfo := pool [(2, .class_ 4), (1, u "java/lang/StackTraceElement"), (0, u "<init>"), (2, .class_ 10), (1, u "java/lang/Object"), (0, u "()V"), (2, u "format"), (0, u "B"), (2, u "classLoaderName"), (0, u "Ljava/lang/String;"), (2, u "moduleName"), (2, u "moduleVersion"), (12, u "declaringClass"), (4, u "methodName"), (2, u "fileName"), (2, u "lineNumber"), (0, u "I"), (65, u "declaringClassObject"), (0, u "Ljava/lang/Class;"), (33, .class_ 153), (1, u "java/lang/StackTraceElement$HashedModules"), (17, .class_ 172), (0, u "java/io/Serializable"), (0, u "NATIVE_METHOD"), (1, u "UNKNOWN_SOURCE"), (2, u "BUILTIN_CLASS_LOADER"), (1, u "JDK_NON_UPGRADEABLE_MODULE"), (1, u "serialVersionUID"), (0, u "J")] 51

def k38m0 : Method := { name := "<init>", desc := "()V", sig := { parameters := [], returnType := none }, accessFlags := 2, code := none }
/-- java/lang/StackTraceElement -/
def k38 : Class := { plain "java/lang/StackTraceElement" (some 0) with
  accessFlags := 49
  interfaces := #[2]
  cf := some (fileOf pool38 2 #[.nestMembers #[151]] #[{ accessFlags := 2, nameIndex := 5, descriptorIndex := 11, attributes := #[] }] 49 8 #[171] #[{ accessFlags := 26, nameIndex := 173, descriptorIndex := 19, attributes := #[] }, { accessFlags := 26, nameIndex := 175, descriptorIndex := 19, attributes := #[] }, { accessFlags := 130, nameIndex := 116, descriptorIndex := 117, attributes := #[] }, { accessFlags := 2, nameIndex := 18, descriptorIndex := 19, attributes := #[] }, { accessFlags := 2, nameIndex := 22, descriptorIndex := 19, attributes := #[] }, { accessFlags := 2, nameIndex := 25, descriptorIndex := 19, attributes := #[] }, { accessFlags := 2, nameIndex := 38, descriptorIndex := 19, attributes := #[] }, { accessFlags := 2, nameIndex := 43, descriptorIndex := 19, attributes := #[] }, { accessFlags := 2, nameIndex := 46, descriptorIndex := 19, attributes := #[] }, { accessFlags := 2, nameIndex := 49, descriptorIndex := 50, attributes := #[] }, { accessFlags := 2, nameIndex := 14, descriptorIndex := 15, attributes := #[] }, { accessFlags := 26, nameIndex := 178, descriptorIndex := 15, attributes := #[] }, { accessFlags := 26, nameIndex := 180, descriptorIndex := 15, attributes := #[] }, { accessFlags := 26, nameIndex := 182, descriptorIndex := 183, attributes := #[] }])
  fields := #[{ name := "NATIVE_METHOD", type := (.object "java/lang/String"), accessFlags := 26, slot := 0, constantValue := 0 }, { name := "UNKNOWN_SOURCE", type := (.object "java/lang/String"), accessFlags := 26, slot := 1, constantValue := 0 }, { name := "declaringClassObject", type := (.object "java/lang/Class"), accessFlags := 130, slot := 0, constantValue := 0 }, { name := "classLoaderName", type := (.object "java/lang/String"), accessFlags := 2, slot := 1, constantValue := 0 }, { name := "moduleName", type := (.object "java/lang/String"), accessFlags := 2, slot := 2, constantValue := 0 }, { name := "moduleVersion", type := (.object "java/lang/String"), accessFlags := 2, slot := 3, constantValue := 0 }, { name := "declaringClass", type := (.object "java/lang/String"), accessFlags := 2, slot := 4, constantValue := 0 }, { name := "methodName", type := (.object "java/lang/String"), accessFlags := 2, slot := 5, constantValue := 0 }, { name := "fileName", type := (.object "java/lang/String"), accessFlags := 2, slot := 6, constantValue := 0 }, { name := "lineNumber", type := .int, accessFlags := 2, slot := 7, constantValue := 0 }, { name := "format", type := .byte, accessFlags := 2, slot := 8, constantValue := 0 }, { name := "BUILTIN_CLASS_LOADER", type := .byte, accessFlags := 26, slot := 2, constantValue := 0 }, { name := "JDK_NON_UPGRADEABLE_MODULE", type := .byte, accessFlags := 26, slot := 3, constantValue := 0 }, { name := "serialVersionUID", type := .long, accessFlags := 26, slot := 4, constantValue := 0 }]
  methods := #[k38m0]
  instanceTypes := #[(.object "java/lang/Class"), (.object "java/lang/String"), (.object "java/lang/String"), (.object "java/lang/String"), (.object "java/lang/String"), (.object "java/lang/String"), (.object "java/lang/String"), .int, .byte]
  staticTypes := #[(.object "java/lang/String"), (.object "java/lang/String"), .byte, .byte, .long]
  resolved := Array.replicate 235 none
  statics := none }

/-- the primitive byte -/
def k39 : Class := { plain "byte" none with kind := .primitive 'B', accessFlags := 0x411 }
/-- [B -/
def k40 : Class := { plain "[B" (some 0) with kind := .array 39 .byte, interfaces := #[23, 2], accessFlags := 1041 }

/-- the primitive char -/
def k41 : Class := { plain "char" none with kind := .primitive 'C', accessFlags := 0x411 }
/-- [C -/
def k42 : Class := { plain "[C" (some 0) with kind := .array 41 .char, interfaces := #[23, 2], accessFlags := 1041 }

/-- the primitive int -/
def k43 : Class := { plain "int" none with kind := .primitive 'I', accessFlags := 0x411 }
/-- [I -/
def k44 : Class := { plain "[I" (some 0) with kind := .array 43 .int, interfaces := #[23, 2], accessFlags := 1041 }

/-- [Ljava/lang/StackTraceElement; -/
def k45 : Class := { plain "[Ljava/lang/StackTraceElement;" (some 0) with kind := .array 38 (.object "java/lang/StackTraceElement"), interfaces := #[23, 2], accessFlags := 1041 }

/-- [Ljava/lang/Throwable; -/
def k46 : Class := { plain "[Ljava/lang/Throwable;" (some 0) with kind := .array 3 (.object "java/lang/Throwable"), interfaces := #[23, 2], accessFlags := 1041 }

def heap : Heap := #[{ cls := 3, slots := #[.long 0, .ref 7, .ref 8, .null, .null, .null, .null, .ref 9, .int 1], vm := .statics 3 },
  { cls := 13, slots := #[.long 0, .int 1, .null, .int 0, .null, .int 0, .int 0], vm := .statics 13 },
  { cls := 17, slots := #[.null, .null, .ref 10, .null, .null, .null], vm := .statics 17 },
  { cls := 21, slots := #[.ref 10, .null], vm := .statics 21 },
  { cls := 24, slots := #[.int 0, .int 8, .int 0, .int 1], vm := .statics 24 },
  { cls := 26, slots := #[.null, .null, .null], vm := .statics 26 },
  { cls := 28, slots := #[.int 0, .int 0, .int 0, .int 0, .int 0, .int 0, .int 0, .int 0, .null, .null, .ref 8, .null], vm := .statics 28 },
  { cls := 45, slots := #[], vm := .none },
  { cls := 37, slots := #[.int 0], vm := .none },
  { cls := 46, slots := #[], vm := .none },
  { cls := 21, slots := #[.null, .null, .null], vm := .none }]
def classes : Array Class := #[k0, k1, k2, k3, k4, k5, k6, k7, k8, k9, k10, k11, k12, k13, k14, k15, k16, k17, k18, k19, k20, k21, k22, k23, k24, k25, k26, k27, k28, k29, k30, k31, k32, k33, k34, k35, k36, k37, k38, k39, k40, k41, k42, k43, k44, k45, k46]
def interned : List (Array UInt16 × Addr) := []
def slotsUsed : Nat := 47
def theMethod : MethodId := ⟨1, 1⟩
def args0 : Array Value := #[.int 0, .int 0, .int 0, .int 0, .int 0]
def aboutOver (below : List Frame) : State where
  vm := { classes := classes, interned := interned.toArray }
  heap := heap
  slotsUsed := slotsUsed
  threads := #[{ frames := .invoking theMethod args0 :: below }]
def below0 : List Frame := [.native { method := ⟨0, 0⟩, args := #[] }]
def about1 : State := aboutOver below0
def p0 : Program := .bare "" "" ""
def e0 : Env := launch0.env 0 0 0
theorem w_frames : about1.frames = Frame.invoking theMethod args0 :: below0 := rfl
set_option maxRecDepth 65536 in
theorem w_args : argsFit about1.vm theMethod args0 = true := by decide +kernel
set_option maxRecDepth 65536 in
theorem w_heap : heapFits about1 = true := by decide +kernel
set_option maxRecDepth 65536 in
theorem w_runnable : about1.curStatus? = some .runnable := by decide +kernel
set_option maxRecDepth 65536 in
theorem w_alone : about1.alone = true := by decide +kernel
set_option maxRecDepth 65536 in
theorem w_named : about1.methodNamed? x = some theMethod := by decide +kernel
set_option maxRecDepth 65536 in
theorem w_hears : about1.hears theMethod below0 = true := by decide +kernel
set_option maxRecDepth 65536 in
theorem w_ripe : about1.ripe theMethod args0 below0 = true := by decide +kernel
theorem w_running : about1.status = .running := rfl
set_option maxRecDepth 65536 in
theorem w_room : about1.hasRoom e0.platform room_1 = true :=
  launch0.hasRoom_least _ room_1 (by decide +kernel) (by decide +kernel) (by decide +kernel) (by decide +kernel) (by decide +kernel) (by decide +kernel)
theorem allAtoms_all (ts : List Jvm.Cond) (a : Array Jvm.Value) (st : Jvm.State) : (allAtoms ts).before a st = ts.all (fun c => c.before a st) := by
  induction ts with
  | nil => rfl
  | cons c t ih =>
    show (Jvm.Cond.and c (allAtoms t)).before a st = _
    rw [Jvm.Cond.before_and, ih, List.all_cons]
def words1 : List Jvm.Cond := Jvm.Cond.code x code maxLocals ret :: tables_1
/-- a 'code' word, met by the world's own term for the bytes: nothing is compared byte by byte -/
theorem code_word {y : MethodName} {bytes : ByteArray} {mx : Nat} {rt : Option FieldType} {a : Array Value} {s : State} {m : MethodId} {meth : Method} {c : Code} (h1 : s.methodNamed? y = some m) (h2 : s.vm.method? m = some meth) (h3 : meth.code = some c) (h4 : c.code = bytes)
    (h5 : (c.maxLocals == mx && c.exceptionTable.isEmpty && decide (c.maxStack ≤ mostOperands) && decide (meth.sig.returnType = rt) && !meth.locks && decide (parseMethodDescriptor y.desc = some meth.sig)) = true) : (Jvm.Cond.code y bytes mx rt).before a s = true := by
  simp only [Bool.and_eq_true, beq_iff_eq, Bool.not_eq_true', decide_eq_true_eq] at h5
  obtain ⟨⟨⟨⟨⟨g1, g2⟩, g3⟩, g4⟩, g5⟩, g6⟩ := h5
  simp [Cond.before, Cond.holds, Cond.value, h1, h2, h3, h4, g1, g2, g3, g4, g5, g6]
def isCode : Jvm.Cond → Bool
  | .code _ _ _ _ => true
  | _ => false
theorem all_split {L : List Jvm.Cond} {P : Jvm.Cond → Bool} (h1 : L.all (fun c => isCode c || P c) = true) (h2 : ∀ c ∈ L.filter isCode, P c = true) : L.all P = true := by
  refine List.all_eq_true.mpr fun c hc => ?_
  have h := List.all_eq_true.mp h1 c hc
  rcases Bool.eq_false_or_eq_true (isCode c) with hi | hi
  · exact h2 c (List.mem_filter.mpr ⟨hc, hi⟩)
  · simpa [hi] using h
set_option maxRecDepth 65536 in
theorem w_c0 : (Jvm.Cond.code x code maxLocals ret).before args0 about1 = true := code_word (m := ⟨1, 1⟩) (meth := k1m1) (c := k1c1) (by decide +kernel) rfl rfl rfl (by decide +kernel)
set_option maxRecDepth 65536 in
theorem w_c1 : (Jvm.Cond.code ({ cls := "com/example/musterpoint/musterpoint/registry/ProblemBodyPinLaw", name := "ch", desc := "(I)C" } : Jvm.MethodName) method_3_code (2 : Nat) (Option.some Jvm.ClassFile.FieldType.char)).before args0 about1 = true := code_word (m := ⟨1, 2⟩) (meth := k1m2) (c := k1c2) (by decide +kernel) rfl rfl rfl (by decide +kernel)
set_option maxRecDepth 65536 in
theorem w_c2 : (Jvm.Cond.code ({ cls := "com/example/musterpoint/musterpoint/registry/Problem", name := "<init>", desc := "(ILjava/lang/String;)V" } : Jvm.MethodName) prog_15_method_1_code (3 : Nat) (Option.none : Option Jvm.ClassFile.FieldType)).before args0 about1 = true := code_word (m := ⟨5, 0⟩) (meth := k5m0) (c := k5c0) (by decide +kernel) rfl rfl rfl (by decide +kernel)
set_option maxRecDepth 65536 in
theorem w_c3 : (Jvm.Cond.code ({ cls := "java/lang/Exception", name := "<init>", desc := "(Ljava/lang/String;Ljava/lang/Throwable;ZZ)V" } : Jvm.MethodName) jdk_59_method_5_code (5 : Nat) (Option.none : Option Jvm.ClassFile.FieldType)).before args0 about1 = true := code_word (m := ⟨4, 1⟩) (meth := k4m1) (c := k4c1) (by decide +kernel) rfl rfl rfl (by decide +kernel)
set_option maxRecDepth 65536 in
theorem w_c4 : (Jvm.Cond.code ({ cls := "java/lang/Throwable", name := "<init>", desc := "(Ljava/lang/String;Ljava/lang/Throwable;ZZ)V" } : Jvm.MethodName) jdk_78_method_5_code (5 : Nat) (Option.none : Option Jvm.ClassFile.FieldType)).before args0 about1 = true := code_word (m := ⟨3, 1⟩) (meth := k3m1) (c := k3c1) (by decide +kernel) rfl rfl rfl (by decide +kernel)
set_option maxRecDepth 65536 in
theorem w_c5 : (Jvm.Cond.code ({ cls := "java/lang/Object", name := "<init>", desc := "()V" } : Jvm.MethodName) object_method_1_code (1 : Nat) (Option.none : Option Jvm.ClassFile.FieldType)).before args0 about1 = true := code_word (m := ⟨0, 0⟩) (meth := k0m0) (c := k0c0) (by decide +kernel) rfl rfl rfl (by decide +kernel)
set_option maxRecDepth 65536 in
theorem w_c6 : (Jvm.Cond.code ({ cls := "com/example/musterpoint/musterpoint/registry/Problem", name := "body", desc := "()[B" } : Jvm.MethodName) prog_15_method_5_code (1 : Nat) (Option.some (Jvm.ClassFile.FieldType.array Jvm.ClassFile.FieldType.byte))).before args0 about1 = true := code_word (m := ⟨5, 1⟩) (meth := k5m1) (c := k5c1) (by decide +kernel) rfl rfl rfl (by decide +kernel)
set_option maxRecDepth 65536 in
theorem w_c7 : (Jvm.Cond.code ({ cls := "java/lang/StringBuilder", name := "<init>", desc := "()V" } : Jvm.MethodName) jdk_67_method_1_code (1 : Nat) (Option.none : Option Jvm.ClassFile.FieldType)).before args0 about1 = true := code_word (m := ⟨10, 0⟩) (meth := k10m0) (c := k10c0) (by decide +kernel) rfl rfl rfl (by decide +kernel)
set_option maxRecDepth 65536 in
theorem w_c8 : (Jvm.Cond.code ({ cls := "java/lang/AbstractStringBuilder", name := "<init>", desc := "(I)V" } : Jvm.MethodName) jdk_68_method_2_code (2 : Nat) (Option.none : Option Jvm.ClassFile.FieldType)).before args0 about1 = true := code_word (m := ⟨8, 1⟩) (meth := k8m1) (c := k8c1) (by decide +kernel) rfl rfl rfl (by decide +kernel)
set_option maxRecDepth 65536 in
theorem w_c9 : (Jvm.Cond.code ({ cls := "java/lang/Throwable", name := "getMessage", desc := "()Ljava/lang/String;" } : Jvm.MethodName) jdk_78_method_6_code (1 : Nat) (Option.some (Jvm.ClassFile.FieldType.object "java/lang/String"))).before args0 about1 = true := code_word (m := ⟨3, 2⟩) (meth := k3m2) (c := k3c2) (by decide +kernel) rfl rfl rfl (by decide +kernel)
set_option maxRecDepth 65536 in
theorem w_c10 : (Jvm.Cond.code ({ cls := "java/lang/StringBuilder", name := "append", desc := "(Ljava/lang/String;)Ljava/lang/StringBuilder;" } : Jvm.MethodName) jdk_67_method_7_code (2 : Nat) (Option.some (Jvm.ClassFile.FieldType.object "java/lang/StringBuilder"))).before args0 about1 = true := code_word (m := ⟨10, 1⟩) (meth := k10m1) (c := k10c1) (by decide +kernel) rfl rfl rfl (by decide +kernel)
set_option maxRecDepth 65536 in
theorem w_c11 : (Jvm.Cond.code ({ cls := "java/lang/AbstractStringBuilder", name := "append", desc := "(Ljava/lang/String;)Ljava/lang/AbstractStringBuilder;" } : Jvm.MethodName) jdk_68_method_22_code (3 : Nat) (Option.some (Jvm.ClassFile.FieldType.object "java/lang/AbstractStringBuilder"))).before args0 about1 = true := code_word (m := ⟨8, 5⟩) (meth := k8m5) (c := k8c5) (by decide +kernel) rfl rfl rfl (by decide +kernel)
set_option maxRecDepth 65536 in
theorem w_c12 : (Jvm.Cond.code ({ cls := "java/lang/AbstractStringBuilder", name := "appendNull", desc := "()Ljava/lang/AbstractStringBuilder;" } : Jvm.MethodName) jdk_68_method_26_code (3 : Nat) (Option.some (Jvm.ClassFile.FieldType.object "java/lang/AbstractStringBuilder"))).before args0 about1 = true := code_word (m := ⟨8, 6⟩) (meth := k8m6) (c := k8c6) (by decide +kernel) rfl rfl rfl (by decide +kernel)
set_option maxRecDepth 65536 in
theorem w_c13 : (Jvm.Cond.code ({ cls := "java/lang/AbstractStringBuilder", name := "ensureCapacityInternal", desc := "(I)V" } : Jvm.MethodName) jdk_68_method_9_code (3 : Nat) (Option.none : Option Jvm.ClassFile.FieldType)).before args0 about1 = true := code_word (m := ⟨8, 3⟩) (meth := k8m3) (c := k8c3) (by decide +kernel) rfl rfl rfl (by decide +kernel)
set_option maxRecDepth 65536 in
theorem w_c14 : (Jvm.Cond.code ({ cls := "java/lang/AbstractStringBuilder", name := "isLatin1", desc := "()Z" } : Jvm.MethodName) jdk_68_method_68_code (1 : Nat) (Option.some Jvm.ClassFile.FieldType.boolean)).before args0 about1 = true := code_word (m := ⟨8, 8⟩) (meth := k8m8) (c := k8c8) (by decide +kernel) rfl rfl rfl (by decide +kernel)
set_option maxRecDepth 65536 in
theorem w_c15 : (Jvm.Cond.code ({ cls := "java/lang/String", name := "length", desc := "()I" } : Jvm.MethodName) jdk_42_method_54_code (1 : Nat) (Option.some Jvm.ClassFile.FieldType.int)).before args0 about1 = true := code_word (m := ⟨13, 6⟩) (meth := k13m6) (c := k13c6) (by decide +kernel) rfl rfl rfl (by decide +kernel)
set_option maxRecDepth 65536 in
theorem w_c16 : (Jvm.Cond.code ({ cls := "java/lang/String", name := "coder", desc := "()B" } : Jvm.MethodName) jdk_42_method_152_code (1 : Nat) (Option.some Jvm.ClassFile.FieldType.byte)).before args0 about1 = true := code_word (m := ⟨13, 11⟩) (meth := k13m11) (c := k13c11) (by decide +kernel) rfl rfl rfl (by decide +kernel)
set_option maxRecDepth 65536 in
theorem w_c17 : (Jvm.Cond.code ({ cls := "java/lang/AbstractStringBuilder", name := "putStringAt", desc := "(ILjava/lang/String;)V" } : Jvm.MethodName) jdk_68_method_73_code (3 : Nat) (Option.none : Option Jvm.ClassFile.FieldType)).before args0 about1 = true := code_word (m := ⟨8, 10⟩) (meth := k8m10) (c := k8c10) (by decide +kernel) rfl rfl rfl (by decide +kernel)
set_option maxRecDepth 65536 in
theorem w_c18 : (Jvm.Cond.code ({ cls := "java/lang/AbstractStringBuilder", name := "inflateIfNeededFor", desc := "(Ljava/lang/String;)V" } : Jvm.MethodName) jdk_68_method_71_code (2 : Nat) (Option.none : Option Jvm.ClassFile.FieldType)).before args0 about1 = true := code_word (m := ⟨8, 9⟩) (meth := k8m9) (c := k8c9) (by decide +kernel) rfl rfl rfl (by decide +kernel)
set_option maxRecDepth 65536 in
theorem w_c19 : (Jvm.Cond.code ({ cls := "java/lang/String", name := "getBytes", desc := "([BIB)V" } : Jvm.MethodName) jdk_42_method_147_code (4 : Nat) (Option.none : Option Jvm.ClassFile.FieldType)).before args0 about1 = true := code_word (m := ⟨13, 8⟩) (meth := k13m8) (c := k13c8) (by decide +kernel) rfl rfl rfl (by decide +kernel)
set_option maxRecDepth 65536 in
theorem w_c20 : (Jvm.Cond.code ({ cls := "java/lang/StringBuilder", name := "toString", desc := "()Ljava/lang/String;" } : Jvm.MethodName) jdk_67_method_42_code (1 : Nat) (Option.some (Jvm.ClassFile.FieldType.object "java/lang/String"))).before args0 about1 = true := code_word (m := ⟨10, 2⟩) (meth := k10m2) (c := k10c2) (by decide +kernel) rfl rfl rfl (by decide +kernel)
set_option maxRecDepth 65536 in
theorem w_c21 : (Jvm.Cond.code ({ cls := "java/lang/String", name := "<init>", desc := "(Ljava/lang/StringBuilder;)V" } : Jvm.MethodName) jdk_42_method_53_code (2 : Nat) (Option.none : Option Jvm.ClassFile.FieldType)).before args0 about1 = true := code_word (m := ⟨13, 5⟩) (meth := k13m5) (c := k13c5) (by decide +kernel) rfl rfl rfl (by decide +kernel)
set_option maxRecDepth 65536 in
theorem w_c22 : (Jvm.Cond.code ({ cls := "java/lang/String", name := "<init>", desc := "(Ljava/lang/AbstractStringBuilder;Ljava/lang/Void;)V" } : Jvm.MethodName) jdk_42_method_150_code (5 : Nat) (Option.none : Option Jvm.ClassFile.FieldType)).before args0 about1 = true := code_word (m := ⟨13, 10⟩) (meth := k13m10) (c := k13c10) (by decide +kernel) rfl rfl rfl (by decide +kernel)
set_option maxRecDepth 65536 in
theorem w_c23 : (Jvm.Cond.code ({ cls := "java/lang/AbstractStringBuilder", name := "getValue", desc := "()[B" } : Jvm.MethodName) jdk_68_method_64_code (1 : Nat) (Option.some (Jvm.ClassFile.FieldType.array Jvm.ClassFile.FieldType.byte))).before args0 about1 = true := code_word (m := ⟨8, 7⟩) (meth := k8m7) (c := k8c7) (by decide +kernel) rfl rfl rfl (by decide +kernel)
set_option maxRecDepth 65536 in
theorem w_c24 : (Jvm.Cond.code ({ cls := "java/lang/StringBuilder", name := "length", desc := "()I" } : Jvm.MethodName) jdk_67_method_93_code (1 : Nat) (Option.some Jvm.ClassFile.FieldType.int)).before args0 about1 = true := code_word (m := ⟨10, 3⟩) (meth := k10m3) (c := k10c3) (by decide +kernel) rfl rfl rfl (by decide +kernel)
set_option maxRecDepth 65536 in
theorem w_c25 : (Jvm.Cond.code ({ cls := "java/lang/AbstractStringBuilder", name := "length", desc := "()I" } : Jvm.MethodName) jdk_68_method_6_code (1 : Nat) (Option.some Jvm.ClassFile.FieldType.int)).before args0 about1 = true := code_word (m := ⟨8, 2⟩) (meth := k8m2) (c := k8c2) (by decide +kernel) rfl rfl rfl (by decide +kernel)
set_option maxRecDepth 65536 in
theorem w_c26 : (Jvm.Cond.code ({ cls := "java/util/Arrays", name := "copyOfRange", desc := "([BII)[B" } : Jvm.MethodName) jdk_65_method_132_code (3 : Nat) (Option.some (Jvm.ClassFile.FieldType.array Jvm.ClassFile.FieldType.byte))).before args0 about1 = true := code_word (m := ⟨15, 3⟩) (meth := k15m3) (c := k15c3) (by decide +kernel) rfl rfl rfl (by decide +kernel)
set_option maxRecDepth 65536 in
theorem w_c27 : (Jvm.Cond.code ({ cls := "java/util/Arrays", name := "copyOfRangeByte", desc := "([BII)[B" } : Jvm.MethodName) jdk_65_method_133_code (5 : Nat) (Option.some (Jvm.ClassFile.FieldType.array Jvm.ClassFile.FieldType.byte))).before args0 about1 = true := code_word (m := ⟨15, 4⟩) (meth := k15m4) (c := k15c4) (by decide +kernel) rfl rfl rfl (by decide +kernel)
set_option maxRecDepth 65536 in
theorem w_c28 : (Jvm.Cond.code ({ cls := "java/util/Arrays", name := "checkLength", desc := "(II)V" } : Jvm.MethodName) jdk_65_method_131_code (2 : Nat) (Option.none : Option Jvm.ClassFile.FieldType)).before args0 about1 = true := code_word (m := ⟨15, 2⟩) (meth := k15m2) (c := k15c2) (by decide +kernel) rfl rfl rfl (by decide +kernel)
set_option maxRecDepth 65536 in
theorem w_c29 : (Jvm.Cond.code ({ cls := "java/lang/Math", name := "min", desc := "(II)I" } : Jvm.MethodName) jdk_29_method_69_code (2 : Nat) (Option.some Jvm.ClassFile.FieldType.int)).before args0 about1 = true := code_word (m := ⟨16, 1⟩) (meth := k16m1) (c := k16c1) (by decide +kernel) rfl rfl rfl (by decide +kernel)
set_option maxRecDepth 65536 in
theorem w_c30 : (Jvm.Cond.code ({ cls := "java/lang/String", name := "getBytes", desc := "(Ljava/nio/charset/Charset;)[B" } : Jvm.MethodName) jdk_42_method_64_code (2 : Nat) (Option.some (Jvm.ClassFile.FieldType.array Jvm.ClassFile.FieldType.byte))).before args0 about1 = true := code_word (m := ⟨13, 7⟩) (meth := k13m7) (c := k13c7) (by decide +kernel) rfl rfl rfl (by decide +kernel)
set_option maxRecDepth 65536 in
theorem w_c31 : (Jvm.Cond.code ({ cls := "java/lang/String", name := "encode", desc := "(Ljava/nio/charset/Charset;B[B)[B" } : Jvm.MethodName) jdk_42_method_18_code (3 : Nat) (Option.some (Jvm.ClassFile.FieldType.array Jvm.ClassFile.FieldType.byte))).before args0 about1 = true := code_word (m := ⟨13, 2⟩) (meth := k13m2) (c := k13c2) (by decide +kernel) rfl rfl rfl (by decide +kernel)
set_option maxRecDepth 65536 in
theorem w_c32 : (Jvm.Cond.code ({ cls := "java/lang/String", name := "encodeUTF8", desc := "(B[BZ)[B" } : Jvm.MethodName) jdk_42_method_46_code (9 : Nat) (Option.some (Jvm.ClassFile.FieldType.array Jvm.ClassFile.FieldType.byte))).before args0 about1 = true := code_word (m := ⟨13, 3⟩) (meth := k13m3) (c := k13c3) (by decide +kernel) rfl rfl rfl (by decide +kernel)
set_option maxRecDepth 65536 in
theorem w_c33 : (Jvm.Cond.code ({ cls := "java/lang/StringCoding", name := "hasNegatives", desc := "([BII)Z" } : Jvm.MethodName) jdk_123_method_2_code (3 : Nat) (Option.some Jvm.ClassFile.FieldType.boolean)).before args0 about1 = true := code_word (m := ⟨22, 1⟩) (meth := k22m1) (c := k22c1) (by decide +kernel) rfl rfl rfl (by decide +kernel)
set_option maxRecDepth 65536 in
theorem w_c34 : (Jvm.Cond.code ({ cls := "java/lang/StringCoding", name := "countPositives", desc := "([BII)I" } : Jvm.MethodName) jdk_123_method_3_code (5 : Nat) (Option.some Jvm.ClassFile.FieldType.int)).before args0 about1 = true := code_word (m := ⟨22, 2⟩) (meth := k22m2) (c := k22c2) (by decide +kernel) rfl rfl rfl (by decide +kernel)
set_option maxRecDepth 65536 in
theorem w_c35 : (Jvm.Cond.code ({ cls := "com/example/musterpoint/musterpoint/registry/ProblemBodyPinLaw", name := "same", desc := "([B[BI)Z" } : Jvm.MethodName) method_5_code (3 : Nat) (Option.some Jvm.ClassFile.FieldType.boolean)).before args0 about1 = true := code_word (m := ⟨1, 4⟩) (meth := k1m4) (c := k1c4) (by decide +kernel) rfl rfl rfl (by decide +kernel)
set_option maxRecDepth 65536 in
theorem w_c36 : (Jvm.Cond.code ({ cls := "java/lang/String", name := "<init>", desc := "([C)V" } : Jvm.MethodName) jdk_42_method_3_code (2 : Nat) (Option.none : Option Jvm.ClassFile.FieldType)).before args0 about1 = true := code_word (m := ⟨13, 1⟩) (meth := k13m1) (c := k13c1) (by decide +kernel) rfl rfl rfl (by decide +kernel)
set_option maxRecDepth 65536 in
theorem w_c37 : (Jvm.Cond.code ({ cls := "java/lang/String", name := "<init>", desc := "([CIILjava/lang/Void;)V" } : Jvm.MethodName) jdk_42_method_149_code (6 : Nat) (Option.none : Option Jvm.ClassFile.FieldType)).before args0 about1 = true := code_word (m := ⟨13, 9⟩) (meth := k13m9) (c := k13c9) (by decide +kernel) rfl rfl rfl (by decide +kernel)
set_option maxRecDepth 65536 in
theorem w_c38 : (Jvm.Cond.code ({ cls := "com/example/musterpoint/musterpoint/registry/ProblemBodyPinLaw", name := "enc", desc := "(C[BI)I" } : Jvm.MethodName) method_4_code (4 : Nat) (Option.some Jvm.ClassFile.FieldType.int)).before args0 about1 = true := code_word (m := ⟨1, 3⟩) (meth := k1m3) (c := k1c3) (by decide +kernel) rfl rfl rfl (by decide +kernel)
set_option maxRecDepth 65536 in
theorem w_c39 : (Jvm.Cond.code ({ cls := "java/lang/StringUTF16", name := "compress", desc := "([CII)[B" } : Jvm.MethodName) jdk_52_method_16_code (6 : Nat) (Option.some (Jvm.ClassFile.FieldType.array Jvm.ClassFile.FieldType.byte))).before args0 about1 = true := code_word (m := ⟨24, 8⟩) (meth := k24m8) (c := k24c8) (by decide +kernel) rfl rfl rfl (by decide +kernel)
set_option maxRecDepth 65536 in
theorem w_c40 : (Jvm.Cond.code ({ cls := "java/lang/StringUTF16", name := "compress", desc := "([CI[BII)I" } : Jvm.MethodName) jdk_52_method_21_code (7 : Nat) (Option.some Jvm.ClassFile.FieldType.int)).before args0 about1 = true := code_word (m := ⟨24, 9⟩) (meth := k24m9) (c := k24c9) (by decide +kernel) rfl rfl rfl (by decide +kernel)
set_option maxRecDepth 65536 in
theorem w_c41 : (Jvm.Cond.code ({ cls := "java/lang/StringUTF16", name := "toBytes", desc := "([CII)[B" } : Jvm.MethodName) jdk_52_method_14_code (5 : Nat) (Option.some (Jvm.ClassFile.FieldType.array Jvm.ClassFile.FieldType.byte))).before args0 about1 = true := code_word (m := ⟨24, 6⟩) (meth := k24m6) (c := k24c6) (by decide +kernel) rfl rfl rfl (by decide +kernel)
set_option maxRecDepth 65536 in
theorem w_c42 : (Jvm.Cond.code ({ cls := "java/lang/StringUTF16", name := "newBytesFor", desc := "(I)[B" } : Jvm.MethodName) jdk_52_method_2_code (1 : Nat) (Option.some (Jvm.ClassFile.FieldType.array Jvm.ClassFile.FieldType.byte))).before args0 about1 = true := code_word (m := ⟨24, 1⟩) (meth := k24m1) (c := k24c1) (by decide +kernel) rfl rfl rfl (by decide +kernel)
set_option maxRecDepth 65536 in
theorem w_c43 : (Jvm.Cond.code ({ cls := "java/lang/StringUTF16", name := "newBytesLength", desc := "(I)I" } : Jvm.MethodName) jdk_52_method_3_code (1 : Nat) (Option.some Jvm.ClassFile.FieldType.int)).before args0 about1 = true := code_word (m := ⟨24, 2⟩) (meth := k24m2) (c := k24c2) (by decide +kernel) rfl rfl rfl (by decide +kernel)
set_option maxRecDepth 65536 in
theorem w_c44 : (Jvm.Cond.code ({ cls := "java/lang/StringUTF16", name := "putChar", desc := "([BII)V" } : Jvm.MethodName) jdk_52_method_4_code (3 : Nat) (Option.none : Option Jvm.ClassFile.FieldType)).before args0 about1 = true := code_word (m := ⟨24, 3⟩) (meth := k24m3) (c := k24c3) (by decide +kernel) rfl rfl rfl (by decide +kernel)
set_option maxRecDepth 65536 in
theorem w_c45 : (Jvm.Cond.code ({ cls := "java/lang/StringUTF16", name := "getChar", desc := "([BI)C" } : Jvm.MethodName) jdk_52_method_5_code (2 : Nat) (Option.some Jvm.ClassFile.FieldType.char)).before args0 about1 = true := code_word (m := ⟨24, 4⟩) (meth := k24m4) (c := k24c4) (by decide +kernel) rfl rfl rfl (by decide +kernel)
set_option maxRecDepth 65536 in
theorem w_c46 : (Jvm.Cond.code ({ cls := "java/lang/StringUTF16", name := "coderFromArrayLen", desc := "([BI)B" } : Jvm.MethodName) jdk_52_method_15_code (2 : Nat) (Option.some Jvm.ClassFile.FieldType.byte)).before args0 about1 = true := code_word (m := ⟨24, 7⟩) (meth := k24m7) (c := k24c7) (by decide +kernel) rfl rfl rfl (by decide +kernel)
set_option maxRecDepth 65536 in
theorem w_c47 : (Jvm.Cond.code ({ cls := "java/lang/AbstractStringBuilder", name := "inflate", desc := "()V" } : Jvm.MethodName) jdk_68_method_11_code (2 : Nat) (Option.none : Option Jvm.ClassFile.FieldType)).before args0 about1 = true := code_word (m := ⟨8, 4⟩) (meth := k8m4) (c := k8c4) (by decide +kernel) rfl rfl rfl (by decide +kernel)
set_option maxRecDepth 65536 in
theorem w_c48 : (Jvm.Cond.code ({ cls := "java/lang/StringLatin1", name := "inflate", desc := "([BI[BII)V" } : Jvm.MethodName) jdk_43_method_50_code (5 : Nat) (Option.none : Option Jvm.ClassFile.FieldType)).before args0 about1 = true := code_word (m := ⟨25, 1⟩) (meth := k25m1) (c := k25c1) (by decide +kernel) rfl rfl rfl (by decide +kernel)
set_option maxRecDepth 65536 in
theorem w_c49 : (Jvm.Cond.code ({ cls := "java/lang/StringUTF16", name := "inflate", desc := "([BI[BII)V" } : Jvm.MethodName) jdk_52_method_86_code (6 : Nat) (Option.none : Option Jvm.ClassFile.FieldType)).before args0 about1 = true := code_word (m := ⟨24, 10⟩) (meth := k24m10) (c := k24c10) (by decide +kernel) rfl rfl rfl (by decide +kernel)
set_option maxRecDepth 65536 in
theorem w_c50 : (Jvm.Cond.code ({ cls := "java/lang/StringUTF16", name := "checkBoundsOffCount", desc := "(II[B)V" } : Jvm.MethodName) jdk_52_method_94_code (3 : Nat) (Option.none : Option Jvm.ClassFile.FieldType)).before args0 about1 = true := code_word (m := ⟨24, 11⟩) (meth := k24m11) (c := k24c11) (by decide +kernel) rfl rfl rfl (by decide +kernel)
set_option maxRecDepth 65536 in
theorem w_c51 : (Jvm.Cond.code ({ cls := "java/lang/StringUTF16", name := "length", desc := "([B)I" } : Jvm.MethodName) jdk_52_method_6_code (1 : Nat) (Option.some Jvm.ClassFile.FieldType.int)).before args0 about1 = true := code_word (m := ⟨24, 5⟩) (meth := k24m5) (c := k24c5) (by decide +kernel) rfl rfl rfl (by decide +kernel)
set_option maxRecDepth 65536 in
theorem w_c52 : (Jvm.Cond.code ({ cls := "java/lang/String", name := "checkBoundsOffCount", desc := "(III)I" } : Jvm.MethodName) jdk_42_method_157_code (3 : Nat) (Option.some Jvm.ClassFile.FieldType.int)).before args0 about1 = true := code_word (m := ⟨13, 12⟩) (meth := k13m12) (c := k13c12) (by decide +kernel) rfl rfl rfl (by decide +kernel)
set_option maxRecDepth 65536 in
theorem w_c53 : (Jvm.Cond.code ({ cls := "jdk/internal/util/Preconditions", name := "checkFromIndexSize", desc := "(IIILjava/util/function/BiFunction;)I" } : Jvm.MethodName) jdk_41_method_13_code (4 : Nat) (Option.some Jvm.ClassFile.FieldType.int)).before args0 about1 = true := code_word (m := ⟨26, 1⟩) (meth := k26m1) (c := k26c1) (by decide +kernel) rfl rfl rfl (by decide +kernel)
set_option maxRecDepth 65536 in
theorem w_c54 : (Jvm.Cond.code ({ cls := "java/lang/String", name := "encodeUTF8_UTF16", desc := "([BZ)[B" } : Jvm.MethodName) jdk_42_method_47_code (9 : Nat) (Option.some (Jvm.ClassFile.FieldType.array Jvm.ClassFile.FieldType.byte))).before args0 about1 = true := code_word (m := ⟨13, 4⟩) (meth := k13m4) (c := k13c4) (by decide +kernel) rfl rfl rfl (by decide +kernel)
set_option maxRecDepth 65536 in
theorem w_c55 : (Jvm.Cond.code ({ cls := "java/lang/Character", name := "isSurrogate", desc := "(C)Z" } : Jvm.MethodName) jdk_89_method_16_code (1 : Nat) (Option.some Jvm.ClassFile.FieldType.boolean)).before args0 about1 = true := code_word (m := ⟨27, 0⟩) (meth := k27m0) (c := k27c0) (by decide +kernel) rfl rfl rfl (by decide +kernel)
set_option maxRecDepth 65536 in
theorem w_c56 : (Jvm.Cond.code ({ cls := "java/util/Arrays", name := "copyOf", desc := "([BI)[B" } : Jvm.MethodName) jdk_65_method_121_code (3 : Nat) (Option.some (Jvm.ClassFile.FieldType.array Jvm.ClassFile.FieldType.byte))).before args0 about1 = true := code_word (m := ⟨15, 1⟩) (meth := k15m1) (c := k15c1) (by decide +kernel) rfl rfl rfl (by decide +kernel)
def codes1 : List Jvm.Cond := [Jvm.Cond.code x code maxLocals ret, Jvm.Cond.code ({ cls := "com/example/musterpoint/musterpoint/registry/ProblemBodyPinLaw", name := "ch", desc := "(I)C" } : Jvm.MethodName) method_3_code (2 : Nat) (Option.some Jvm.ClassFile.FieldType.char), Jvm.Cond.code ({ cls := "com/example/musterpoint/musterpoint/registry/Problem", name := "<init>", desc := "(ILjava/lang/String;)V" } : Jvm.MethodName) prog_15_method_1_code (3 : Nat) (Option.none : Option Jvm.ClassFile.FieldType), Jvm.Cond.code ({ cls := "java/lang/Exception", name := "<init>", desc := "(Ljava/lang/String;Ljava/lang/Throwable;ZZ)V" } : Jvm.MethodName) jdk_59_method_5_code (5 : Nat) (Option.none : Option Jvm.ClassFile.FieldType), Jvm.Cond.code ({ cls := "java/lang/Throwable", name := "<init>", desc := "(Ljava/lang/String;Ljava/lang/Throwable;ZZ)V" } : Jvm.MethodName) jdk_78_method_5_code (5 : Nat) (Option.none : Option Jvm.ClassFile.FieldType), Jvm.Cond.code ({ cls := "java/lang/Object", name := "<init>", desc := "()V" } : Jvm.MethodName) object_method_1_code (1 : Nat) (Option.none : Option Jvm.ClassFile.FieldType), Jvm.Cond.code ({ cls := "com/example/musterpoint/musterpoint/registry/Problem", name := "body", desc := "()[B" } : Jvm.MethodName) prog_15_method_5_code (1 : Nat) (Option.some (Jvm.ClassFile.FieldType.array Jvm.ClassFile.FieldType.byte)), Jvm.Cond.code ({ cls := "java/lang/StringBuilder", name := "<init>", desc := "()V" } : Jvm.MethodName) jdk_67_method_1_code (1 : Nat) (Option.none : Option Jvm.ClassFile.FieldType), Jvm.Cond.code ({ cls := "java/lang/AbstractStringBuilder", name := "<init>", desc := "(I)V" } : Jvm.MethodName) jdk_68_method_2_code (2 : Nat) (Option.none : Option Jvm.ClassFile.FieldType), Jvm.Cond.code ({ cls := "java/lang/Throwable", name := "getMessage", desc := "()Ljava/lang/String;" } : Jvm.MethodName) jdk_78_method_6_code (1 : Nat) (Option.some (Jvm.ClassFile.FieldType.object "java/lang/String")), Jvm.Cond.code ({ cls := "java/lang/StringBuilder", name := "append", desc := "(Ljava/lang/String;)Ljava/lang/StringBuilder;" } : Jvm.MethodName) jdk_67_method_7_code (2 : Nat) (Option.some (Jvm.ClassFile.FieldType.object "java/lang/StringBuilder")), Jvm.Cond.code ({ cls := "java/lang/AbstractStringBuilder", name := "append", desc := "(Ljava/lang/String;)Ljava/lang/AbstractStringBuilder;" } : Jvm.MethodName) jdk_68_method_22_code (3 : Nat) (Option.some (Jvm.ClassFile.FieldType.object "java/lang/AbstractStringBuilder")), Jvm.Cond.code ({ cls := "java/lang/AbstractStringBuilder", name := "appendNull", desc := "()Ljava/lang/AbstractStringBuilder;" } : Jvm.MethodName) jdk_68_method_26_code (3 : Nat) (Option.some (Jvm.ClassFile.FieldType.object "java/lang/AbstractStringBuilder")), Jvm.Cond.code ({ cls := "java/lang/AbstractStringBuilder", name := "ensureCapacityInternal", desc := "(I)V" } : Jvm.MethodName) jdk_68_method_9_code (3 : Nat) (Option.none : Option Jvm.ClassFile.FieldType), Jvm.Cond.code ({ cls := "java/lang/AbstractStringBuilder", name := "isLatin1", desc := "()Z" } : Jvm.MethodName) jdk_68_method_68_code (1 : Nat) (Option.some Jvm.ClassFile.FieldType.boolean), Jvm.Cond.code ({ cls := "java/lang/String", name := "length", desc := "()I" } : Jvm.MethodName) jdk_42_method_54_code (1 : Nat) (Option.some Jvm.ClassFile.FieldType.int), Jvm.Cond.code ({ cls := "java/lang/String", name := "coder", desc := "()B" } : Jvm.MethodName) jdk_42_method_152_code (1 : Nat) (Option.some Jvm.ClassFile.FieldType.byte), Jvm.Cond.code ({ cls := "java/lang/AbstractStringBuilder", name := "putStringAt", desc := "(ILjava/lang/String;)V" } : Jvm.MethodName) jdk_68_method_73_code (3 : Nat) (Option.none : Option Jvm.ClassFile.FieldType), Jvm.Cond.code ({ cls := "java/lang/AbstractStringBuilder", name := "inflateIfNeededFor", desc := "(Ljava/lang/String;)V" } : Jvm.MethodName) jdk_68_method_71_code (2 : Nat) (Option.none : Option Jvm.ClassFile.FieldType), Jvm.Cond.code ({ cls := "java/lang/String", name := "getBytes", desc := "([BIB)V" } : Jvm.MethodName) jdk_42_method_147_code (4 : Nat) (Option.none : Option Jvm.ClassFile.FieldType), Jvm.Cond.code ({ cls := "java/lang/StringBuilder", name := "toString", desc := "()Ljava/lang/String;" } : Jvm.MethodName) jdk_67_method_42_code (1 : Nat) (Option.some (Jvm.ClassFile.FieldType.object "java/lang/String")), Jvm.Cond.code ({ cls := "java/lang/String", name := "<init>", desc := "(Ljava/lang/StringBuilder;)V" } : Jvm.MethodName) jdk_42_method_53_code (2 : Nat) (Option.none : Option Jvm.ClassFile.FieldType), Jvm.Cond.code ({ cls := "java/lang/String", name := "<init>", desc := "(Ljava/lang/AbstractStringBuilder;Ljava/lang/Void;)V" } : Jvm.MethodName) jdk_42_method_150_code (5 : Nat) (Option.none : Option Jvm.ClassFile.FieldType), Jvm.Cond.code ({ cls := "java/lang/AbstractStringBuilder", name := "getValue", desc := "()[B" } : Jvm.MethodName) jdk_68_method_64_code (1 : Nat) (Option.some (Jvm.ClassFile.FieldType.array Jvm.ClassFile.FieldType.byte)), Jvm.Cond.code ({ cls := "java/lang/StringBuilder", name := "length", desc := "()I" } : Jvm.MethodName) jdk_67_method_93_code (1 : Nat) (Option.some Jvm.ClassFile.FieldType.int), Jvm.Cond.code ({ cls := "java/lang/AbstractStringBuilder", name := "length", desc := "()I" } : Jvm.MethodName) jdk_68_method_6_code (1 : Nat) (Option.some Jvm.ClassFile.FieldType.int), Jvm.Cond.code ({ cls := "java/util/Arrays", name := "copyOfRange", desc := "([BII)[B" } : Jvm.MethodName) jdk_65_method_132_code (3 : Nat) (Option.some (Jvm.ClassFile.FieldType.array Jvm.ClassFile.FieldType.byte)), Jvm.Cond.code ({ cls := "java/util/Arrays", name := "copyOfRangeByte", desc := "([BII)[B" } : Jvm.MethodName) jdk_65_method_133_code (5 : Nat) (Option.some (Jvm.ClassFile.FieldType.array Jvm.ClassFile.FieldType.byte)), Jvm.Cond.code ({ cls := "java/util/Arrays", name := "checkLength", desc := "(II)V" } : Jvm.MethodName) jdk_65_method_131_code (2 : Nat) (Option.none : Option Jvm.ClassFile.FieldType), Jvm.Cond.code ({ cls := "java/lang/Math", name := "min", desc := "(II)I" } : Jvm.MethodName) jdk_29_method_69_code (2 : Nat) (Option.some Jvm.ClassFile.FieldType.int), Jvm.Cond.code ({ cls := "java/lang/String", name := "getBytes", desc := "(Ljava/nio/charset/Charset;)[B" } : Jvm.MethodName) jdk_42_method_64_code (2 : Nat) (Option.some (Jvm.ClassFile.FieldType.array Jvm.ClassFile.FieldType.byte)), Jvm.Cond.code ({ cls := "java/lang/String", name := "encode", desc := "(Ljava/nio/charset/Charset;B[B)[B" } : Jvm.MethodName) jdk_42_method_18_code (3 : Nat) (Option.some (Jvm.ClassFile.FieldType.array Jvm.ClassFile.FieldType.byte)), Jvm.Cond.code ({ cls := "java/lang/String", name := "encodeUTF8", desc := "(B[BZ)[B" } : Jvm.MethodName) jdk_42_method_46_code (9 : Nat) (Option.some (Jvm.ClassFile.FieldType.array Jvm.ClassFile.FieldType.byte)), Jvm.Cond.code ({ cls := "java/lang/StringCoding", name := "hasNegatives", desc := "([BII)Z" } : Jvm.MethodName) jdk_123_method_2_code (3 : Nat) (Option.some Jvm.ClassFile.FieldType.boolean), Jvm.Cond.code ({ cls := "java/lang/StringCoding", name := "countPositives", desc := "([BII)I" } : Jvm.MethodName) jdk_123_method_3_code (5 : Nat) (Option.some Jvm.ClassFile.FieldType.int), Jvm.Cond.code ({ cls := "com/example/musterpoint/musterpoint/registry/ProblemBodyPinLaw", name := "same", desc := "([B[BI)Z" } : Jvm.MethodName) method_5_code (3 : Nat) (Option.some Jvm.ClassFile.FieldType.boolean), Jvm.Cond.code ({ cls := "java/lang/String", name := "<init>", desc := "([C)V" } : Jvm.MethodName) jdk_42_method_3_code (2 : Nat) (Option.none : Option Jvm.ClassFile.FieldType), Jvm.Cond.code ({ cls := "java/lang/String", name := "<init>", desc := "([CIILjava/lang/Void;)V" } : Jvm.MethodName) jdk_42_method_149_code (6 : Nat) (Option.none : Option Jvm.ClassFile.FieldType), Jvm.Cond.code ({ cls := "com/example/musterpoint/musterpoint/registry/ProblemBodyPinLaw", name := "enc", desc := "(C[BI)I" } : Jvm.MethodName) method_4_code (4 : Nat) (Option.some Jvm.ClassFile.FieldType.int), Jvm.Cond.code ({ cls := "java/lang/StringUTF16", name := "compress", desc := "([CII)[B" } : Jvm.MethodName) jdk_52_method_16_code (6 : Nat) (Option.some (Jvm.ClassFile.FieldType.array Jvm.ClassFile.FieldType.byte)), Jvm.Cond.code ({ cls := "java/lang/StringUTF16", name := "compress", desc := "([CI[BII)I" } : Jvm.MethodName) jdk_52_method_21_code (7 : Nat) (Option.some Jvm.ClassFile.FieldType.int), Jvm.Cond.code ({ cls := "java/lang/StringUTF16", name := "toBytes", desc := "([CII)[B" } : Jvm.MethodName) jdk_52_method_14_code (5 : Nat) (Option.some (Jvm.ClassFile.FieldType.array Jvm.ClassFile.FieldType.byte)), Jvm.Cond.code ({ cls := "java/lang/StringUTF16", name := "newBytesFor", desc := "(I)[B" } : Jvm.MethodName) jdk_52_method_2_code (1 : Nat) (Option.some (Jvm.ClassFile.FieldType.array Jvm.ClassFile.FieldType.byte)), Jvm.Cond.code ({ cls := "java/lang/StringUTF16", name := "newBytesLength", desc := "(I)I" } : Jvm.MethodName) jdk_52_method_3_code (1 : Nat) (Option.some Jvm.ClassFile.FieldType.int), Jvm.Cond.code ({ cls := "java/lang/StringUTF16", name := "putChar", desc := "([BII)V" } : Jvm.MethodName) jdk_52_method_4_code (3 : Nat) (Option.none : Option Jvm.ClassFile.FieldType), Jvm.Cond.code ({ cls := "java/lang/StringUTF16", name := "getChar", desc := "([BI)C" } : Jvm.MethodName) jdk_52_method_5_code (2 : Nat) (Option.some Jvm.ClassFile.FieldType.char), Jvm.Cond.code ({ cls := "java/lang/StringUTF16", name := "coderFromArrayLen", desc := "([BI)B" } : Jvm.MethodName) jdk_52_method_15_code (2 : Nat) (Option.some Jvm.ClassFile.FieldType.byte), Jvm.Cond.code ({ cls := "java/lang/AbstractStringBuilder", name := "inflate", desc := "()V" } : Jvm.MethodName) jdk_68_method_11_code (2 : Nat) (Option.none : Option Jvm.ClassFile.FieldType), Jvm.Cond.code ({ cls := "java/lang/StringLatin1", name := "inflate", desc := "([BI[BII)V" } : Jvm.MethodName) jdk_43_method_50_code (5 : Nat) (Option.none : Option Jvm.ClassFile.FieldType), Jvm.Cond.code ({ cls := "java/lang/StringUTF16", name := "inflate", desc := "([BI[BII)V" } : Jvm.MethodName) jdk_52_method_86_code (6 : Nat) (Option.none : Option Jvm.ClassFile.FieldType), Jvm.Cond.code ({ cls := "java/lang/StringUTF16", name := "checkBoundsOffCount", desc := "(II[B)V" } : Jvm.MethodName) jdk_52_method_94_code (3 : Nat) (Option.none : Option Jvm.ClassFile.FieldType), Jvm.Cond.code ({ cls := "java/lang/StringUTF16", name := "length", desc := "([B)I" } : Jvm.MethodName) jdk_52_method_6_code (1 : Nat) (Option.some Jvm.ClassFile.FieldType.int), Jvm.Cond.code ({ cls := "java/lang/String", name := "checkBoundsOffCount", desc := "(III)I" } : Jvm.MethodName) jdk_42_method_157_code (3 : Nat) (Option.some Jvm.ClassFile.FieldType.int), Jvm.Cond.code ({ cls := "jdk/internal/util/Preconditions", name := "checkFromIndexSize", desc := "(IIILjava/util/function/BiFunction;)I" } : Jvm.MethodName) jdk_41_method_13_code (4 : Nat) (Option.some Jvm.ClassFile.FieldType.int), Jvm.Cond.code ({ cls := "java/lang/String", name := "encodeUTF8_UTF16", desc := "([BZ)[B" } : Jvm.MethodName) jdk_42_method_47_code (9 : Nat) (Option.some (Jvm.ClassFile.FieldType.array Jvm.ClassFile.FieldType.byte)), Jvm.Cond.code ({ cls := "java/lang/Character", name := "isSurrogate", desc := "(C)Z" } : Jvm.MethodName) jdk_89_method_16_code (1 : Nat) (Option.some Jvm.ClassFile.FieldType.boolean), Jvm.Cond.code ({ cls := "java/util/Arrays", name := "copyOf", desc := "([BI)[B" } : Jvm.MethodName) jdk_65_method_121_code (3 : Nat) (Option.some (Jvm.ClassFile.FieldType.array Jvm.ClassFile.FieldType.byte))]
set_option maxRecDepth 65536 in
theorem codes_eq : words1.filter isCode = codes1 := rfl
theorem w_codes : ∀ c ∈ words1.filter isCode, c.before args0 about1 = true := by
  rw [codes_eq]
  intro c hc
  simp only [codes1, List.mem_cons, List.not_mem_nil, or_false] at hc
  rcases hc with rfl | rfl | rfl | rfl | rfl | rfl | rfl | rfl | rfl | rfl | rfl | rfl | rfl | rfl | rfl | rfl | rfl | rfl | rfl | rfl | rfl | rfl | rfl | rfl | rfl | rfl | rfl | rfl | rfl | rfl | rfl | rfl | rfl | rfl | rfl | rfl | rfl | rfl | rfl | rfl | rfl | rfl | rfl | rfl | rfl | rfl | rfl | rfl | rfl | rfl | rfl | rfl | rfl | rfl | rfl | rfl | rfl
  · exact w_c0
  · exact w_c1
  · exact w_c2
  · exact w_c3
  · exact w_c4
  · exact w_c5
  · exact w_c6
  · exact w_c7
  · exact w_c8
  · exact w_c9
  · exact w_c10
  · exact w_c11
  · exact w_c12
  · exact w_c13
  · exact w_c14
  · exact w_c15
  · exact w_c16
  · exact w_c17
  · exact w_c18
  · exact w_c19
  · exact w_c20
  · exact w_c21
  · exact w_c22
  · exact w_c23
  · exact w_c24
  · exact w_c25
  · exact w_c26
  · exact w_c27
  · exact w_c28
  · exact w_c29
  · exact w_c30
  · exact w_c31
  · exact w_c32
  · exact w_c33
  · exact w_c34
  · exact w_c35
  · exact w_c36
  · exact w_c37
  · exact w_c38
  · exact w_c39
  · exact w_c40
  · exact w_c41
  · exact w_c42
  · exact w_c43
  · exact w_c44
  · exact w_c45
  · exact w_c46
  · exact w_c47
  · exact w_c48
  · exact w_c49
  · exact w_c50
  · exact w_c51
  · exact w_c52
  · exact w_c53
  · exact w_c54
  · exact w_c55
  · exact w_c56
set_option maxRecDepth 65536 in
theorem w_t1 : (words1.take 24).all (fun c => isCode c || c.before args0 about1) = true := by decide +kernel
set_option maxRecDepth 65536 in
theorem w_t2 : ((words1.drop 24).take 24).all (fun c => isCode c || c.before args0 about1) = true := by decide +kernel
set_option maxRecDepth 65536 in
theorem w_t3 : (((words1.drop 24).drop 24).take 24).all (fun c => isCode c || c.before args0 about1) = true := by decide +kernel
set_option maxRecDepth 65536 in
theorem w_t4 : ((((words1.drop 24).drop 24).drop 24).take 24).all (fun c => isCode c || c.before args0 about1) = true := by decide +kernel
set_option maxRecDepth 65536 in
theorem w_t5 : (((((words1.drop 24).drop 24).drop 24).drop 24).take 24).all (fun c => isCode c || c.before args0 about1) = true := by decide +kernel
set_option maxRecDepth 65536 in
theorem w_t6 : ((((((words1.drop 24).drop 24).drop 24).drop 24).drop 24).take 24).all (fun c => isCode c || c.before args0 about1) = true := by decide +kernel
set_option maxRecDepth 65536 in
theorem w_t7 : (((((((words1.drop 24).drop 24).drop 24).drop 24).drop 24).drop 24).take 24).all (fun c => isCode c || c.before args0 about1) = true := by decide +kernel
set_option maxRecDepth 65536 in
theorem w_t8 : ((((((((words1.drop 24).drop 24).drop 24).drop 24).drop 24).drop 24).drop 24).take 24).all (fun c => isCode c || c.before args0 about1) = true := by decide +kernel
set_option maxRecDepth 65536 in
theorem w_t9 : (((((((((words1.drop 24).drop 24).drop 24).drop 24).drop 24).drop 24).drop 24).drop 24).take 24).all (fun c => isCode c || c.before args0 about1) = true := by decide +kernel
set_option maxRecDepth 65536 in
theorem w_t10 : ((((((((((words1.drop 24).drop 24).drop 24).drop 24).drop 24).drop 24).drop 24).drop 24).drop 24).take 24).all (fun c => isCode c || c.before args0 about1) = true := by decide +kernel
set_option maxRecDepth 65536 in
theorem w_t11 : (((((((((((words1.drop 24).drop 24).drop 24).drop 24).drop 24).drop 24).drop 24).drop 24).drop 24).drop 24).take 24).all (fun c => isCode c || c.before args0 about1) = true := by decide +kernel
set_option maxRecDepth 65536 in
theorem w_t12 : ((((((((((((words1.drop 24).drop 24).drop 24).drop 24).drop 24).drop 24).drop 24).drop 24).drop 24).drop 24).drop 24).take 24).all (fun c => isCode c || c.before args0 about1) = true := by decide +kernel
set_option maxRecDepth 65536 in
theorem w_t13 : ((((((((((((words1.drop 24).drop 24).drop 24).drop 24).drop 24).drop 24).drop 24).drop 24).drop 24).drop 24).drop 24).drop 24).all (fun c => isCode c || c.before args0 about1) = true := by decide +kernel
theorem w_tables : (allAtoms (Jvm.Cond.code x code maxLocals ret :: tables_1)).before args0 about1 = true := by
  rw [allAtoms_all]
  show words1.all (fun c => c.before args0 about1) = true
  refine all_split ?_ w_codes
  rw [← List.take_append_drop 24 words1, List.all_append, w_t1, ← List.take_append_drop 24 (words1.drop 24), List.all_append, w_t2, ← List.take_append_drop 24 ((words1.drop 24).drop 24), List.all_append, w_t3, ← List.take_append_drop 24 (((words1.drop 24).drop 24).drop 24), List.all_append, w_t4, ← List.take_append_drop 24 ((((words1.drop 24).drop 24).drop 24).drop 24), List.all_append, w_t5, ← List.take_append_drop 24 (((((words1.drop 24).drop 24).drop 24).drop 24).drop 24), List.all_append, w_t6, ← List.take_append_drop 24 ((((((words1.drop 24).drop 24).drop 24).drop 24).drop 24).drop 24), List.all_append, w_t7, ← List.take_append_drop 24 (((((((words1.drop 24).drop 24).drop 24).drop 24).drop 24).drop 24).drop 24), List.all_append, w_t8, ← List.take_append_drop 24 ((((((((words1.drop 24).drop 24).drop 24).drop 24).drop 24).drop 24).drop 24).drop 24), List.all_append, w_t9, ← List.take_append_drop 24 (((((((((words1.drop 24).drop 24).drop 24).drop 24).drop 24).drop 24).drop 24).drop 24).drop 24), List.all_append, w_t10, ← List.take_append_drop 24 ((((((((((words1.drop 24).drop 24).drop 24).drop 24).drop 24).drop 24).drop 24).drop 24).drop 24).drop 24), List.all_append, w_t11, ← List.take_append_drop 24 (((((((((((words1.drop 24).drop 24).drop 24).drop 24).drop 24).drop 24).drop 24).drop 24).drop 24).drop 24).drop 24), List.all_append, w_t12, w_t13]
  rfl
set_option maxRecDepth 65536 in
theorem w_rest : rest_1_c.before args0 about1 = true := by decide +kernel
set_option maxRecDepth 65536 in
theorem w_case : (Jvm.Cond.and given_1 narrow_1).before args0 about1 = true := by decide +kernel
set_option maxRecDepth 65536 in
theorem w_consts : constsHeld consts_1 about1 := Jvm.Lit.constsHeldB_iff.mp (by decide +kernel)
theorem w_applies : (headSpec (Jvm.Cond.code x code maxLocals ret :: tables_1) room_1).applies x e0.platform about1 = true :=
  (Spec.applies_iff w_frames).mpr ⟨w_running, w_runnable, w_alone, w_named, w_hears, w_ripe, w_room, w_tables⟩
theorem atStart : AtStart classFile x code maxLocals ret World_1 tables_1 room_1 Calls_1 rest_1 Pre_1 launch0 p0 e0 about1 theMethod args0 below0 :=
  ⟨lists_1, trivial, launch0.admits_env _ _ _, launch0.least_env, fairChoices_fair.cas, fairChoices_fair.clock, w_frames, w_args, w_heap, w_applies, ⟨w_consts, trivial⟩, w_rest, w_case⟩
end start1
theorem witness_1 : WitnessClaimed_1 := ⟨start1.p0, start1.e0, start1.about1, start1.theMethod, start1.args0, start1.below0, start1.atStart⟩
end Jvm.Pilot.@@N@@
