import JvmDerived
import JvmDerived.Pilot.@@N@@Statement
import JvmDerived.Pilot.@@N@@Code
set_option linter.unusedVariables false
set_option linter.unusedSimpArgs false
@@BLOCK:NumsL.lean.txt@@
namespace Jvm.Own
open Sem ClassFile Op Lib Jvm.Stand Jvm.Free Jvm.LawKit Jvm.RoadKit
/-- what is known of one object made since the law began: an array with all its values, or an object with some of its fields -/
abbrev D : Type := Sum (FieldType × List Value) (String × List ((String × String × String) × Value))
abbrev Hp : Type := List (Nat × D)
abbrev ia (xs : List Int32) : D := .inl (.int, xs.map Value.int)
abbrev la (xs : List Int64) : D := .inl (.long, xs.map Value.long)
abbrev ba (xs : List Int32) : D := .inl (.byte, xs.map Value.int)
def OkD (Z : State) (h : Heap) (a : Nat) (d : D) : Prop :=
  match d with
  | .inl q => ∃ c : Cell, Arr Z h a c q.1 ∧ c.slots = q.2.toArray ∧ Exa Z h a ("[" ++ q.1.toString)
  | .inr q => Exa Z h a q.1 ∧ ∀ (j : Nat) (f : (String × String × String) × Value), q.2[j]? = some f → Fld Z h a f.1.1 f.1.2.1 f.1.2.2 f.2
def HL (Z : State) (h0 : Heap) (ds : Hp) (h : Heap) : Prop :=
  Ext h0 h ∧ (∀ (i : Nat) (q : Nat × D), ds[i]? = some q → h0.size ≤ q.1 ∧ OkD Z h q.1 q.2) ∧ ∀ (i j : Nat) (q r : Nat × D), ds[i]? = some q → ds[j]? = some r → q.1 = r.1 → i = j
theorem OkD.lt {Z : State} {h : Heap} {a : Nat} {d : D} (O : OkD Z h a d) : a < h.size := by
  cases d with
  | inl q => obtain ⟨c, A, -⟩ := O; exact A.lt
  | inr q => exact O.1.lt
theorem OkD.ext {Z : State} {h h' : Heap} {a : Nat} {d : D} (E : Ext h h') (O : OkD Z h a d) : OkD Z h' a d := by
  cases d with
  | inl q => obtain ⟨c, A, S, X⟩ := O; exact ⟨c, A.ext E, S, X.ext E⟩
  | inr q => exact ⟨O.1.ext E, fun j f hf => (O.2 j f hf).ext E⟩
theorem OkD.other {Z : State} {h h' : Heap} {a b : Nat} {d : D} {sl : Nat} {v : Value} (W : Wr h h' a sl v) (O : OkD Z h b d) (hne : b ≠ a) : OkD Z h' b d := by
  cases d with
  | inl q => obtain ⟨c, A, S, X⟩ := O; exact ⟨c, A.other W hne, S, X.wr W⟩
  | inr q => exact ⟨O.1.wr W, fun j f hf => (O.2 j f hf).other W (Or.inl hne)⟩
theorem HL.nil (Z : State) (h0 : Heap) : HL Z h0 [] h0 :=
  ⟨⟨Nat.le_refl _, fun _ _ q => q⟩, fun i q hq => by simp at hq, fun i j q r hq => by simp at hq⟩
theorem HL.lts {Z : State} {h0 h : Heap} {ds : Hp} (H : HL Z h0 ds h) : ∀ q ∈ ds, q.1 < h.size := fun q hq => by
  obtain ⟨i, hi⟩ := List.mem_iff_getElem?.mp hq
  exact (H.2.1 i q hi).2.lt
theorem HL.new {Z : State} {h0 h h' : Heap} {ds : Hp} {d : D} (H : HL Z h0 ds h) (E : Ext h h') (O : OkD Z h' h.size d) : HL Z h0 (ds ++ [(h.size, d)]) h' := by
  refine ⟨⟨Nat.le_trans H.1.1 E.1, fun a c q => E.2 a c (H.1.2 a c q)⟩, fun i q hq => ?_, fun i j q r hq hr he => ?_⟩
  · rcases Nat.lt_or_ge i ds.length with hi | hi
    · rw [List.getElem?_append_left hi] at hq
      exact ⟨(H.2.1 i q hq).1, (H.2.1 i q hq).2.ext E⟩
    · rw [List.getElem?_append_right hi] at hq
      obtain ⟨hz, rfl⟩ : i - ds.length = 0 ∧ (h.size, d) = q := by
        rcases Nat.eq_zero_or_pos (i - ds.length) with z | z
        · rw [z] at hq; exact ⟨z, by simpa using hq⟩
        · rw [List.getElem?_eq_none (by simp; omega)] at hq; cases hq
      exact ⟨H.1.1, O⟩
  · have key : ∀ i (q : Nat × D), (ds ++ [(h.size, d)])[i]? = some q → (i < ds.length ∧ ds[i]? = some q ∧ q.1 < h.size) ∨ (i = ds.length ∧ q.1 = h.size) := fun i q hq => by
      rcases Nat.lt_or_ge i ds.length with hi | hi
      · rw [List.getElem?_append_left hi] at hq
        exact Or.inl ⟨hi, hq, (H.2.1 i q hq).2.lt⟩
      · rw [List.getElem?_append_right hi] at hq
        rcases Nat.eq_zero_or_pos (i - ds.length) with z | z
        · rw [z] at hq
          have e : (h.size, d) = q := by simpa using hq
          exact Or.inr ⟨by omega, by rw [← e]⟩
        · rw [List.getElem?_eq_none (by simp; omega)] at hq; cases hq
    rcases key i q hq with ⟨-, a2, a3⟩ | ⟨a1, a2⟩ <;> rcases key j r hr with ⟨-, b2, b3⟩ | ⟨b1, b2⟩
    · exact H.2.2 i j q r a2 b2 he
    · omega
    · omega
    · omega
theorem HL.set {Z : State} {h0 h h' : Heap} {ds : Hp} {i a sl : Nat} {d d' : D} {v : Value} (H : HL Z h0 ds h) (ha : ds[i]? = some (a, d)) (W : Wr h h' a sl v) (O : OkD Z h' a d') : HL Z h0 (ds.set i (a, d')) h' := by
  have hge := (H.2.1 i _ ha).1
  have hi : i < ds.length := (List.getElem?_eq_some_iff.mp ha).1
  have key : ∀ j (q : Nat × D), (ds.set i (a, d'))[j]? = some q → (j = i ∧ q = (a, d')) ∨ (j ≠ i ∧ ds[j]? = some q) := fun j q hq => by
    rw [List.getElem?_set] at hq
    by_cases e : i = j
    · subst e; rw [if_pos rfl, if_pos hi] at hq; exact Or.inl ⟨rfl, (Option.some.inj hq).symm⟩
    · rw [if_neg e] at hq; exact Or.inr ⟨fun x => e x.symm, hq⟩
  refine ⟨⟨by rw [W.size]; exact H.1.1, fun b c q => ?_⟩, fun j q hq => ?_, fun j k q r hq hr he => ?_⟩
  · have hb := H.1.2 b c q
    obtain ⟨c', e1, -, -, -, e5, -⟩ := wr_at W hb
    have hlt : b < h0.size := (Array.getElem?_eq_some_iff.mp q).1
    rw [← e5 (fun e => by subst e; exact absurd hlt (Nat.not_lt.mpr hge))]; exact e1
  · rcases key j q hq with ⟨-, rfl⟩ | ⟨hne, hq'⟩
    · exact ⟨hge, O⟩
    · exact ⟨(H.2.1 j q hq').1, (H.2.1 j q hq').2.other W fun e => hne (H.2.2 j i q _ hq' ha e)⟩
  · have ad : ∀ j (q : Nat × D), (ds.set i (a, d'))[j]? = some q → ∃ q' : Nat × D, ds[j]? = some q' ∧ q'.1 = q.1 := fun j q hq => by
      rcases key j q hq with ⟨rfl, rfl⟩ | ⟨-, hq'⟩
      · exact ⟨_, ha, rfl⟩
      · exact ⟨q, hq', rfl⟩
    obtain ⟨q', a1, a2⟩ := ad j q hq
    obtain ⟨r', b1, b2⟩ := ad k r hr
    exact H.2.2 j k q' r' a1 b1 (by rw [a2, b2]; exact he)
abbrev Cx : Type := Program × Launch × Env × Room × State × MethodId × Array Value × List Frame × Method × Code × State × Heap
/-- FROM HERE THE BODY RUNS TO ITS RETURN, and what it returns and leaves is as Q says -/
def Go (W : Cx) (Q : Option Value → Hp → Prop) (ds : Hp) (k n pc : Nat) (Ls : Array Slot) (st : List Value) : Prop :=
  match W with
  | (p, l, e, R, s, m, args, below, meth, c, Z, h0) =>
    ∀ (T : State) (L : List Loc), Fr h0.size L → Stand p l e R s m args below meth c T L k n → HL Z h0 ds T.heap →
      ∃ (s₂ : State) (v : Option Value), Steps p.tables e below (T.setTop (mkF m pc Ls st)) s₂ ∧ s₂.status = .running ∧ Ended s₂ below (.returned v) ∧
        ∃ (L' : List Loc) (ds' : Hp), Fr h0.size L' ∧ HL Z h0 ds' s₂.heap ∧ Q v ds' ∧ FrameEnd s (.returned v) s₂ L' R.cells R.slots
/-- what a body's walk knows -/
def Ok (W : Cx) (B : ByteArray) (y : MethodName) (rm : Room) (mL : Nat) (ret : Option FieldType) (l : Launch) (Z : State) (h0 : Heap) : Prop :=
  match W with
  | (p, l', _, R, s, m, _, _, meth, c, Z', h0') => p.tables.exec = Jvm.exec ∧ Z.Warmed39 s.vm ∧ c.code = B ∧ c.maxLocals = mL ∧ s.vm.findClass y.cls = some m.cls ∧ meth.sig.returnType = ret ∧ meth.locks = false ∧ meth.name = y.name ∧ R = rm ∧ l' = l ∧ Z' = Z ∧ h0' = h0
def Ct (l : Launch) (Z : State) (h0 : Heap) (y : MethodName) (B : ByteArray) (mL : Nat) (ret : Option FieldType) (ws : List Jvm.Cond) (rm : Room) (as : Array Value) (ds : Hp) (Q : Option Value → Hp → Prop) : Prop :=
  ∀ h, HL Z h0 ds h → MetFree l y (head1 (Jvm.Cond.code y B mL ret :: ws) rm) (fun a U => a = as ∧ Z.Warmed39 U.vm ∧ U.heap = h) (fun _ _ _ _ _ => True)
    (fun _ U o U' => ∃ v L, o = .returned v ∧ (Fr h0.size L ∧ ∃ ds', HL Z h0 ds' U'.heap ∧ Q v ds') ∧ FrameEnd U o U' L rm.cells rm.slots)
theorem Ct.of_go {l : Launch} {Z : State} {h0 : Heap} {y : MethodName} {B : ByteArray} {mL : Nat} {ret : Option FieldType} {ws : List Jvm.Cond} {rm : Room} {as : Array Value} {ds : Hp} {Q : Option Value → Hp → Prop} {Ls : Array Slot}
    (hpn : plainFor y = true) (ef : ∀ m, entryFrame m as mL = mkF m 0 Ls []) (body : ∀ W, Ok W B y rm mL ret l Z h0 → Go W Q ds 0 0 0 Ls []) : Ct l Z h0 y B mL ret ws rm as ds Q := by
  intro h H
  refine MetFree.of_bodySF hpn hisR ?_
  intro p e s m args below meth c s₁ Bd hml0 hP hK
  obtain ⟨rfl, hZ, hh⟩ := hP
  have X0 : Stand p l e rm s m args below meth c s₁ [] 0 0 := Stand.of_body Bd
  have e0 : s₁.heap = h := by rw [← hh, Bd.state]; rfl
  obtain ⟨s₂, v, h1, h2, h3, L', ds', h4, h5, h6, h7⟩ := body (p, l, e, rm, s, m, args, below, meth, c, Z, h0) ⟨Bd.exec, hZ, Bd.bytes, hml0, findClass_of_methodNamed Bd.named, Bd.returns, Bd.notSynchronized, (name_of_methodNamed Bd.named Bd.method).1, rfl, rfl, rfl, rfl⟩ s₁ [] (Fr.nil _) X0 (by rw [e0]; exact H)
  exact ⟨s₂, .returned v, castTop (ef m) h1, h2, h3, v, L', rfl, ⟨h4, ds', h5, h6⟩, h7⟩
theorem Ct.mono {l : Launch} {Z : State} {h0 : Heap} {y : MethodName} {B : ByteArray} {mL : Nat} {ret : Option FieldType} {ws : List Jvm.Cond} {rm : Room} {as : Array Value} {ds : Hp} {Q Q' : Option Value → Hp → Prop}
    (h : Ct l Z h0 y B mL ret ws rm as ds Q) (f : ∀ v ds', Q v ds' → Q' v ds') : Ct l Z h0 y B mL ret ws rm as ds Q' := by
  intro hp H p e ha hc hk s m args below hf happ hP hK
  obtain ⟨n, o, h1, h2, h3, v, L, h4, ⟨h5, ds', h6, h7⟩, h8⟩ := h hp H p e ha hc hk s m args below hf happ hP hK
  exact ⟨n, o, h1, h2, h3, v, L, h4, ⟨h5, ds', h6, f _ _ h7⟩, h8⟩
section Steps
variable {W : Cx} {B : ByteArray} {y : MethodName} {rm : Room} {mL : Nat} {ret : Option FieldType} {l : Launch} {Z : State} {h0 : Heap} {Q : Option Value → Hp → Prop} {ds : Hp} {k n pc pc' : Nat} {Ls Ls' : Array Slot} {st st' : List Value} {a0 : Array Value}
theorem Go.mono {Q' : Option Value → Hp → Prop} (g : Go W Q ds k n pc Ls st) (f : ∀ v ds', Q v ds' → Q' v ds') : Go W Q' ds k n pc Ls st := by
  obtain ⟨p, l, e, R, s, m, args, below, meth, c, Z, h0⟩ := W
  intro T L N X H
  obtain ⟨s₂, v, h1, h2, h3, L', ds', h4, h5, h6, h7⟩ := g T L N X H
  exact ⟨s₂, v, h1, h2, h3, L', ds', h4, h5, f _ _ h6, h7⟩
theorem go_of (K : Ok W B y rm mL ret l Z h0)
    (f : ∀ {p : Program} {l : Launch} {e : Env} {R : Room} {s : State} {m : MethodId} {args : Array Value} {below : List Frame} {meth : Method} {c : Code} {T : State} {L : List Loc}, p.tables.exec = Jvm.exec → c.code = B → s.vm.findClass y.cls = some m.cls → Z.Warmed39 s.vm →
      Stand p l e R s m args below meth c T L k n → ∀ t, Steps p.tables e below (T.setTop (mkF m pc' Ls' st')) t → Steps p.tables e below (T.setTop (mkF m pc Ls st)) t)
    (hr : Go W Q ds k n pc' Ls' st') : Go W Q ds k n pc Ls st := by
  obtain ⟨p, l, e, R, s, m, args, below, meth, c, Z, h0⟩ := W
  obtain ⟨k1, k2, k3, k4, k5, k6, k7, k8, rfl, rfl, rfl, rfl⟩ := K
  intro T L N X H
  obtain ⟨s₂, v, h1, rest⟩ := hr T L N X H
  exact ⟨s₂, v, f k1 k3 k5 k2 X s₂ h1, rest⟩

theorem go_iload (K : Ok W B y rm mL ret l Z h0) {i : Nat} {v : Int32} (hd : decode B pc = .ok (.iload i, 2)) (hl : Ls[i]? = some (.val (.int v))) (hp : pc + 2 = pc')
    (hr : Go W Q ds k n pc' Ls (.int v :: st)) : Go W Q ds k n pc Ls st := by
  subst hp
  exact go_of K (fun hx hby hown hZ X t h => XS.iload X.here hx rfl (hb hby hd) hl h) hr
theorem go_aload (K : Ok W B y rm mL ret l Z h0) {i : Nat} {v : Value} (hd : decode B pc = .ok (.aload i, 2)) (hl : Ls[i]? = some (.val v)) (hv : v.isRef = true) (hp : pc + 2 = pc')
    (hr : Go W Q ds k n pc' Ls (v :: st)) : Go W Q ds k n pc Ls st := by
  subst hp
  exact go_of K (fun hx hby hown hZ X t h => XS.aload X.here hx rfl (hb hby hd) hl hv h) hr
theorem go_lload (K : Ok W B y rm mL ret l Z h0) {i : Nat} {v : Int64} (hd : decode B pc = .ok (.lload i, 2)) (hl : Ls[i]? = some (.val (.long v))) (hp : pc + 2 = pc')
    (hr : Go W Q ds k n pc' Ls (.long v :: st)) : Go W Q ds k n pc Ls st := by
  subst hp
  exact go_of K (fun hx hby hown hZ X t h => XT.lload X.here hx rfl (hb hby hd) hl h) hr
theorem go_istore (K : Ok W B y rm mL ret l Z h0) {i : Nat} {x : Int32} (hd : decode B pc = .ok (.istore i, 2)) (hl : storeLocals Ls i (.int x) = some Ls') (hp : pc + 2 = pc')
    (hr : Go W Q ds k n pc' Ls' st) : Go W Q ds k n pc Ls (.int x :: st) := by
  subst hp
  exact go_of K (fun hx hby hown hZ X t h => XS.istore X.here hx rfl (hb hby hd) rfl hl h) hr
theorem go_astore (K : Ok W B y rm mL ret l Z h0) {i : Nat} {x : Value} (hd : decode B pc = .ok (.astore i, 2)) (hv : x.isRef = true) (hl : storeLocals Ls i x = some Ls') (hp : pc + 2 = pc')
    (hr : Go W Q ds k n pc' Ls' st) : Go W Q ds k n pc Ls (x :: st) := by
  subst hp
  exact go_of K (fun hx hby hown hZ X t h => XS.astore X.here hx rfl (hb hby hd) rfl hv hl h) hr
theorem go_lstore (K : Ok W B y rm mL ret l Z h0) {i : Nat} {x : Int64} (hd : decode B pc = .ok (.lstore i, 2)) (hl : storeLocals Ls i (.long x) = some Ls') (hp : pc + 2 = pc')
    (hr : Go W Q ds k n pc' Ls' st) : Go W Q ds k n pc Ls (.long x :: st) := by
  subst hp
  exact go_of K (fun hx hby hown hZ X t h => XT.lstore X.here hx rfl (hb hby hd) rfl hl h) hr
theorem go_iloadN (K : Ok W B y rm mL ret l Z h0) {i : Fin 4} {v : Int32} (hd : decode B pc = .ok (.iload_n i, 1)) (hl : Ls[i.val]? = some (.val (.int v))) (hp : pc + 1 = pc')
    (hr : Go W Q ds k n pc' Ls (.int v :: st)) : Go W Q ds k n pc Ls st := by
  subst hp
  exact go_of K (fun hx hby hown hZ X t h => XS.iloadN X.here hx rfl (hb hby hd) hl h) hr
theorem go_aloadN (K : Ok W B y rm mL ret l Z h0) {i : Fin 4} {v : Value} (hd : decode B pc = .ok (.aload_n i, 1)) (hl : Ls[i.val]? = some (.val v)) (hv : v.isRef = true) (hp : pc + 1 = pc')
    (hr : Go W Q ds k n pc' Ls (v :: st)) : Go W Q ds k n pc Ls st := by
  subst hp
  exact go_of K (fun hx hby hown hZ X t h => XS.aloadN X.here hx rfl (hb hby hd) hl hv h) hr
theorem go_lloadN (K : Ok W B y rm mL ret l Z h0) {i : Fin 4} {v : Int64} (hd : decode B pc = .ok (.lload_n i, 1)) (hl : Ls[i.val]? = some (.val (.long v))) (hp : pc + 1 = pc')
    (hr : Go W Q ds k n pc' Ls (.long v :: st)) : Go W Q ds k n pc Ls st := by
  subst hp
  exact go_of K (fun hx hby hown hZ X t h => XT.lloadN X.here hx rfl (hb hby hd) hl h) hr
theorem go_istoreN (K : Ok W B y rm mL ret l Z h0) {i : Fin 4} {x : Int32} (hd : decode B pc = .ok (.istore_n i, 1)) (hl : storeLocals Ls i.val (.int x) = some Ls') (hp : pc + 1 = pc')
    (hr : Go W Q ds k n pc' Ls' st) : Go W Q ds k n pc Ls (.int x :: st) := by
  subst hp
  exact go_of K (fun hx hby hown hZ X t h => XS.istoreN X.here hx rfl (hb hby hd) rfl hl h) hr
theorem go_astoreN (K : Ok W B y rm mL ret l Z h0) {i : Fin 4} {x : Value} (hd : decode B pc = .ok (.astore_n i, 1)) (hv : x.isRef = true) (hl : storeLocals Ls i.val x = some Ls') (hp : pc + 1 = pc')
    (hr : Go W Q ds k n pc' Ls' st) : Go W Q ds k n pc Ls (x :: st) := by
  subst hp
  exact go_of K (fun hx hby hown hZ X t h => XS.astoreN X.here hx rfl (hb hby hd) rfl hv hl h) hr
theorem go_lstoreN (K : Ok W B y rm mL ret l Z h0) {i : Fin 4} {x : Int64} (hd : decode B pc = .ok (.lstore_n i, 1)) (hl : storeLocals Ls i.val (.long x) = some Ls') (hp : pc + 1 = pc')
    (hr : Go W Q ds k n pc' Ls' st) : Go W Q ds k n pc Ls (.long x :: st) := by
  subst hp
  exact go_of K (fun hx hby hown hZ X t h => XT.lstoreN X.here hx rfl (hb hby hd) rfl hl h) hr
theorem go_iconst (K : Ok W B y rm mL ret l Z h0) {i : Int} {v : Int32} (hd : decode B pc = .ok (.iconst i, 1)) (hv : Int32.ofInt i = v) (hp : pc + 1 = pc')
    (hr : Go W Q ds k n pc' Ls (.int v :: st)) : Go W Q ds k n pc Ls st := by
  subst hp
  exact go_of K (fun hx hby hown hZ X t h => XT.iconstV X.here hx rfl v (hb hby hd) hv h) hr
theorem go_bipush (K : Ok W B y rm mL ret l Z h0) {i : Int} {v : Int32} (hd : decode B pc = .ok (.bipush i, 2)) (hv : (Int8.ofInt i).toInt32 = v) (hp : pc + 2 = pc')
    (hr : Go W Q ds k n pc' Ls (.int v :: st)) : Go W Q ds k n pc Ls st := by
  subst hp
  exact go_of K (fun hx hby hown hZ X t h => XT.bipushV X.here hx rfl v (hb hby hd) hv h) hr
theorem go_sipush (K : Ok W B y rm mL ret l Z h0) {i : Int} {v : Int32} (hd : decode B pc = .ok (.sipush i, 3)) (hv : (Int16.ofInt i).toInt32 = v) (hp : pc + 3 = pc')
    (hr : Go W Q ds k n pc' Ls (.int v :: st)) : Go W Q ds k n pc Ls st := by
  subst hp
  exact go_of K (fun hx hby hown hZ X t h => XT.sipushV X.here hx rfl v (hb hby hd) hv h) hr
theorem go_lconst (K : Ok W B y rm mL ret l Z h0) {i : Fin 2} {v : Int64} (hd : decode B pc = .ok (.lconst i, 1)) (hv : Int64.ofNat i = v) (hp : pc + 1 = pc')
    (hr : Go W Q ds k n pc' Ls (.long v :: st)) : Go W Q ds k n pc Ls st := by
  subst hp
  exact go_of K (fun hx hby hown hZ X t h => XT.lconstV X.here hx rfl v (hb hby hd) hv h) hr
theorem go_null (K : Ok W B y rm mL ret l Z h0)  (hd : decode B pc = .ok (.aconst_null, 1))  (hp : pc + 1 = pc')
    (hr : Go W Q ds k n pc' Ls (.null :: st)) : Go W Q ds k n pc Ls st := by
  subst hp
  exact go_of K (fun hx hby hown hZ X t h => XS.aconstNull X.here hx rfl (hb hby hd) h) hr
theorem go_iadd (K : Ok W B y rm mL ret l Z h0) {x z : Int32} (hd : decode B pc = .ok (.iadd, 1))  (hp : pc + 1 = pc')
    (hr : Go W Q ds k n pc' Ls (.int (x + z) :: st)) : Go W Q ds k n pc Ls (.int z :: .int x :: st) := by
  subst hp
  exact go_of K (fun hx hby hown hZ X t h => XS.iadd X.here hx rfl (hb hby hd) rfl h) hr
theorem go_isub (K : Ok W B y rm mL ret l Z h0) {x z : Int32} (hd : decode B pc = .ok (.isub, 1))  (hp : pc + 1 = pc')
    (hr : Go W Q ds k n pc' Ls (.int (x - z) :: st)) : Go W Q ds k n pc Ls (.int z :: .int x :: st) := by
  subst hp
  exact go_of K (fun hx hby hown hZ X t h => XS.isub X.here hx rfl (hb hby hd) rfl h) hr
theorem go_imul (K : Ok W B y rm mL ret l Z h0) {x z : Int32} (hd : decode B pc = .ok (.imul, 1))  (hp : pc + 1 = pc')
    (hr : Go W Q ds k n pc' Ls (.int (x * z) :: st)) : Go W Q ds k n pc Ls (.int z :: .int x :: st) := by
  subst hp
  exact go_of K (fun hx hby hown hZ X t h => XS.imul X.here hx rfl (hb hby hd) rfl h) hr
theorem go_iand (K : Ok W B y rm mL ret l Z h0) {x z : Int32} (hd : decode B pc = .ok (.iand, 1))  (hp : pc + 1 = pc')
    (hr : Go W Q ds k n pc' Ls (.int (x &&& z) :: st)) : Go W Q ds k n pc Ls (.int z :: .int x :: st) := by
  subst hp
  exact go_of K (fun hx hby hown hZ X t h => XS.iand X.here hx rfl (hb hby hd) rfl h) hr
theorem go_ior (K : Ok W B y rm mL ret l Z h0) {x z : Int32} (hd : decode B pc = .ok (.ior, 1))  (hp : pc + 1 = pc')
    (hr : Go W Q ds k n pc' Ls (.int (x ||| z) :: st)) : Go W Q ds k n pc Ls (.int z :: .int x :: st) := by
  subst hp
  exact go_of K (fun hx hby hown hZ X t h => XT.ior X.here hx rfl (hb hby hd) rfl h) hr
theorem go_ixor (K : Ok W B y rm mL ret l Z h0) {x z : Int32} (hd : decode B pc = .ok (.ixor, 1))  (hp : pc + 1 = pc')
    (hr : Go W Q ds k n pc' Ls (.int (x ^^^ z) :: st)) : Go W Q ds k n pc Ls (.int z :: .int x :: st) := by
  subst hp
  exact go_of K (fun hx hby hown hZ X t h => XT.ixor X.here hx rfl (hb hby hd) rfl h) hr
theorem go_ishl (K : Ok W B y rm mL ret l Z h0) {x z : Int32} (hd : decode B pc = .ok (.ishl, 1))  (hp : pc + 1 = pc')
    (hr : Go W Q ds k n pc' Ls (.int (x <<< (z &&& 31)) :: st)) : Go W Q ds k n pc Ls (.int z :: .int x :: st) := by
  subst hp
  exact go_of K (fun hx hby hown hZ X t h => XT.ishl X.here hx rfl (hb hby hd) rfl h) hr
theorem go_ishr (K : Ok W B y rm mL ret l Z h0) {x z : Int32} (hd : decode B pc = .ok (.ishr, 1))  (hp : pc + 1 = pc')
    (hr : Go W Q ds k n pc' Ls (.int (x >>> (z &&& 31)) :: st)) : Go W Q ds k n pc Ls (.int z :: .int x :: st) := by
  subst hp
  exact go_of K (fun hx hby hown hZ X t h => XT.ishr X.here hx rfl (hb hby hd) rfl h) hr
theorem go_iushr (K : Ok W B y rm mL ret l Z h0) {x z : Int32} (hd : decode B pc = .ok (.iushr, 1))  (hp : pc + 1 = pc')
    (hr : Go W Q ds k n pc' Ls (.int (XT.ushr x z) :: st)) : Go W Q ds k n pc Ls (.int z :: .int x :: st) := by
  subst hp
  exact go_of K (fun hx hby hown hZ X t h => XT.iushr X.here hx rfl (hb hby hd) rfl h) hr
theorem go_ladd (K : Ok W B y rm mL ret l Z h0) {x z : Int64} (hd : decode B pc = .ok (.ladd, 1))  (hp : pc + 1 = pc')
    (hr : Go W Q ds k n pc' Ls (.long (x + z) :: st)) : Go W Q ds k n pc Ls (.long z :: .long x :: st) := by
  subst hp
  exact go_of K (fun hx hby hown hZ X t h => XT.ladd X.here hx rfl (hb hby hd) rfl h) hr
theorem go_lsub (K : Ok W B y rm mL ret l Z h0) {x z : Int64} (hd : decode B pc = .ok (.lsub, 1))  (hp : pc + 1 = pc')
    (hr : Go W Q ds k n pc' Ls (.long (x - z) :: st)) : Go W Q ds k n pc Ls (.long z :: .long x :: st) := by
  subst hp
  exact go_of K (fun hx hby hown hZ X t h => XT.lsub X.here hx rfl (hb hby hd) rfl h) hr
theorem go_lmul (K : Ok W B y rm mL ret l Z h0) {x z : Int64} (hd : decode B pc = .ok (.lmul, 1))  (hp : pc + 1 = pc')
    (hr : Go W Q ds k n pc' Ls (.long (x * z) :: st)) : Go W Q ds k n pc Ls (.long z :: .long x :: st) := by
  subst hp
  exact go_of K (fun hx hby hown hZ X t h => XT.lmul X.here hx rfl (hb hby hd) rfl h) hr
theorem go_land (K : Ok W B y rm mL ret l Z h0) {x z : Int64} (hd : decode B pc = .ok (.land, 1))  (hp : pc + 1 = pc')
    (hr : Go W Q ds k n pc' Ls (.long (x &&& z) :: st)) : Go W Q ds k n pc Ls (.long z :: .long x :: st) := by
  subst hp
  exact go_of K (fun hx hby hown hZ X t h => XT.land X.here hx rfl (hb hby hd) rfl h) hr
theorem go_lor (K : Ok W B y rm mL ret l Z h0) {x z : Int64} (hd : decode B pc = .ok (.lor, 1))  (hp : pc + 1 = pc')
    (hr : Go W Q ds k n pc' Ls (.long (x ||| z) :: st)) : Go W Q ds k n pc Ls (.long z :: .long x :: st) := by
  subst hp
  exact go_of K (fun hx hby hown hZ X t h => XT.lor X.here hx rfl (hb hby hd) rfl h) hr
theorem go_lxor (K : Ok W B y rm mL ret l Z h0) {x z : Int64} (hd : decode B pc = .ok (.lxor, 1))  (hp : pc + 1 = pc')
    (hr : Go W Q ds k n pc' Ls (.long (x ^^^ z) :: st)) : Go W Q ds k n pc Ls (.long z :: .long x :: st) := by
  subst hp
  exact go_of K (fun hx hby hown hZ X t h => XT.lxor X.here hx rfl (hb hby hd) rfl h) hr
theorem go_lshl (K : Ok W B y rm mL ret l Z h0) {x : Int64} {z : Int32} (hd : decode B pc = .ok (.lshl, 1))  (hp : pc + 1 = pc')
    (hr : Go W Q ds k n pc' Ls (.long (x <<< (z.toInt64 &&& 63)) :: st)) : Go W Q ds k n pc Ls (.int z :: .long x :: st) := by
  subst hp
  exact go_of K (fun hx hby hown hZ X t h => XT.lshl X.here hx rfl (hb hby hd) rfl h) hr
theorem go_lshr (K : Ok W B y rm mL ret l Z h0) {x : Int64} {z : Int32} (hd : decode B pc = .ok (.lshr, 1))  (hp : pc + 1 = pc')
    (hr : Go W Q ds k n pc' Ls (.long (x >>> (z.toInt64 &&& 63)) :: st)) : Go W Q ds k n pc Ls (.int z :: .long x :: st) := by
  subst hp
  exact go_of K (fun hx hby hown hZ X t h => XT.lshr X.here hx rfl (hb hby hd) rfl h) hr
theorem go_lushr (K : Ok W B y rm mL ret l Z h0) {x : Int64} {z : Int32} (hd : decode B pc = .ok (.lushr, 1))  (hp : pc + 1 = pc')
    (hr : Go W Q ds k n pc' Ls (.long (XT.ushrL x z) :: st)) : Go W Q ds k n pc Ls (.int z :: .long x :: st) := by
  subst hp
  exact go_of K (fun hx hby hown hZ X t h => XT.lushr X.here hx rfl (hb hby hd) rfl h) hr
theorem go_idiv (K : Ok W B y rm mL ret l Z h0) {x z : Int32} (hd : decode B pc = .ok (.idiv, 1)) (hz : z ≠ 0) (hp : pc + 1 = pc')
    (hr : Go W Q ds k n pc' Ls (.int (x / z) :: st)) : Go W Q ds k n pc Ls (.int z :: .int x :: st) := by
  subst hp
  exact go_of K (fun hx hby hown hZ X t h => XS.idiv X.here hx rfl (hb hby hd) rfl hz h) hr
theorem go_irem (K : Ok W B y rm mL ret l Z h0) {x z : Int32} (hd : decode B pc = .ok (.irem, 1)) (hz : z ≠ 0) (hp : pc + 1 = pc')
    (hr : Go W Q ds k n pc' Ls (.int (x % z) :: st)) : Go W Q ds k n pc Ls (.int z :: .int x :: st) := by
  subst hp
  exact go_of K (fun hx hby hown hZ X t h => iremM X hx rfl (hb hby hd) rfl hz h) hr
theorem go_ldiv (K : Ok W B y rm mL ret l Z h0) {x z : Int64} (hd : decode B pc = .ok (.ldiv, 1)) (hz : z ≠ 0) (hp : pc + 1 = pc')
    (hr : Go W Q ds k n pc' Ls (.long (x / z) :: st)) : Go W Q ds k n pc Ls (.long z :: .long x :: st) := by
  subst hp
  exact go_of K (fun hx hby hown hZ X t h => XT.ldiv X.here hx rfl (hb hby hd) rfl hz h) hr
theorem go_ineg (K : Ok W B y rm mL ret l Z h0) {x : Int32} (hd : decode B pc = .ok (.ineg, 1))  (hp : pc + 1 = pc')
    (hr : Go W Q ds k n pc' Ls (.int (-x) :: st)) : Go W Q ds k n pc Ls (.int x :: st) := by
  subst hp
  exact go_of K (fun hx hby hown hZ X t h => XS.ineg X.here hx rfl (hb hby hd) rfl h) hr
theorem go_i2l (K : Ok W B y rm mL ret l Z h0) {x : Int32} (hd : decode B pc = .ok (.i2l, 1))  (hp : pc + 1 = pc')
    (hr : Go W Q ds k n pc' Ls (.long x.toInt64 :: st)) : Go W Q ds k n pc Ls (.int x :: st) := by
  subst hp
  exact go_of K (fun hx hby hown hZ X t h => XT.i2l X.here hx rfl (hb hby hd) rfl h) hr
theorem go_l2i (K : Ok W B y rm mL ret l Z h0) {x : Int64} (hd : decode B pc = .ok (.l2i, 1))  (hp : pc + 1 = pc')
    (hr : Go W Q ds k n pc' Ls (.int x.toInt32 :: st)) : Go W Q ds k n pc Ls (.long x :: st) := by
  subst hp
  exact go_of K (fun hx hby hown hZ X t h => XT.l2i X.here hx rfl (hb hby hd) rfl h) hr
theorem go_i2b (K : Ok W B y rm mL ret l Z h0) {x : Int32} (hd : decode B pc = .ok (.i2b, 1))  (hp : pc + 1 = pc')
    (hr : Go W Q ds k n pc' Ls (.int x.toInt8.toInt32 :: st)) : Go W Q ds k n pc Ls (.int x :: st) := by
  subst hp
  exact go_of K (fun hx hby hown hZ X t h => XT.i2b X.here hx rfl (hb hby hd) rfl h) hr
theorem go_i2c (K : Ok W B y rm mL ret l Z h0) {x : Int32} (hd : decode B pc = .ok (.i2c, 1))  (hp : pc + 1 = pc')
    (hr : Go W Q ds k n pc' Ls (.int x.toUInt32.toUInt16.toUInt32.toInt32 :: st)) : Go W Q ds k n pc Ls (.int x :: st) := by
  subst hp
  exact go_of K (fun hx hby hown hZ X t h => XT.i2c X.here hx rfl (hb hby hd) rfl h) hr
theorem go_lcmp (K : Ok W B y rm mL ret l Z h0) {x z : Int64} (hd : decode B pc = .ok (.lcmp, 1))  (hp : pc + 1 = pc')
    (hr : Go W Q ds k n pc' Ls (.int (XT.cmpL x z) :: st)) : Go W Q ds k n pc Ls (.long z :: .long x :: st) := by
  subst hp
  exact go_of K (fun hx hby hown hZ X t h => XT.lcmp X.here hx rfl (hb hby hd) rfl h) hr
theorem go_pop (K : Ok W B y rm mL ret l Z h0) {x : Value} (hd : decode B pc = .ok (.pop, 1)) (hc : x.category = 1) (hp : pc + 1 = pc')
    (hr : Go W Q ds k n pc' Ls st) : Go W Q ds k n pc Ls (x :: st) := by
  subst hp
  exact go_of K (fun hx hby hown hZ X t h => XT.pop X.here hx rfl (hb hby hd) rfl hc h) hr
theorem go_dup (K : Ok W B y rm mL ret l Z h0) {x : Value} (hd : decode B pc = .ok (.dup, 1)) (hc : x.category = 1) (hp : pc + 1 = pc')
    (hr : Go W Q ds k n pc' Ls (x :: x :: st)) : Go W Q ds k n pc Ls (x :: st) := by
  subst hp
  exact go_of K (fun hx hby hown hZ X t h => XS.dup X.here hx rfl (hb hby hd) rfl hc h) hr
theorem go_dup_x1 (K : Ok W B y rm mL ret l Z h0) {x z : Value} (hd : decode B pc = .ok (.dup_x1, 1)) (hc : x.category = 1) (hc' : z.category = 1) (hp : pc + 1 = pc')
    (hr : Go W Q ds k n pc' Ls (x :: z :: x :: st)) : Go W Q ds k n pc Ls (x :: z :: st) := by
  subst hp
  exact go_of K (fun hx hby hown hZ X t h => XT.dupX1 X.here hx rfl (hb hby hd) rfl hc hc' h) hr
theorem go_dup2 (K : Ok W B y rm mL ret l Z h0) {x z : Value} (hd : decode B pc = .ok (.dup2, 1)) (hc : x.category = 1) (hc' : z.category = 1) (hp : pc + 1 = pc')
    (hr : Go W Q ds k n pc' Ls (x :: z :: x :: z :: st)) : Go W Q ds k n pc Ls (x :: z :: st) := by
  subst hp
  exact go_of K (fun hx hby hown hZ X t h => XT.dup2 X.here hx rfl (hb hby hd) rfl hc hc' h) hr
theorem go_iinc (K : Ok W B y rm mL ret l Z h0) {i : Nat} {cst : Int} {x v : Int32} (hd : decode B pc = .ok (.iinc i cst, 3)) (hv : Int32.ofInt cst = v) (hl : Ls[i]? = some (.val (.int x))) (hl' : storeLocals Ls i (.int (x + v)) = some Ls') (hp : pc + 3 = pc')
    (hr : Go W Q ds k n pc' Ls' st) : Go W Q ds k n pc Ls st := by
  subst hp
  exact go_of K (fun hx hby hown hZ X t h => XT.iincV X.here hx rfl v (hb hby hd) hv hl hl' h) hr
theorem go_ldc (K : Ok W B y rm mL ret l Z h0) {i : Nat} {v : Int32} (hd : decode B pc = .ok (.ldc i, 2)) (w : (Jvm.Cond.constant y.cls i v).before a0 Z = true) (hp : pc + 2 = pc')
    (hr : Go W Q ds k n pc' Ls (.int v :: st)) : Go W Q ds k n pc Ls st := by
  subst hp
  exact go_of K (fun hx hby hown hZ X t h => X.ldcI hx hown (mv hZ w) rfl (hb hby hd) h) hr
theorem go_ldc2 (K : Ok W B y rm mL ret l Z h0) {i : Nat} {v : Int64} (hd : decode B pc = .ok (.ldc2_w i, 3)) (w : (Jvm.Cond.constantLong y.cls i v).before a0 Z = true) (hp : pc + 3 = pc')
    (hr : Go W Q ds k n pc' Ls (.long v :: st)) : Go W Q ds k n pc Ls st := by
  subst hp
  exact go_of K (fun hx hby hown hZ X t h => X.ldc2J hx hown (mv hZ w) rfl (hb hby hd) h) hr
theorem go_goto (K : Ok W B y rm mL ret l Z h0) {o : Int} (hd : decode B pc = .ok (.goto o, 3)) (ho : 0 ≤ (pc : Int) + o) (hp : ((pc : Int) + o).toNat = pc')
    (hr : Go W Q ds k n pc' Ls st) : Go W Q ds k n pc Ls st :=
  go_of K (fun hx hby hown hZ X t h => XS.goto X.here hx rfl rfl (hb hby hd) ho hp h) hr
theorem go_ifY (K : Ok W B y rm mL ret l Z h0) {o : Int} {cd : ClassFile.Cond} {x : Int32} (hd : decode B pc = .ok (.ifCond cd o, 3)) (hc : ifCond.holds cd x = true) (ho : 0 ≤ (pc : Int) + o) (hp : ((pc : Int) + o).toNat = pc')
    (hr : Go W Q ds k n pc' Ls st) : Go W Q ds k n pc Ls (.int x :: st) :=
  go_of K (fun hx hby hown hZ X t h => XS.ifYes X.here hx rfl rfl (hb hby hd) rfl hc ho hp h) hr
theorem go_ifN (K : Ok W B y rm mL ret l Z h0) {o : Int} {cd : ClassFile.Cond} {x : Int32} (hd : decode B pc = .ok (.ifCond cd o, 3)) (hc : ifCond.holds cd x = false) (hp : pc + 3 = pc')
    (hr : Go W Q ds k n pc' Ls st) : Go W Q ds k n pc Ls (.int x :: st) := by
  subst hp
  exact go_of K (fun hx hby hown hZ X t h => XS.ifNo X.here hx rfl (hb hby hd) rfl hc h) hr
theorem go_icY (K : Ok W B y rm mL ret l Z h0) {o : Int} {cd : ClassFile.Cond} {x z : Int32} (hd : decode B pc = .ok (.if_icmp cd o, 3)) (hc : if_icmp.holds cd x z = true) (ho : 0 ≤ (pc : Int) + o) (hp : ((pc : Int) + o).toNat = pc')
    (hr : Go W Q ds k n pc' Ls st) : Go W Q ds k n pc Ls (.int z :: .int x :: st) :=
  go_of K (fun hx hby hown hZ X t h => XS.icmpYes X.here hx rfl rfl (hb hby hd) rfl hc ho hp h) hr
theorem go_icN (K : Ok W B y rm mL ret l Z h0) {o : Int} {cd : ClassFile.Cond} {x z : Int32} (hd : decode B pc = .ok (.if_icmp cd o, 3)) (hc : if_icmp.holds cd x z = false) (hp : pc + 3 = pc')
    (hr : Go W Q ds k n pc' Ls st) : Go W Q ds k n pc Ls (.int z :: .int x :: st) := by
  subst hp
  exact go_of K (fun hx hby hown hZ X t h => XS.icmpNo X.here hx rfl (hb hby hd) rfl hc h) hr

theorem go_if_eq_t (K : Ok W B y rm mL ret l Z h0) {o : Int} {x : Int32} (hd : decode B pc = .ok (.ifCond .eq o, 3)) (hc : x = 0) (ho : 0 ≤ (pc : Int) + o) (hp : ((pc : Int) + o).toNat = pc')
    (hr : Go W Q ds k n pc' Ls st) : Go W Q ds k n pc Ls (.int x :: st) := go_ifY K hd (XT.i0_eq_t hc) ho hp hr
theorem go_if_eq_f (K : Ok W B y rm mL ret l Z h0) {o : Int} {x : Int32} (hd : decode B pc = .ok (.ifCond .eq o, 3)) (hc : x ≠ 0) (hp : pc + 3 = pc')
    (hr : Go W Q ds k n pc' Ls st) : Go W Q ds k n pc Ls (.int x :: st) := go_ifN K hd (XT.i0_eq_f hc) hp hr
theorem go_if_eq (K : Ok W B y rm mL ret l Z h0) {o : Int} {x : Int32} {pt : Nat} (hd : decode B pc = .ok (.ifCond .eq o, 3)) (ho : 0 ≤ (pc : Int) + o) (ht : ((pc : Int) + o).toNat = pt) (hp : pc + 3 = pc')
    (hy : x = 0 → Go W Q ds k n pt Ls st) (hn : x ≠ 0 → Go W Q ds k n pc' Ls st) : Go W Q ds k n pc Ls (.int x :: st) := by
  by_cases hc : x = 0
  · exact go_if_eq_t K hd hc ho ht (hy hc)
  · exact go_if_eq_f K hd (by first | exact hc | exact Int.not_lt.mp hc | exact Int.not_le.mp hc | exact Decidable.not_not.mp hc) hp (hn (by first | exact hc | exact Int.not_lt.mp hc | exact Int.not_le.mp hc | exact Decidable.not_not.mp hc))
theorem go_ic_eq_t (K : Ok W B y rm mL ret l Z h0) {o : Int} {x z : Int32} (hd : decode B pc = .ok (.if_icmp .eq o, 3)) (hc : x = z) (ho : 0 ≤ (pc : Int) + o) (hp : ((pc : Int) + o).toNat = pc')
    (hr : Go W Q ds k n pc' Ls st) : Go W Q ds k n pc Ls (.int z :: .int x :: st) := go_icY K hd (XT.ii_eq_t hc) ho hp hr
theorem go_ic_eq_f (K : Ok W B y rm mL ret l Z h0) {o : Int} {x z : Int32} (hd : decode B pc = .ok (.if_icmp .eq o, 3)) (hc : x ≠ z) (hp : pc + 3 = pc')
    (hr : Go W Q ds k n pc' Ls st) : Go W Q ds k n pc Ls (.int z :: .int x :: st) := go_icN K hd (XT.ii_eq_f hc) hp hr
theorem go_ic_eq (K : Ok W B y rm mL ret l Z h0) {o : Int} {x z : Int32} {pt : Nat} (hd : decode B pc = .ok (.if_icmp .eq o, 3)) (ho : 0 ≤ (pc : Int) + o) (ht : ((pc : Int) + o).toNat = pt) (hp : pc + 3 = pc')
    (hy : x = z → Go W Q ds k n pt Ls st) (hn : x ≠ z → Go W Q ds k n pc' Ls st) : Go W Q ds k n pc Ls (.int z :: .int x :: st) := by
  by_cases hc : x = z
  · exact go_ic_eq_t K hd hc ho ht (hy hc)
  · exact go_ic_eq_f K hd (by first | exact hc | exact Int.not_lt.mp hc | exact Int.not_le.mp hc | exact Decidable.not_not.mp hc) hp (hn (by first | exact hc | exact Int.not_lt.mp hc | exact Int.not_le.mp hc | exact Decidable.not_not.mp hc))
theorem go_if_ne_t (K : Ok W B y rm mL ret l Z h0) {o : Int} {x : Int32} (hd : decode B pc = .ok (.ifCond .ne o, 3)) (hc : x ≠ 0) (ho : 0 ≤ (pc : Int) + o) (hp : ((pc : Int) + o).toNat = pc')
    (hr : Go W Q ds k n pc' Ls st) : Go W Q ds k n pc Ls (.int x :: st) := go_ifY K hd (XT.i0_ne_t hc) ho hp hr
theorem go_if_ne_f (K : Ok W B y rm mL ret l Z h0) {o : Int} {x : Int32} (hd : decode B pc = .ok (.ifCond .ne o, 3)) (hc : x = 0) (hp : pc + 3 = pc')
    (hr : Go W Q ds k n pc' Ls st) : Go W Q ds k n pc Ls (.int x :: st) := go_ifN K hd (XT.i0_ne_f hc) hp hr
theorem go_if_ne (K : Ok W B y rm mL ret l Z h0) {o : Int} {x : Int32} {pt : Nat} (hd : decode B pc = .ok (.ifCond .ne o, 3)) (ho : 0 ≤ (pc : Int) + o) (ht : ((pc : Int) + o).toNat = pt) (hp : pc + 3 = pc')
    (hy : x ≠ 0 → Go W Q ds k n pt Ls st) (hn : x = 0 → Go W Q ds k n pc' Ls st) : Go W Q ds k n pc Ls (.int x :: st) := by
  by_cases hc : x ≠ 0
  · exact go_if_ne_t K hd hc ho ht (hy hc)
  · exact go_if_ne_f K hd (by first | exact hc | exact Int.not_lt.mp hc | exact Int.not_le.mp hc | exact Decidable.not_not.mp hc) hp (hn (by first | exact hc | exact Int.not_lt.mp hc | exact Int.not_le.mp hc | exact Decidable.not_not.mp hc))
theorem go_ic_ne_t (K : Ok W B y rm mL ret l Z h0) {o : Int} {x z : Int32} (hd : decode B pc = .ok (.if_icmp .ne o, 3)) (hc : x ≠ z) (ho : 0 ≤ (pc : Int) + o) (hp : ((pc : Int) + o).toNat = pc')
    (hr : Go W Q ds k n pc' Ls st) : Go W Q ds k n pc Ls (.int z :: .int x :: st) := go_icY K hd (XT.ii_ne_t hc) ho hp hr
theorem go_ic_ne_f (K : Ok W B y rm mL ret l Z h0) {o : Int} {x z : Int32} (hd : decode B pc = .ok (.if_icmp .ne o, 3)) (hc : x = z) (hp : pc + 3 = pc')
    (hr : Go W Q ds k n pc' Ls st) : Go W Q ds k n pc Ls (.int z :: .int x :: st) := go_icN K hd (XT.ii_ne_f hc) hp hr
theorem go_ic_ne (K : Ok W B y rm mL ret l Z h0) {o : Int} {x z : Int32} {pt : Nat} (hd : decode B pc = .ok (.if_icmp .ne o, 3)) (ho : 0 ≤ (pc : Int) + o) (ht : ((pc : Int) + o).toNat = pt) (hp : pc + 3 = pc')
    (hy : x ≠ z → Go W Q ds k n pt Ls st) (hn : x = z → Go W Q ds k n pc' Ls st) : Go W Q ds k n pc Ls (.int z :: .int x :: st) := by
  by_cases hc : x ≠ z
  · exact go_ic_ne_t K hd hc ho ht (hy hc)
  · exact go_ic_ne_f K hd (by first | exact hc | exact Int.not_lt.mp hc | exact Int.not_le.mp hc | exact Decidable.not_not.mp hc) hp (hn (by first | exact hc | exact Int.not_lt.mp hc | exact Int.not_le.mp hc | exact Decidable.not_not.mp hc))
theorem go_if_lt_t (K : Ok W B y rm mL ret l Z h0) {o : Int} {x : Int32} (hd : decode B pc = .ok (.ifCond .lt o, 3)) (hc : x.toInt < 0) (ho : 0 ≤ (pc : Int) + o) (hp : ((pc : Int) + o).toNat = pc')
    (hr : Go W Q ds k n pc' Ls st) : Go W Q ds k n pc Ls (.int x :: st) := go_ifY K hd (XT.i0_lt_t (Int32.lt_iff_toInt_lt.mpr hc)) ho hp hr
theorem go_if_lt_f (K : Ok W B y rm mL ret l Z h0) {o : Int} {x : Int32} (hd : decode B pc = .ok (.ifCond .lt o, 3)) (hc : 0 ≤ x.toInt) (hp : pc + 3 = pc')
    (hr : Go W Q ds k n pc' Ls st) : Go W Q ds k n pc Ls (.int x :: st) := go_ifN K hd (XT.i0_lt_f (fun q => absurd (Int32.lt_iff_toInt_lt.mp q) (Int.not_lt.mpr hc))) hp hr
theorem go_if_lt (K : Ok W B y rm mL ret l Z h0) {o : Int} {x : Int32} {pt : Nat} (hd : decode B pc = .ok (.ifCond .lt o, 3)) (ho : 0 ≤ (pc : Int) + o) (ht : ((pc : Int) + o).toNat = pt) (hp : pc + 3 = pc')
    (hy : x.toInt < 0 → Go W Q ds k n pt Ls st) (hn : 0 ≤ x.toInt → Go W Q ds k n pc' Ls st) : Go W Q ds k n pc Ls (.int x :: st) := by
  by_cases hc : x.toInt < 0
  · exact go_if_lt_t K hd hc ho ht (hy hc)
  · exact go_if_lt_f K hd (by first | exact hc | exact Int.not_lt.mp hc | exact Int.not_le.mp hc | exact Decidable.not_not.mp hc) hp (hn (by first | exact hc | exact Int.not_lt.mp hc | exact Int.not_le.mp hc | exact Decidable.not_not.mp hc))
theorem go_ic_lt_t (K : Ok W B y rm mL ret l Z h0) {o : Int} {x z : Int32} (hd : decode B pc = .ok (.if_icmp .lt o, 3)) (hc : x.toInt < z.toInt) (ho : 0 ≤ (pc : Int) + o) (hp : ((pc : Int) + o).toNat = pc')
    (hr : Go W Q ds k n pc' Ls st) : Go W Q ds k n pc Ls (.int z :: .int x :: st) := go_icY K hd (XT.ii_lt_t (Int32.lt_iff_toInt_lt.mpr hc)) ho hp hr
theorem go_ic_lt_f (K : Ok W B y rm mL ret l Z h0) {o : Int} {x z : Int32} (hd : decode B pc = .ok (.if_icmp .lt o, 3)) (hc : z.toInt ≤ x.toInt) (hp : pc + 3 = pc')
    (hr : Go W Q ds k n pc' Ls st) : Go W Q ds k n pc Ls (.int z :: .int x :: st) := go_icN K hd (XT.ii_lt_f (fun q => absurd (Int32.lt_iff_toInt_lt.mp q) (Int.not_lt.mpr hc))) hp hr
theorem go_ic_lt (K : Ok W B y rm mL ret l Z h0) {o : Int} {x z : Int32} {pt : Nat} (hd : decode B pc = .ok (.if_icmp .lt o, 3)) (ho : 0 ≤ (pc : Int) + o) (ht : ((pc : Int) + o).toNat = pt) (hp : pc + 3 = pc')
    (hy : x.toInt < z.toInt → Go W Q ds k n pt Ls st) (hn : z.toInt ≤ x.toInt → Go W Q ds k n pc' Ls st) : Go W Q ds k n pc Ls (.int z :: .int x :: st) := by
  by_cases hc : x.toInt < z.toInt
  · exact go_ic_lt_t K hd hc ho ht (hy hc)
  · exact go_ic_lt_f K hd (by first | exact hc | exact Int.not_lt.mp hc | exact Int.not_le.mp hc | exact Decidable.not_not.mp hc) hp (hn (by first | exact hc | exact Int.not_lt.mp hc | exact Int.not_le.mp hc | exact Decidable.not_not.mp hc))
theorem go_if_ge_t (K : Ok W B y rm mL ret l Z h0) {o : Int} {x : Int32} (hd : decode B pc = .ok (.ifCond .ge o, 3)) (hc : 0 ≤ x.toInt) (ho : 0 ≤ (pc : Int) + o) (hp : ((pc : Int) + o).toNat = pc')
    (hr : Go W Q ds k n pc' Ls st) : Go W Q ds k n pc Ls (.int x :: st) := go_ifY K hd (XT.i0_ge_t (fun q => absurd (Int32.lt_iff_toInt_lt.mp q) (Int.not_lt.mpr hc))) ho hp hr
theorem go_if_ge_f (K : Ok W B y rm mL ret l Z h0) {o : Int} {x : Int32} (hd : decode B pc = .ok (.ifCond .ge o, 3)) (hc : x.toInt < 0) (hp : pc + 3 = pc')
    (hr : Go W Q ds k n pc' Ls st) : Go W Q ds k n pc Ls (.int x :: st) := go_ifN K hd (XT.i0_ge_f (Int32.lt_iff_toInt_lt.mpr hc)) hp hr
theorem go_if_ge (K : Ok W B y rm mL ret l Z h0) {o : Int} {x : Int32} {pt : Nat} (hd : decode B pc = .ok (.ifCond .ge o, 3)) (ho : 0 ≤ (pc : Int) + o) (ht : ((pc : Int) + o).toNat = pt) (hp : pc + 3 = pc')
    (hy : 0 ≤ x.toInt → Go W Q ds k n pt Ls st) (hn : x.toInt < 0 → Go W Q ds k n pc' Ls st) : Go W Q ds k n pc Ls (.int x :: st) := by
  by_cases hc : 0 ≤ x.toInt
  · exact go_if_ge_t K hd hc ho ht (hy hc)
  · exact go_if_ge_f K hd (by first | exact hc | exact Int.not_lt.mp hc | exact Int.not_le.mp hc | exact Decidable.not_not.mp hc) hp (hn (by first | exact hc | exact Int.not_lt.mp hc | exact Int.not_le.mp hc | exact Decidable.not_not.mp hc))
theorem go_ic_ge_t (K : Ok W B y rm mL ret l Z h0) {o : Int} {x z : Int32} (hd : decode B pc = .ok (.if_icmp .ge o, 3)) (hc : z.toInt ≤ x.toInt) (ho : 0 ≤ (pc : Int) + o) (hp : ((pc : Int) + o).toNat = pc')
    (hr : Go W Q ds k n pc' Ls st) : Go W Q ds k n pc Ls (.int z :: .int x :: st) := go_icY K hd (XT.ii_ge_t (fun q => absurd (Int32.lt_iff_toInt_lt.mp q) (Int.not_lt.mpr hc))) ho hp hr
theorem go_ic_ge_f (K : Ok W B y rm mL ret l Z h0) {o : Int} {x z : Int32} (hd : decode B pc = .ok (.if_icmp .ge o, 3)) (hc : x.toInt < z.toInt) (hp : pc + 3 = pc')
    (hr : Go W Q ds k n pc' Ls st) : Go W Q ds k n pc Ls (.int z :: .int x :: st) := go_icN K hd (XT.ii_ge_f (Int32.lt_iff_toInt_lt.mpr hc)) hp hr
theorem go_ic_ge (K : Ok W B y rm mL ret l Z h0) {o : Int} {x z : Int32} {pt : Nat} (hd : decode B pc = .ok (.if_icmp .ge o, 3)) (ho : 0 ≤ (pc : Int) + o) (ht : ((pc : Int) + o).toNat = pt) (hp : pc + 3 = pc')
    (hy : z.toInt ≤ x.toInt → Go W Q ds k n pt Ls st) (hn : x.toInt < z.toInt → Go W Q ds k n pc' Ls st) : Go W Q ds k n pc Ls (.int z :: .int x :: st) := by
  by_cases hc : z.toInt ≤ x.toInt
  · exact go_ic_ge_t K hd hc ho ht (hy hc)
  · exact go_ic_ge_f K hd (by first | exact hc | exact Int.not_lt.mp hc | exact Int.not_le.mp hc | exact Decidable.not_not.mp hc) hp (hn (by first | exact hc | exact Int.not_lt.mp hc | exact Int.not_le.mp hc | exact Decidable.not_not.mp hc))
theorem go_if_gt_t (K : Ok W B y rm mL ret l Z h0) {o : Int} {x : Int32} (hd : decode B pc = .ok (.ifCond .gt o, 3)) (hc : 0 < x.toInt) (ho : 0 ≤ (pc : Int) + o) (hp : ((pc : Int) + o).toNat = pc')
    (hr : Go W Q ds k n pc' Ls st) : Go W Q ds k n pc Ls (.int x :: st) := go_ifY K hd (XT.i0_gt_t (Int32.lt_iff_toInt_lt.mpr hc)) ho hp hr
theorem go_if_gt_f (K : Ok W B y rm mL ret l Z h0) {o : Int} {x : Int32} (hd : decode B pc = .ok (.ifCond .gt o, 3)) (hc : x.toInt ≤ 0) (hp : pc + 3 = pc')
    (hr : Go W Q ds k n pc' Ls st) : Go W Q ds k n pc Ls (.int x :: st) := go_ifN K hd (XT.i0_gt_f (fun q => absurd (Int32.lt_iff_toInt_lt.mp q) (Int.not_lt.mpr hc))) hp hr
theorem go_if_gt (K : Ok W B y rm mL ret l Z h0) {o : Int} {x : Int32} {pt : Nat} (hd : decode B pc = .ok (.ifCond .gt o, 3)) (ho : 0 ≤ (pc : Int) + o) (ht : ((pc : Int) + o).toNat = pt) (hp : pc + 3 = pc')
    (hy : 0 < x.toInt → Go W Q ds k n pt Ls st) (hn : x.toInt ≤ 0 → Go W Q ds k n pc' Ls st) : Go W Q ds k n pc Ls (.int x :: st) := by
  by_cases hc : 0 < x.toInt
  · exact go_if_gt_t K hd hc ho ht (hy hc)
  · exact go_if_gt_f K hd (by first | exact hc | exact Int.not_lt.mp hc | exact Int.not_le.mp hc | exact Decidable.not_not.mp hc) hp (hn (by first | exact hc | exact Int.not_lt.mp hc | exact Int.not_le.mp hc | exact Decidable.not_not.mp hc))
theorem go_ic_gt_t (K : Ok W B y rm mL ret l Z h0) {o : Int} {x z : Int32} (hd : decode B pc = .ok (.if_icmp .gt o, 3)) (hc : z.toInt < x.toInt) (ho : 0 ≤ (pc : Int) + o) (hp : ((pc : Int) + o).toNat = pc')
    (hr : Go W Q ds k n pc' Ls st) : Go W Q ds k n pc Ls (.int z :: .int x :: st) := go_icY K hd (XT.ii_gt_t (Int32.lt_iff_toInt_lt.mpr hc)) ho hp hr
theorem go_ic_gt_f (K : Ok W B y rm mL ret l Z h0) {o : Int} {x z : Int32} (hd : decode B pc = .ok (.if_icmp .gt o, 3)) (hc : x.toInt ≤ z.toInt) (hp : pc + 3 = pc')
    (hr : Go W Q ds k n pc' Ls st) : Go W Q ds k n pc Ls (.int z :: .int x :: st) := go_icN K hd (XT.ii_gt_f (fun q => absurd (Int32.lt_iff_toInt_lt.mp q) (Int.not_lt.mpr hc))) hp hr
theorem go_ic_gt (K : Ok W B y rm mL ret l Z h0) {o : Int} {x z : Int32} {pt : Nat} (hd : decode B pc = .ok (.if_icmp .gt o, 3)) (ho : 0 ≤ (pc : Int) + o) (ht : ((pc : Int) + o).toNat = pt) (hp : pc + 3 = pc')
    (hy : z.toInt < x.toInt → Go W Q ds k n pt Ls st) (hn : x.toInt ≤ z.toInt → Go W Q ds k n pc' Ls st) : Go W Q ds k n pc Ls (.int z :: .int x :: st) := by
  by_cases hc : z.toInt < x.toInt
  · exact go_ic_gt_t K hd hc ho ht (hy hc)
  · exact go_ic_gt_f K hd (by first | exact hc | exact Int.not_lt.mp hc | exact Int.not_le.mp hc | exact Decidable.not_not.mp hc) hp (hn (by first | exact hc | exact Int.not_lt.mp hc | exact Int.not_le.mp hc | exact Decidable.not_not.mp hc))
theorem go_if_le_t (K : Ok W B y rm mL ret l Z h0) {o : Int} {x : Int32} (hd : decode B pc = .ok (.ifCond .le o, 3)) (hc : x.toInt ≤ 0) (ho : 0 ≤ (pc : Int) + o) (hp : ((pc : Int) + o).toNat = pc')
    (hr : Go W Q ds k n pc' Ls st) : Go W Q ds k n pc Ls (.int x :: st) := go_ifY K hd (XT.i0_le_t (fun q => absurd (Int32.lt_iff_toInt_lt.mp q) (Int.not_lt.mpr hc))) ho hp hr
theorem go_if_le_f (K : Ok W B y rm mL ret l Z h0) {o : Int} {x : Int32} (hd : decode B pc = .ok (.ifCond .le o, 3)) (hc : 0 < x.toInt) (hp : pc + 3 = pc')
    (hr : Go W Q ds k n pc' Ls st) : Go W Q ds k n pc Ls (.int x :: st) := go_ifN K hd (XT.i0_le_f (Int32.lt_iff_toInt_lt.mpr hc)) hp hr
theorem go_if_le (K : Ok W B y rm mL ret l Z h0) {o : Int} {x : Int32} {pt : Nat} (hd : decode B pc = .ok (.ifCond .le o, 3)) (ho : 0 ≤ (pc : Int) + o) (ht : ((pc : Int) + o).toNat = pt) (hp : pc + 3 = pc')
    (hy : x.toInt ≤ 0 → Go W Q ds k n pt Ls st) (hn : 0 < x.toInt → Go W Q ds k n pc' Ls st) : Go W Q ds k n pc Ls (.int x :: st) := by
  by_cases hc : x.toInt ≤ 0
  · exact go_if_le_t K hd hc ho ht (hy hc)
  · exact go_if_le_f K hd (by first | exact hc | exact Int.not_lt.mp hc | exact Int.not_le.mp hc | exact Decidable.not_not.mp hc) hp (hn (by first | exact hc | exact Int.not_lt.mp hc | exact Int.not_le.mp hc | exact Decidable.not_not.mp hc))
theorem go_ic_le_t (K : Ok W B y rm mL ret l Z h0) {o : Int} {x z : Int32} (hd : decode B pc = .ok (.if_icmp .le o, 3)) (hc : x.toInt ≤ z.toInt) (ho : 0 ≤ (pc : Int) + o) (hp : ((pc : Int) + o).toNat = pc')
    (hr : Go W Q ds k n pc' Ls st) : Go W Q ds k n pc Ls (.int z :: .int x :: st) := go_icY K hd (XT.ii_le_t (fun q => absurd (Int32.lt_iff_toInt_lt.mp q) (Int.not_lt.mpr hc))) ho hp hr
theorem go_ic_le_f (K : Ok W B y rm mL ret l Z h0) {o : Int} {x z : Int32} (hd : decode B pc = .ok (.if_icmp .le o, 3)) (hc : z.toInt < x.toInt) (hp : pc + 3 = pc')
    (hr : Go W Q ds k n pc' Ls st) : Go W Q ds k n pc Ls (.int z :: .int x :: st) := go_icN K hd (XT.ii_le_f (Int32.lt_iff_toInt_lt.mpr hc)) hp hr
theorem go_ic_le (K : Ok W B y rm mL ret l Z h0) {o : Int} {x z : Int32} {pt : Nat} (hd : decode B pc = .ok (.if_icmp .le o, 3)) (ho : 0 ≤ (pc : Int) + o) (ht : ((pc : Int) + o).toNat = pt) (hp : pc + 3 = pc')
    (hy : x.toInt ≤ z.toInt → Go W Q ds k n pt Ls st) (hn : z.toInt < x.toInt → Go W Q ds k n pc' Ls st) : Go W Q ds k n pc Ls (.int z :: .int x :: st) := by
  by_cases hc : x.toInt ≤ z.toInt
  · exact go_ic_le_t K hd hc ho ht (hy hc)
  · exact go_ic_le_f K hd (by first | exact hc | exact Int.not_lt.mp hc | exact Int.not_le.mp hc | exact Decidable.not_not.mp hc) hp (hn (by first | exact hc | exact Int.not_lt.mp hc | exact Int.not_le.mp hc | exact Decidable.not_not.mp hc))
theorem go_ll_eq_t (K : Ok W B y rm mL ret l Z h0) {o : Int} {x z : Int64} {pm : Nat} (hd : decode B pc = .ok (.lcmp, 1)) (hm : pc + 1 = pm) (hd' : decode B pm = .ok (.ifCond .eq o, 3)) (hc : x = z) (ho : 0 ≤ (pm : Int) + o) (hp : ((pm : Int) + o).toNat = pc')
    (hr : Go W Q ds k n pc' Ls st) : Go W Q ds k n pc Ls (.long z :: .long x :: st) := go_lcmp K hd hm (go_ifY K hd' (XT.ll_eq_t hc) ho hp hr)
theorem go_ll_eq_f (K : Ok W B y rm mL ret l Z h0) {o : Int} {x z : Int64} {pm : Nat} (hd : decode B pc = .ok (.lcmp, 1)) (hm : pc + 1 = pm) (hd' : decode B pm = .ok (.ifCond .eq o, 3)) (hc : x ≠ z) (hp : pm + 3 = pc')
    (hr : Go W Q ds k n pc' Ls st) : Go W Q ds k n pc Ls (.long z :: .long x :: st) := go_lcmp K hd hm (go_ifN K hd' (XT.ll_eq_f hc) hp hr)
theorem go_ll_eq (K : Ok W B y rm mL ret l Z h0) {o : Int} {x z : Int64} {pm pt : Nat} (hd : decode B pc = .ok (.lcmp, 1)) (hm : pc + 1 = pm) (hd' : decode B pm = .ok (.ifCond .eq o, 3)) (ho : 0 ≤ (pm : Int) + o) (ht : ((pm : Int) + o).toNat = pt) (hp : pm + 3 = pc')
    (hy : x = z → Go W Q ds k n pt Ls st) (hn : x ≠ z → Go W Q ds k n pc' Ls st) : Go W Q ds k n pc Ls (.long z :: .long x :: st) := by
  by_cases hc : x = z
  · exact go_ll_eq_t K hd hm hd' hc ho ht (hy hc)
  · exact go_ll_eq_f K hd hm hd' (by first | exact hc | exact Int.not_lt.mp hc | exact Int.not_le.mp hc | exact Decidable.not_not.mp hc) hp (hn (by first | exact hc | exact Int.not_lt.mp hc | exact Int.not_le.mp hc | exact Decidable.not_not.mp hc))
theorem go_ll_ne_t (K : Ok W B y rm mL ret l Z h0) {o : Int} {x z : Int64} {pm : Nat} (hd : decode B pc = .ok (.lcmp, 1)) (hm : pc + 1 = pm) (hd' : decode B pm = .ok (.ifCond .ne o, 3)) (hc : x ≠ z) (ho : 0 ≤ (pm : Int) + o) (hp : ((pm : Int) + o).toNat = pc')
    (hr : Go W Q ds k n pc' Ls st) : Go W Q ds k n pc Ls (.long z :: .long x :: st) := go_lcmp K hd hm (go_ifY K hd' (XT.ll_ne_t hc) ho hp hr)
theorem go_ll_ne_f (K : Ok W B y rm mL ret l Z h0) {o : Int} {x z : Int64} {pm : Nat} (hd : decode B pc = .ok (.lcmp, 1)) (hm : pc + 1 = pm) (hd' : decode B pm = .ok (.ifCond .ne o, 3)) (hc : x = z) (hp : pm + 3 = pc')
    (hr : Go W Q ds k n pc' Ls st) : Go W Q ds k n pc Ls (.long z :: .long x :: st) := go_lcmp K hd hm (go_ifN K hd' (XT.ll_ne_f hc) hp hr)
theorem go_ll_ne (K : Ok W B y rm mL ret l Z h0) {o : Int} {x z : Int64} {pm pt : Nat} (hd : decode B pc = .ok (.lcmp, 1)) (hm : pc + 1 = pm) (hd' : decode B pm = .ok (.ifCond .ne o, 3)) (ho : 0 ≤ (pm : Int) + o) (ht : ((pm : Int) + o).toNat = pt) (hp : pm + 3 = pc')
    (hy : x ≠ z → Go W Q ds k n pt Ls st) (hn : x = z → Go W Q ds k n pc' Ls st) : Go W Q ds k n pc Ls (.long z :: .long x :: st) := by
  by_cases hc : x ≠ z
  · exact go_ll_ne_t K hd hm hd' hc ho ht (hy hc)
  · exact go_ll_ne_f K hd hm hd' (by first | exact hc | exact Int.not_lt.mp hc | exact Int.not_le.mp hc | exact Decidable.not_not.mp hc) hp (hn (by first | exact hc | exact Int.not_lt.mp hc | exact Int.not_le.mp hc | exact Decidable.not_not.mp hc))
theorem go_ll_lt_t (K : Ok W B y rm mL ret l Z h0) {o : Int} {x z : Int64} {pm : Nat} (hd : decode B pc = .ok (.lcmp, 1)) (hm : pc + 1 = pm) (hd' : decode B pm = .ok (.ifCond .lt o, 3)) (hc : x.toInt < z.toInt) (ho : 0 ≤ (pm : Int) + o) (hp : ((pm : Int) + o).toNat = pc')
    (hr : Go W Q ds k n pc' Ls st) : Go W Q ds k n pc Ls (.long z :: .long x :: st) := go_lcmp K hd hm (go_ifY K hd' (XT.ll_lt_t (Int64.lt_iff_toInt_lt.mpr hc)) ho hp hr)
theorem go_ll_lt_f (K : Ok W B y rm mL ret l Z h0) {o : Int} {x z : Int64} {pm : Nat} (hd : decode B pc = .ok (.lcmp, 1)) (hm : pc + 1 = pm) (hd' : decode B pm = .ok (.ifCond .lt o, 3)) (hc : z.toInt ≤ x.toInt) (hp : pm + 3 = pc')
    (hr : Go W Q ds k n pc' Ls st) : Go W Q ds k n pc Ls (.long z :: .long x :: st) := go_lcmp K hd hm (go_ifN K hd' (XT.ll_lt_f (fun q => absurd (Int64.lt_iff_toInt_lt.mp q) (Int.not_lt.mpr hc))) hp hr)
theorem go_ll_lt (K : Ok W B y rm mL ret l Z h0) {o : Int} {x z : Int64} {pm pt : Nat} (hd : decode B pc = .ok (.lcmp, 1)) (hm : pc + 1 = pm) (hd' : decode B pm = .ok (.ifCond .lt o, 3)) (ho : 0 ≤ (pm : Int) + o) (ht : ((pm : Int) + o).toNat = pt) (hp : pm + 3 = pc')
    (hy : x.toInt < z.toInt → Go W Q ds k n pt Ls st) (hn : z.toInt ≤ x.toInt → Go W Q ds k n pc' Ls st) : Go W Q ds k n pc Ls (.long z :: .long x :: st) := by
  by_cases hc : x.toInt < z.toInt
  · exact go_ll_lt_t K hd hm hd' hc ho ht (hy hc)
  · exact go_ll_lt_f K hd hm hd' (by first | exact hc | exact Int.not_lt.mp hc | exact Int.not_le.mp hc | exact Decidable.not_not.mp hc) hp (hn (by first | exact hc | exact Int.not_lt.mp hc | exact Int.not_le.mp hc | exact Decidable.not_not.mp hc))
theorem go_ll_ge_t (K : Ok W B y rm mL ret l Z h0) {o : Int} {x z : Int64} {pm : Nat} (hd : decode B pc = .ok (.lcmp, 1)) (hm : pc + 1 = pm) (hd' : decode B pm = .ok (.ifCond .ge o, 3)) (hc : z.toInt ≤ x.toInt) (ho : 0 ≤ (pm : Int) + o) (hp : ((pm : Int) + o).toNat = pc')
    (hr : Go W Q ds k n pc' Ls st) : Go W Q ds k n pc Ls (.long z :: .long x :: st) := go_lcmp K hd hm (go_ifY K hd' (XT.ll_ge_t (fun q => absurd (Int64.lt_iff_toInt_lt.mp q) (Int.not_lt.mpr hc))) ho hp hr)
theorem go_ll_ge_f (K : Ok W B y rm mL ret l Z h0) {o : Int} {x z : Int64} {pm : Nat} (hd : decode B pc = .ok (.lcmp, 1)) (hm : pc + 1 = pm) (hd' : decode B pm = .ok (.ifCond .ge o, 3)) (hc : x.toInt < z.toInt) (hp : pm + 3 = pc')
    (hr : Go W Q ds k n pc' Ls st) : Go W Q ds k n pc Ls (.long z :: .long x :: st) := go_lcmp K hd hm (go_ifN K hd' (XT.ll_ge_f (Int64.lt_iff_toInt_lt.mpr hc)) hp hr)
theorem go_ll_ge (K : Ok W B y rm mL ret l Z h0) {o : Int} {x z : Int64} {pm pt : Nat} (hd : decode B pc = .ok (.lcmp, 1)) (hm : pc + 1 = pm) (hd' : decode B pm = .ok (.ifCond .ge o, 3)) (ho : 0 ≤ (pm : Int) + o) (ht : ((pm : Int) + o).toNat = pt) (hp : pm + 3 = pc')
    (hy : z.toInt ≤ x.toInt → Go W Q ds k n pt Ls st) (hn : x.toInt < z.toInt → Go W Q ds k n pc' Ls st) : Go W Q ds k n pc Ls (.long z :: .long x :: st) := by
  by_cases hc : z.toInt ≤ x.toInt
  · exact go_ll_ge_t K hd hm hd' hc ho ht (hy hc)
  · exact go_ll_ge_f K hd hm hd' (by first | exact hc | exact Int.not_lt.mp hc | exact Int.not_le.mp hc | exact Decidable.not_not.mp hc) hp (hn (by first | exact hc | exact Int.not_lt.mp hc | exact Int.not_le.mp hc | exact Decidable.not_not.mp hc))
theorem go_ll_gt_t (K : Ok W B y rm mL ret l Z h0) {o : Int} {x z : Int64} {pm : Nat} (hd : decode B pc = .ok (.lcmp, 1)) (hm : pc + 1 = pm) (hd' : decode B pm = .ok (.ifCond .gt o, 3)) (hc : z.toInt < x.toInt) (ho : 0 ≤ (pm : Int) + o) (hp : ((pm : Int) + o).toNat = pc')
    (hr : Go W Q ds k n pc' Ls st) : Go W Q ds k n pc Ls (.long z :: .long x :: st) := go_lcmp K hd hm (go_ifY K hd' (XT.ll_gt_t (Int64.lt_iff_toInt_lt.mpr hc)) ho hp hr)
theorem go_ll_gt_f (K : Ok W B y rm mL ret l Z h0) {o : Int} {x z : Int64} {pm : Nat} (hd : decode B pc = .ok (.lcmp, 1)) (hm : pc + 1 = pm) (hd' : decode B pm = .ok (.ifCond .gt o, 3)) (hc : x.toInt ≤ z.toInt) (hp : pm + 3 = pc')
    (hr : Go W Q ds k n pc' Ls st) : Go W Q ds k n pc Ls (.long z :: .long x :: st) := go_lcmp K hd hm (go_ifN K hd' (XT.ll_gt_f (fun q => absurd (Int64.lt_iff_toInt_lt.mp q) (Int.not_lt.mpr hc))) hp hr)
theorem go_ll_gt (K : Ok W B y rm mL ret l Z h0) {o : Int} {x z : Int64} {pm pt : Nat} (hd : decode B pc = .ok (.lcmp, 1)) (hm : pc + 1 = pm) (hd' : decode B pm = .ok (.ifCond .gt o, 3)) (ho : 0 ≤ (pm : Int) + o) (ht : ((pm : Int) + o).toNat = pt) (hp : pm + 3 = pc')
    (hy : z.toInt < x.toInt → Go W Q ds k n pt Ls st) (hn : x.toInt ≤ z.toInt → Go W Q ds k n pc' Ls st) : Go W Q ds k n pc Ls (.long z :: .long x :: st) := by
  by_cases hc : z.toInt < x.toInt
  · exact go_ll_gt_t K hd hm hd' hc ho ht (hy hc)
  · exact go_ll_gt_f K hd hm hd' (by first | exact hc | exact Int.not_lt.mp hc | exact Int.not_le.mp hc | exact Decidable.not_not.mp hc) hp (hn (by first | exact hc | exact Int.not_lt.mp hc | exact Int.not_le.mp hc | exact Decidable.not_not.mp hc))
theorem go_ll_le_t (K : Ok W B y rm mL ret l Z h0) {o : Int} {x z : Int64} {pm : Nat} (hd : decode B pc = .ok (.lcmp, 1)) (hm : pc + 1 = pm) (hd' : decode B pm = .ok (.ifCond .le o, 3)) (hc : x.toInt ≤ z.toInt) (ho : 0 ≤ (pm : Int) + o) (hp : ((pm : Int) + o).toNat = pc')
    (hr : Go W Q ds k n pc' Ls st) : Go W Q ds k n pc Ls (.long z :: .long x :: st) := go_lcmp K hd hm (go_ifY K hd' (XT.ll_le_t (fun q => absurd (Int64.lt_iff_toInt_lt.mp q) (Int.not_lt.mpr hc))) ho hp hr)
theorem go_ll_le_f (K : Ok W B y rm mL ret l Z h0) {o : Int} {x z : Int64} {pm : Nat} (hd : decode B pc = .ok (.lcmp, 1)) (hm : pc + 1 = pm) (hd' : decode B pm = .ok (.ifCond .le o, 3)) (hc : z.toInt < x.toInt) (hp : pm + 3 = pc')
    (hr : Go W Q ds k n pc' Ls st) : Go W Q ds k n pc Ls (.long z :: .long x :: st) := go_lcmp K hd hm (go_ifN K hd' (XT.ll_le_f (Int64.lt_iff_toInt_lt.mpr hc)) hp hr)
theorem go_ll_le (K : Ok W B y rm mL ret l Z h0) {o : Int} {x z : Int64} {pm pt : Nat} (hd : decode B pc = .ok (.lcmp, 1)) (hm : pc + 1 = pm) (hd' : decode B pm = .ok (.ifCond .le o, 3)) (ho : 0 ≤ (pm : Int) + o) (ht : ((pm : Int) + o).toNat = pt) (hp : pm + 3 = pc')
    (hy : x.toInt ≤ z.toInt → Go W Q ds k n pt Ls st) (hn : z.toInt < x.toInt → Go W Q ds k n pc' Ls st) : Go W Q ds k n pc Ls (.long z :: .long x :: st) := by
  by_cases hc : x.toInt ≤ z.toInt
  · exact go_ll_le_t K hd hm hd' hc ho ht (hy hc)
  · exact go_ll_le_f K hd hm hd' (by first | exact hc | exact Int.not_lt.mp hc | exact Int.not_le.mp hc | exact Decidable.not_not.mp hc) hp (hn (by first | exact hc | exact Int.not_lt.mp hc | exact Int.not_le.mp hc | exact Decidable.not_not.mp hc))

/-! null tests, references compared -/
theorem go_ifnull_r (K : Ok W B y rm mL ret l Z h0) {o : Int} {a : Nat} (hd : decode B pc = .ok (.ifnull o, 3)) (hp : pc + 3 = pc') (hr : Go W Q ds k n pc' Ls st) : Go W Q ds k n pc Ls (.ref a :: st) := by
  subst hp
  exact go_of K (fun hx hby hown hZ X t h => XS.ifnullNo X.here hx rfl (hb hby hd) rfl h) hr
theorem go_ifnonnull_r (K : Ok W B y rm mL ret l Z h0) {o : Int} {a : Nat} (hd : decode B pc = .ok (.ifnonnull o, 3)) (ho : 0 ≤ (pc : Int) + o) (hp : ((pc : Int) + o).toNat = pc') (hr : Go W Q ds k n pc' Ls st) : Go W Q ds k n pc Ls (.ref a :: st) :=
  go_of K (fun hx hby hown hZ X t h => XT.ifnonnullYes X.here hx rfl rfl (hb hby hd) rfl ho hp h) hr
theorem go_acY (K : Ok W B y rm mL ret l Z h0) {o : Int} {cd : ClassFile.ACond} {a b : Value} (hd : decode B pc = .ok (.if_acmp cd o, 3)) (h1 : a.isRef = true) (h2 : b.isRef = true) (hc : XT.acmp cd a b = true) (ho : 0 ≤ (pc : Int) + o) (hp : ((pc : Int) + o).toNat = pc')
    (hr : Go W Q ds k n pc' Ls st) : Go W Q ds k n pc Ls (b :: a :: st) :=
  go_of K (fun hx hby hown hZ X t h => XT.acmpYes X.here hx rfl rfl (hb hby hd) rfl h1 h2 hc ho hp h) hr
theorem go_acN (K : Ok W B y rm mL ret l Z h0) {o : Int} {cd : ClassFile.ACond} {a b : Value} (hd : decode B pc = .ok (.if_acmp cd o, 3)) (h1 : a.isRef = true) (h2 : b.isRef = true) (hc : XT.acmp cd a b = false) (hp : pc + 3 = pc')
    (hr : Go W Q ds k n pc' Ls st) : Go W Q ds k n pc Ls (b :: a :: st) := by
  subst hp
  exact go_of K (fun hx hby hown hZ X t h => XT.acmpNo X.here hx rfl (hb hby hd) rfl h1 h2 hc h) hr
/-! returns -/
theorem go_done (K : Ok W B y rm mL ret l Z h0) {v : Option Value} (hv : ret = none → v = none) (hk : k ≤ rm.cells) (hn : n ≤ rm.slots)
    (f : ∀ {p : Program} {l : Launch} {e : Env} {R : Room} {s : State} {m : MethodId} {args : Array Value} {below : List Frame} {meth : Method} {c : Code} {T : State} {L : List Loc} {fs : List Frame}, p.tables.exec = Jvm.exec → c.code = B → meth.sig.returnType = ret →
      Stand p l e R s m args below meth c T L k n → (∀ (f : JFrame) (acts : List Action), f.method = m → f.locked = none → f.entered = [] → (doReturn e (T.setTop f) acts v).1 = T.setFrames fs) → Steps p.tables e below (T.setTop (mkF m pc Ls st)) (T.setFrames fs))
    (hq : Q v ds) : Go W Q ds k n pc Ls st := by
  obtain ⟨p, l, e, R, s, m, args, below, meth, c, Z, h0⟩ := W
  obtain ⟨k1, k2, k3, k4, k5, k6, k7, k8, rfl, rfl, rfl, rfl⟩ := K
  intro T L N X H
  obtain ⟨fs, hr, hrun, hended, hW, hsame⟩ := X.leave (v := v) (fun h => hv (k6.symm.trans h)) k7
  exact ⟨_, v, f k1 k3 k6 X hr, hrun, hended, L, ds, N, H, hq, ⟨_, rfl⟩, hW, hsame.mono hk hn⟩
theorem go_ret (K : Ok W B y rm mL none l Z h0) (hd : decode B pc = .ok (.return_, 1)) (hk : k ≤ rm.cells) (hn : n ≤ rm.slots) (hq : Q none ds) : Go W Q ds k n pc Ls [] :=
  go_done K (v := none) (fun _ => rfl) hk hn (fun hx hby hret X hr => X.returnOut hx hret (hb hby hd) hr) hq
theorem go_iret (K : Ok W B y rm mL (some .int) l Z h0) {z : Int32} (hd : decode B pc = .ok (.ireturn, 1)) (hk : k ≤ rm.cells) (hn : n ≤ rm.slots) (hq : Q (some (.int z)) ds) : Go W Q ds k n pc Ls (.int z :: st) :=
  go_done K (v := some (.int z)) (fun h => by cases h) hk hn (fun hx hby hret X hr => retOut X hx hret rfl (Or.inl ⟨rfl, Or.inl rfl, _, rfl⟩) (hb hby hd) hr) hq
theorem go_zret (K : Ok W B y rm mL (some .boolean) l Z h0) {z : Int32} (hd : decode B pc = .ok (.ireturn, 1)) (hk : k ≤ rm.cells) (hn : n ≤ rm.slots) (hz : z = 0 ∨ z = 1) (hq : Q (some (.int z)) ds) : Go W Q ds k n pc Ls (.int z :: st) :=
  go_done K (v := some (.int z)) (fun h => by cases h) hk hn (fun hx hby hret X hr => retOut X hx hret (by rcases hz with rfl | rfl <;> rfl) (Or.inl ⟨rfl, Or.inr (Or.inl rfl), _, rfl⟩) (hb hby hd) hr) hq
theorem go_lret (K : Ok W B y rm mL (some .long) l Z h0) {z : Int64} (hd : decode B pc = .ok (.lreturn, 1)) (hk : k ≤ rm.cells) (hn : n ≤ rm.slots) (hq : Q (some (.long z)) ds) : Go W Q ds k n pc Ls (.long z :: st) :=
  go_done K (v := some (.long z)) (fun h => by cases h) hk hn (fun hx hby hret X hr => retOut X hx hret rfl (Or.inr (Or.inl ⟨rfl, rfl, _, rfl⟩)) (hb hby hd) hr) hq
theorem go_aret {t : FieldType} (K : Ok W B y rm mL (some t) l Z h0) {a : Nat} (ht : t.isReference = true) (hd : decode B pc = .ok (.areturn, 1)) (hk : k ≤ rm.cells) (hn : n ≤ rm.slots) (hq : Q (some (.ref a)) ds) : Go W Q ds k n pc Ls (.ref a :: st) :=
  go_done K (v := some (.ref a)) (fun h => by cases h) hk hn (fun hx hby hret X hr => retOut X hx hret (by cases t <;> first | rfl | cases ht) (Or.inr (Or.inr (Or.inr (Or.inr ⟨rfl, ht, rfl⟩)))) (hb hby hd) hr) hq
/-! arrays -/
theorem inb {vs : List Value} {c : Cell} {j : Int32} {m : Nat} (S : c.slots = vs.toArray) (hj : j.toInt = (m : Int)) (hm : m < vs.length) : ¬ (j < 0 ∨ c.slots.size ≤ j.toNatClampNeg) := by
  have e : j.toNatClampNeg = m := by simp [Int32.toNatClampNeg, hj]
  rw [e, S, List.size_toArray, Int32.lt_iff_toInt_lt, hj]
  have z : (0 : Int32).toInt = 0 := rfl
  rw [z]; omega
theorem go_alen (K : Ok W B y rm mL ret l Z h0) {i a : Nat} {ty : FieldType} {vs : List Value} {z : Int32} (ha : ds[i]? = some (a, .inl (ty, vs))) (hd : decode B pc = .ok (.arraylength, 1)) (hz : vs.length.toInt32 = z) (hp : pc + 1 = pc')
    (hr : Go W Q ds k n pc' Ls (.int z :: st)) : Go W Q ds k n pc Ls (.ref a :: st) := by
  obtain ⟨p, l, e, R, s, m, args, below, meth, c, Z, h0⟩ := W
  obtain ⟨k1, k2, k3, k4, k5, k6, k7, k8, rfl, rfl, rfl, rfl⟩ := K
  intro T L N X H
  obtain ⟨s₂, v, h1, rest⟩ := hr T L N X H
  obtain ⟨-, cl, A, S, -⟩ := H.2.1 _ _ ha
  subst hp hz
  refine ⟨s₂, v, X.arraylength k1 A.1 (State.isArrayOf_alike k2.alike A.2.1) (g := mkF m pc Ls (.ref a :: st)) rfl rfl (hb k3 hd) _ ?_, rest⟩
  have q : cl.slots.size = vs.length := by rw [S, List.size_toArray]
  rw [q]; exact h1

theorem go_iaload (K : Ok W B y rm mL ret l Z h0) {i a m : Nat} {xs : List Int32} {j : Int32} {x : Int32} (ha : ds[i]? = some (a, ia xs)) (hd : decode B pc = .ok (.iaload, 1)) (hj : j.toInt = (m : Int)) (hx : xs[m]? = some x) (hp : pc + 1 = pc')
    (hr : Go W Q ds k n pc' Ls (.int x :: st)) : Go W Q ds k n pc Ls (.int j :: .ref a :: st) := by
  obtain ⟨p, l, e, R, s, mm, args, below, meth, c, Z, h0⟩ := W
  obtain ⟨k1, k2, k3, k4, k5, k6, k7, k8, rfl, rfl, rfl, rfl⟩ := K
  intro T L N X H
  obtain ⟨s₂, v, h1, rest⟩ := hr T L N X H
  obtain ⟨-, cl, A, S, -⟩ := H.2.1 _ _ ha
  subst hp
  have hm : m < xs.length := (List.getElem?_eq_some_iff.mp hx).1
  have e1 : j.toNatClampNeg = m := by simp [Int32.toNatClampNeg, hj]
  refine ⟨s₂, v, X.iaload k1 A.1 (State.isArrayOf_alike k2.alike A.2.1) A.2.2 (inb S hj (by simpa using hm)) (v := .int x) ?_ (g := mkF mm pc Ls (.int j :: .ref a :: st)) rfl rfl (hb k3 hd) _ h1, rest⟩
  rw [e1, S]; simp [hx]
theorem go_laload (K : Ok W B y rm mL ret l Z h0) {i a m : Nat} {xs : List Int64} {j : Int32} {x : Int64} (ha : ds[i]? = some (a, la xs)) (hd : decode B pc = .ok (.laload, 1)) (hj : j.toInt = (m : Int)) (hx : xs[m]? = some x) (hp : pc + 1 = pc')
    (hr : Go W Q ds k n pc' Ls (.long x :: st)) : Go W Q ds k n pc Ls (.int j :: .ref a :: st) := by
  obtain ⟨p, l, e, R, s, mm, args, below, meth, c, Z, h0⟩ := W
  obtain ⟨k1, k2, k3, k4, k5, k6, k7, k8, rfl, rfl, rfl, rfl⟩ := K
  intro T L N X H
  obtain ⟨s₂, v, h1, rest⟩ := hr T L N X H
  obtain ⟨-, cl, A, S, -⟩ := H.2.1 _ _ ha
  subst hp
  have hm : m < xs.length := (List.getElem?_eq_some_iff.mp hx).1
  have e1 : j.toNatClampNeg = m := by simp [Int32.toNatClampNeg, hj]
  refine ⟨s₂, v, X.laload k1 A.1 (State.isArrayOf_alike k2.alike A.2.1) A.2.2 (inb S hj (by simpa using hm)) (v := .long x) ?_ (g := mkF mm pc Ls (.int j :: .ref a :: st)) rfl rfl (hb k3 hd) _ h1, rest⟩
  rw [e1, S]; simp [hx]
theorem go_baload (K : Ok W B y rm mL ret l Z h0) {i a m : Nat} {xs : List Int32} {j : Int32} {x : Int32} (ha : ds[i]? = some (a, ba xs)) (hd : decode B pc = .ok (.baload, 1)) (hj : j.toInt = (m : Int)) (hx : xs[m]? = some x) (hp : pc + 1 = pc')
    (hr : Go W Q ds k n pc' Ls (.int x :: st)) : Go W Q ds k n pc Ls (.int j :: .ref a :: st) := by
  obtain ⟨p, l, e, R, s, mm, args, below, meth, c, Z, h0⟩ := W
  obtain ⟨k1, k2, k3, k4, k5, k6, k7, k8, rfl, rfl, rfl, rfl⟩ := K
  intro T L N X H
  obtain ⟨s₂, v, h1, rest⟩ := hr T L N X H
  obtain ⟨-, cl, A, S, -⟩ := H.2.1 _ _ ha
  subst hp
  have hm : m < xs.length := (List.getElem?_eq_some_iff.mp hx).1
  have e1 : j.toNatClampNeg = m := by simp [Int32.toNatClampNeg, hj]
  refine ⟨s₂, v, X.baloadBytes k1 A.1 (State.isArrayOf_alike k2.alike A.2.1) A.2.2 (inb S hj (by simpa using hm)) (v := .int x) ?_ (g := mkF mm pc Ls (.int j :: .ref a :: st)) rfl rfl (hb k3 hd) _ h1, rest⟩
  rw [e1, S]; simp [hx]
theorem go_iastore (K : Ok W B y rm mL ret l Z h0) {i a m : Nat} {xs : List Int32} {j : Int32} {x : Int32} {ds' : Hp} (ha : ds[i]? = some (a, ia xs)) (hd : decode B pc = .ok (.iastore, 1)) (hj : j.toInt = (m : Int)) (hm : m < xs.length) (hp : pc + 1 = pc') (hs : ds.set i (a, ia (xs.set m x)) = ds')
    (hr : Go W Q ds' k n pc' Ls st) : Go W Q ds k n pc Ls (.int x :: .int j :: .ref a :: st) := by
  subst hs hp
  obtain ⟨p, l, e, R, s, mm, args, below, meth, c, Z, h0⟩ := W
  obtain ⟨k1, k2, k3, k4, k5, k6, k7, k8, rfl, rfl, rfl, rfl⟩ := K
  intro T L N X H
  obtain ⟨hge, cl, A, S, EX⟩ := H.2.1 _ _ ha
  have e1 : j.toNatClampNeg = m := by simp [Int32.toNatClampNeg, hj]
  obtain ⟨T', h', X', eT, Wr1, stp⟩ := stI X k1 k2 rfl A (inb S hj (by simpa using hm)) (g := mkF mm pc Ls (.int x :: .int j :: .ref a :: st)) rfl rfl (hb k3 hd)
  rw [e1] at Wr1 X'
  obtain ⟨s₂, v, h1, rest⟩ := hr T' _ (N.snoc X' hge) X' (by
    rw [eT]
    refine H.set ha Wr1 ⟨_, A.same Wr1, ?_, EX.wr Wr1⟩
    simp [Cell.setSlot, S, List.map_set])
  exact ⟨s₂, v, stp _ h1, rest⟩
theorem go_lastore (K : Ok W B y rm mL ret l Z h0) {i a m : Nat} {xs : List Int64} {j : Int32} {x : Int64} {ds' : Hp} (ha : ds[i]? = some (a, la xs)) (hd : decode B pc = .ok (.lastore, 1)) (hj : j.toInt = (m : Int)) (hm : m < xs.length) (hp : pc + 1 = pc') (hs : ds.set i (a, la (xs.set m x)) = ds')
    (hr : Go W Q ds' k n pc' Ls st) : Go W Q ds k n pc Ls (.long x :: .int j :: .ref a :: st) := by
  subst hs hp
  obtain ⟨p, l, e, R, s, mm, args, below, meth, c, Z, h0⟩ := W
  obtain ⟨k1, k2, k3, k4, k5, k6, k7, k8, rfl, rfl, rfl, rfl⟩ := K
  intro T L N X H
  obtain ⟨hge, cl, A, S, EX⟩ := H.2.1 _ _ ha
  have e1 : j.toNatClampNeg = m := by simp [Int32.toNatClampNeg, hj]
  obtain ⟨T', h', X', eT, Wr1, stp⟩ := stJ X k1 k2 rfl A (inb S hj (by simpa using hm)) (g := mkF mm pc Ls (.long x :: .int j :: .ref a :: st)) rfl rfl (hb k3 hd)
  rw [e1] at Wr1 X'
  obtain ⟨s₂, v, h1, rest⟩ := hr T' _ (N.snoc X' hge) X' (by
    rw [eT]
    refine H.set ha Wr1 ⟨_, A.same Wr1, ?_, EX.wr Wr1⟩
    simp [Cell.setSlot, S, List.map_set])
  exact ⟨s₂, v, stp _ h1, rest⟩
theorem go_bastore (K : Ok W B y rm mL ret l Z h0) {i a m : Nat} {xs : List Int32} {j : Int32} {x : Int32} {ds' : Hp} (ha : ds[i]? = some (a, ba xs)) (hd : decode B pc = .ok (.bastore, 1)) (hj : j.toInt = (m : Int)) (hm : m < xs.length) (hp : pc + 1 = pc') (hs : ds.set i (a, ba (xs.set m (nar .byte x))) = ds')
    (hr : Go W Q ds' k n pc' Ls st) : Go W Q ds k n pc Ls (.int x :: .int j :: .ref a :: st) := by
  subst hs hp
  obtain ⟨p, l, e, R, s, mm, args, below, meth, c, Z, h0⟩ := W
  obtain ⟨k1, k2, k3, k4, k5, k6, k7, k8, rfl, rfl, rfl, rfl⟩ := K
  intro T L N X H
  obtain ⟨hge, cl, A, S, EX⟩ := H.2.1 _ _ ha
  have e1 : j.toNatClampNeg = m := by simp [Int32.toNatClampNeg, hj]
  obtain ⟨T', h', X', eT, Wr1, stp⟩ := stB X k1 k2 rfl A (inb S hj (by simpa using hm)) (g := mkF mm pc Ls (.int x :: .int j :: .ref a :: st)) rfl rfl (hb k3 hd)
  rw [e1] at Wr1 X'
  obtain ⟨s₂, v, h1, rest⟩ := hr T' _ (N.snoc X' hge) X' (by
    rw [eT]
    refine H.set ha Wr1 ⟨_, A.same Wr1, ?_, EX.wr Wr1⟩
    simp [Cell.setSlot, S, List.map_set])
  exact ⟨s₂, v, stp _ h1, rest⟩
theorem go_newI (K : Ok W B y rm mL ret l Z h0) {m cap : Nat} {z : Int32} (w : (Jvm.Cond.arrayClass .int).before a0 Z = true) (hd : decode B pc = .ok (.newarray .int, 2)) (hz : z.toInt = (m : Int)) (hcap : m ≤ cap) (hb8 : cap * 8 ≤ 536870912) (hk : k + 1 ≤ rm.cells) (hn : n + cap ≤ rm.slots) (hp : pc + 2 = pc')
    (hr : ∀ a, h0.size ≤ a → (∀ q ∈ ds, q.1 < a) → Go W Q (ds ++ [(a, ia (List.replicate m 0))]) (k + 1) (n + cap) pc' Ls (.ref a :: st)) : Go W Q ds k n pc Ls (.int z :: st) := by
  subst hp
  obtain ⟨p, l, e, R, s, mm, args, below, meth, c, Z, h0⟩ := W
  obtain ⟨k1, k2, k3, k4, k5, k6, k7, k8, rfl, rfl, rfl, rfl⟩ := K
  intro T L N X H
  have e1 : z.toNatClampNeg = m := by simp [Int32.toNatClampNeg, hz]
  obtain ⟨T', h', cA, X', eT, E, A, EX, stp⟩ := newPE X k1 k2 (aty := .int) w rfl (g := mkF mm pc Ls (.int z :: st)) rfl (hb k3 hd) rfl (by rw [Int32.lt_iff_toInt_lt, hz]; exact Int.not_lt.mpr (Int.natCast_nonneg m)) (cap := cap) (by rw [e1]; exact hcap) hb8 hk hn rfl
  obtain ⟨s₂, v, h1, rest⟩ := hr T.heap.size H.1.1 H.lts T' _ N X' (by
    rw [eT]
    refine H.new E ⟨_, A, ?_, EX⟩
    simp only [newA, e1, List.map_replicate]
    first | rfl | simp [defaultValue, newarray.typeOf])
  exact ⟨s₂, v, stp _ h1, rest⟩
theorem go_newJ (K : Ok W B y rm mL ret l Z h0) {m cap : Nat} {z : Int32} (w : (Jvm.Cond.arrayClass .long).before a0 Z = true) (hd : decode B pc = .ok (.newarray .long, 2)) (hz : z.toInt = (m : Int)) (hcap : m ≤ cap) (hb8 : cap * 8 ≤ 536870912) (hk : k + 1 ≤ rm.cells) (hn : n + cap ≤ rm.slots) (hp : pc + 2 = pc')
    (hr : ∀ a, h0.size ≤ a → (∀ q ∈ ds, q.1 < a) → Go W Q (ds ++ [(a, la (List.replicate m 0))]) (k + 1) (n + cap) pc' Ls (.ref a :: st)) : Go W Q ds k n pc Ls (.int z :: st) := by
  subst hp
  obtain ⟨p, l, e, R, s, mm, args, below, meth, c, Z, h0⟩ := W
  obtain ⟨k1, k2, k3, k4, k5, k6, k7, k8, rfl, rfl, rfl, rfl⟩ := K
  intro T L N X H
  have e1 : z.toNatClampNeg = m := by simp [Int32.toNatClampNeg, hz]
  obtain ⟨T', h', cA, X', eT, E, A, EX, stp⟩ := newPE X k1 k2 (aty := .long) w rfl (g := mkF mm pc Ls (.int z :: st)) rfl (hb k3 hd) rfl (by rw [Int32.lt_iff_toInt_lt, hz]; exact Int.not_lt.mpr (Int.natCast_nonneg m)) (cap := cap) (by rw [e1]; exact hcap) hb8 hk hn rfl
  obtain ⟨s₂, v, h1, rest⟩ := hr T.heap.size H.1.1 H.lts T' _ N X' (by
    rw [eT]
    refine H.new E ⟨_, A, ?_, EX⟩
    simp only [newA, e1, List.map_replicate]
    first | rfl | simp [defaultValue, newarray.typeOf])
  exact ⟨s₂, v, stp _ h1, rest⟩
theorem go_newB (K : Ok W B y rm mL ret l Z h0) {m cap : Nat} {z : Int32} (w : (Jvm.Cond.arrayClass .byte).before a0 Z = true) (hd : decode B pc = .ok (.newarray .byte, 2)) (hz : z.toInt = (m : Int)) (hcap : m ≤ cap) (hb8 : cap * 8 ≤ 536870912) (hk : k + 1 ≤ rm.cells) (hn : n + cap ≤ rm.slots) (hp : pc + 2 = pc')
    (hr : ∀ a, h0.size ≤ a → (∀ q ∈ ds, q.1 < a) → Go W Q (ds ++ [(a, ba (List.replicate m 0))]) (k + 1) (n + cap) pc' Ls (.ref a :: st)) : Go W Q ds k n pc Ls (.int z :: st) := by
  subst hp
  obtain ⟨p, l, e, R, s, mm, args, below, meth, c, Z, h0⟩ := W
  obtain ⟨k1, k2, k3, k4, k5, k6, k7, k8, rfl, rfl, rfl, rfl⟩ := K
  intro T L N X H
  have e1 : z.toNatClampNeg = m := by simp [Int32.toNatClampNeg, hz]
  obtain ⟨T', h', cA, X', eT, E, A, EX, stp⟩ := newPE X k1 k2 (aty := .byte) w rfl (g := mkF mm pc Ls (.int z :: st)) rfl (hb k3 hd) rfl (by rw [Int32.lt_iff_toInt_lt, hz]; exact Int.not_lt.mpr (Int.natCast_nonneg m)) (cap := cap) (by rw [e1]; exact hcap) hb8 hk hn rfl
  obtain ⟨s₂, v, h1, rest⟩ := hr T.heap.size H.1.1 H.lts T' _ N X' (by
    rw [eT]
    refine H.new E ⟨_, A, ?_, EX⟩
    simp only [newA, e1, List.map_replicate]
    first | rfl | simp [defaultValue, newarray.typeOf])
  exact ⟨s₂, v, stp _ h1, rest⟩

/-! calls -/
theorem go_static (K : Ok W B y rm mL ret l Z h0) {y' : MethodName} {B' : ByteArray} {mL' idx Wd : Nat} {ret' : Option FieldType} {rm' : Room} {Q' : Option Value → Hp → Prop} {argsL rest : List Value}
    (w1 : (Jvm.Cond.methodLink y.cls idx y').before a0 Z = true) (w2 : (Jvm.Cond.static y').before a0 Z = true) (w3 : (Jvm.Cond.initialized y'.cls).before a0 Z = true) (w4 : (Jvm.Cond.code y' B' mL' ret').before a0 Z = true)
    (hd : decode B pc = .ok (.invokestatic idx, 3)) (hct : Ct l Z h0 y' B' mL' ret' [] rm' argsL.toArray ds Q') (hlen : ∀ sig, parseMethodDescriptor y'.desc = some sig → argsL.length = sig.parameters.length) (hsz : Ls.size = mL) (hst : st = argsL.reverse ++ rest)
    (hy : y'.cls ≠ "java/lang/invoke/MethodHandle" ∧ y'.cls ≠ "java/lang/invoke/VarHandle") (hW : (rest.map fun v => v.category).sum = Wd) (hf : rm'.frames + 1 ≤ rm.frames) (hl : Wd + (mL' + 11) + rm'.locals ≤ rm.locals) (hk : k + rm'.cells ≤ rm.cells) (hn : n + rm'.slots ≤ rm.slots) (hp : pc + 3 = pc')
    (hr : ∀ v ds', Q' v ds' → Go W Q ds' (k + rm'.cells) (n + rm'.slots) pc' Ls (v.toList ++ rest)) : Go W Q ds k n pc Ls st := by
  subst hp hst
  obtain ⟨p, l, e, R, s, m, args, below, meth, c, Z, h0⟩ := W
  obtain ⟨k1, k2, k3, k4, k5, k6, k7, k8, rfl, rfl, rfl, rfl⟩ := K
  intro T L N X H
  obtain ⟨v, vm₁, ⟨T', L', kk, nn⟩, -, X', ⟨Lc, hQ, l1, y1, z1⟩, stp⟩ := Jvm.LawKit.callS X k1 (y := y') k5 (mvT k2 w1) (mvT k2 w2) (mvT k2 w3) (mvT k2 w4) hy
    (backOf (W := Wd) (Q := fun v h L => Fr h0.size L ∧ ∃ ds', HL Z h0 ds' h ∧ Q' v ds') (hct _ H) k2 w4 w3 hf hl) (g := mkF m pc Ls (argsL.reverse ++ rest)) rfl (hsz.trans k4.symm) (argsL := argsL) (rest := rest) hlen rfl (by show 2 * 0 + _ ≤ _; omega) (hb k3 hd) (fun _ _ => ⟨rfl, rfl, hk, hn⟩)
  dsimp only [Pt.U, Pt.locs, Pt.cells, Pt.slots] at X' l1 y1 z1 stp hQ
  subst l1 y1 z1
  obtain ⟨N', ds', H', hq⟩ := hQ
  obtain ⟨s₂, v₂, h1, rest'⟩ := hr v ds' hq T' _ (N.app N') X' H'
  exact ⟨s₂, v₂, stp _ h1, rest'⟩
theorem go_virtual (K : Ok W B y rm mL ret l Z h0) {y' : MethodName} {B' : ByteArray} {mL' idx Wd i b : Nat} {ret' : Option FieldType} {rm' : Room} {Q' : Option Value → Hp → Prop} {argsL rest : List Value} {C : String} {fs : List ((String × String × String) × Value)}
    (w1 : (Jvm.Cond.methodLink y.cls idx y').before a0 Z = true) (w2 : (Jvm.Cond.declares y').before a0 Z = true) (w3 : (Jvm.Cond.selects C y' y').before a0 Z = true) (w4 : (Jvm.Cond.instanceMethod y').before a0 Z = true) (w5 : (Jvm.Cond.initialized y'.cls).before a0 Z = true) (w6 : (Jvm.Cond.code y' B' mL' ret').before a0 Z = true)
    (ha : ds[i]? = some (b, .inr (C, fs))) (hd : decode B pc = .ok (.invokevirtual idx, 3)) (hct : Ct l Z h0 y' B' mL' ret' [] rm' (.ref b :: argsL).toArray ds Q') (hlen : ∀ sig, parseMethodDescriptor y'.desc = some sig → argsL.length = sig.parameters.length) (hsz : Ls.size = mL) (hst : st = argsL.reverse ++ .ref b :: rest)
    (hy : y'.cls ≠ "java/lang/invoke/MethodHandle" ∧ y'.cls ≠ "java/lang/invoke/VarHandle") (hW : (rest.map fun v => v.category).sum = Wd) (hf : rm'.frames + 1 ≤ rm.frames) (hl : Wd + (mL' + 11) + rm'.locals ≤ rm.locals) (hk : k + rm'.cells ≤ rm.cells) (hn : n + rm'.slots ≤ rm.slots) (hp : pc + 3 = pc')
    (hr : ∀ v ds', Q' v ds' → Go W Q ds' (k + rm'.cells) (n + rm'.slots) pc' Ls (v.toList ++ rest)) : Go W Q ds k n pc Ls st := by
  subst hp hst
  obtain ⟨p, l, e, R, s, m, args, below, meth, c, Z, h0⟩ := W
  obtain ⟨k1, k2, k3, k4, k5, k6, k7, k8, rfl, rfl, rfl, rfl⟩ := K
  intro T L N X H
  obtain ⟨-, E, -⟩ := H.2.1 _ _ ha
  obtain ⟨cB, kB, q1, -, q3⟩ := isOf (T := T) k2 rfl E
  obtain ⟨v, vm₁, ⟨T', L', kk, nn⟩, -, X', ⟨Lc, hQ, l1, y1, z1⟩, stp⟩ := X.virtualBack k1 (y := y') (z := y') k5 (mvT k2 w1) (mvT k2 w2) (notFace_of_selects (args := #[]) (mvT k2 w3)) (mvT k2 w3) (mvT k2 w4) hy
    (backOf (W := Wd) (Q := fun v h L => Fr h0.size L ∧ ∃ ds', HL Z h0 ds' h ∧ Q' v ds') (hct _ H) k2 w6 w5 hf hl) q1 q3 (g := mkF m pc Ls (argsL.reverse ++ .ref b :: rest)) rfl (hsz.trans k4.symm) (Steps.refl _) (argsL := argsL) (rest := rest) hlen rfl (by show 2 * 0 + _ ≤ _; omega) (hb k3 hd) (fun _ _ => ⟨rfl, rfl, hk, hn⟩)
  dsimp only [Pt.U, Pt.locs, Pt.cells, Pt.slots] at X' l1 y1 z1 stp hQ
  subst l1 y1 z1
  obtain ⟨N', ds', H', hq⟩ := hQ
  obtain ⟨s₂, v₂, h1, rest'⟩ := hr v ds' hq T' _ (N.app N') X' H'
  exact ⟨s₂, v₂, stp.trans h1, rest'⟩
theorem go_special (K : Ok W B y rm mL ret l Z h0) {y' : MethodName} {B' : ByteArray} {mL' idx Wd b : Nat} {rm' : Room} {Q' : Option Value → Hp → Prop} {argsL rest : List Value} (hin : y'.name = "<init>")
    (w1 : (Jvm.Cond.methodLink y.cls idx y').before a0 Z = true) (w2 : (Jvm.Cond.instanceMethod y').before a0 Z = true) (w3 : (Jvm.Cond.initialized y'.cls).before a0 Z = true) (w4 : (Jvm.Cond.code y' B' mL' none).before a0 Z = true)
    (hd : decode B pc = .ok (.invokespecial idx, 3)) (hct : Ct l Z h0 y' B' mL' none [] rm' (.ref b :: argsL).toArray ds Q') (hlen : ∀ sig, parseMethodDescriptor y'.desc = some sig → argsL.length = sig.parameters.length) (hsz : Ls.size = mL) (hst : st = argsL.reverse ++ .ref b :: rest)
    (hy : y'.cls ≠ "java/lang/invoke/MethodHandle" ∧ y'.cls ≠ "java/lang/invoke/VarHandle") (hW : (rest.map fun v => v.category).sum = Wd) (hf : rm'.frames + 1 ≤ rm.frames) (hl : Wd + (mL' + 11) + rm'.locals ≤ rm.locals) (hk : k + rm'.cells ≤ rm.cells) (hn : n + rm'.slots ≤ rm.slots) (hp : pc + 3 = pc')
    (hr : ∀ v ds', Q' v ds' → Go W Q ds' (k + rm'.cells) (n + rm'.slots) pc' Ls (v.toList ++ rest)) : Go W Q ds k n pc Ls st := by
  subst hp hst
  obtain ⟨p, l, e, R, s, m, args, below, meth, c, Z, h0⟩ := W
  obtain ⟨k1, k2, k3, k4, k5, k6, k7, k8, rfl, rfl, rfl, rfl⟩ := K
  intro T L N X H
  obtain ⟨v, vm₁, ⟨T', L', kk, nn⟩, -, X', ⟨Lc, hQ, l1, y1, z1⟩, stp⟩ := X.specialBack k1 (y := y') hin k5 (mvT k2 w1) (mvT k2 w2) (mvT k2 w4) hy
    (backOf (W := Wd) (Q := fun v h L => Fr h0.size L ∧ ∃ ds', HL Z h0 ds' h ∧ Q' v ds') (hct _ H) k2 w4 w3 hf hl) (g := mkF m pc Ls (argsL.reverse ++ .ref b :: rest)) rfl (hsz.trans k4.symm) (Steps.refl _) (a := b) (argsL := argsL) (rest := rest) hlen rfl (by show 2 * 0 + _ ≤ _; omega) (hb k3 hd) (fun _ _ => ⟨rfl, rfl, hk, hn⟩)
  dsimp only [Pt.U, Pt.locs, Pt.cells, Pt.slots] at X' l1 y1 z1 stp hQ
  subst l1 y1 z1
  obtain ⟨N', ds', H', hq⟩ := hQ
  obtain ⟨s₂, v₂, h1, rest'⟩ := hr v ds' hq T' _ (N.app N') X' H'
  exact ⟨s₂, v₂, stp.trans h1, rest'⟩
/-! objects -/
theorem go_objinit (K : Ok W B y rm mL ret l Z h0) {idx Wd b : Nat} (w1 : (Jvm.Cond.methodLink y.cls idx Lib.objectInit).before a0 Z = true) (w2 : (Jvm.Cond.instanceMethod Lib.objectInit).before a0 Z = true) (w3 : (Jvm.Cond.code Lib.objectInit ⟨#[0xb1]⟩ 1 none).before a0 Z = true)
    (hd : decode B pc = .ok (.invokespecial idx, 3)) (hsz : Ls.size = mL) (hW : (st.map fun v => v.category).sum = Wd) (hf : 1 ≤ rm.frames) (hl : Wd + 12 ≤ rm.locals) (hp : pc + 3 = pc') (hr : Go W Q ds k n pc' Ls st) : Go W Q ds k n pc Ls (.ref b :: st) := by
  subst hp
  obtain ⟨p, l, e, R, s, m, args, below, meth, c, Z, h0⟩ := W
  obtain ⟨k1, k2, k3, k4, k5, k6, k7, k8, rfl, rfl, rfl, rfl⟩ := K
  intro T L N X H
  obtain ⟨T', X', eT, stp⟩ := initO X k1 k2 k5 w1 w2 w3 rfl (g := mkF m pc Ls (.ref b :: st)) rfl (hsz.trans k4.symm) rfl (hb k3 hd) hf (W := Wd) (by show 2 * 0 + _ ≤ _; omega) hl
  obtain ⟨s₂, v₂, h1, rest'⟩ := hr T' L N X' (by rw [eT]; exact H)
  exact ⟨s₂, v₂, stp _ h1, rest'⟩
theorem go_getfield (K : Ok W B y rm mL ret l Z h0) {idx i j a : Nat} {C O nm d : String} {fs : List ((String × String × String) × Value)} {x : Value} (w : (Jvm.Cond.fieldLink y.cls idx O nm d).before a0 Z = true)
    (ha : ds[i]? = some (a, .inr (C, fs))) (hf : fs[j]? = some ((O, nm, d), x)) (hd : decode B pc = .ok (.getfield idx, 3)) (hp : pc + 3 = pc') (hr : Go W Q ds k n pc' Ls (x :: st)) : Go W Q ds k n pc Ls (.ref a :: st) := by
  subst hp
  obtain ⟨p, l, e, R, s, m, args, below, meth, c, Z, h0⟩ := W
  obtain ⟨k1, k2, k3, k4, k5, k6, k7, k8, rfl, rfl, rfl, rfl⟩ := K
  intro T L N X H
  obtain ⟨-, E, F⟩ := H.2.1 _ _ ha
  obtain ⟨T', X', eT, stp⟩ := getF X k1 k2 k5 (host := "") (Or.inl w) Via.refl rfl (F j _ hf) (g := mkF m pc Ls (.ref a :: st)) rfl rfl (hb k3 hd)
  obtain ⟨s₂, v₂, h1, rest'⟩ := hr T' L N X' (by rw [eT]; exact H)
  exact ⟨s₂, v₂, stp _ h1, rest'⟩
theorem go_putfield (K : Ok W B y rm mL ret l Z h0) {idx i j a kk : Nat} {C O nm d : String} {fs : List ((String × String × String) × Value)} {KS : List (String × String × String)} {x old : Value} {ty : FieldType} {ds' : Hp} (w : (Jvm.Cond.fieldLink y.cls idx O nm d).before a0 Z = true)
    (wl : (Jvm.Cond.lays C O nm d).before a0 Z = true ∨ ((Jvm.Cond.laysFinal C O nm d).before a0 Z = true ∧ y.cls = O ∧ y.name = "<init>")) (wi : (Jvm.Cond.instantiable C kk).before a0 Z = true)
    (ha : ds[i]? = some (a, .inr (C, fs))) (hf : fs[j]? = some ((O, nm, d), old)) (hks : fs.map Prod.fst = KS) (al : ∀ f ∈ KS, Laid Z a0 C f.1 f.2.1 f.2.2 ∧ ∃ t, parseFieldDescriptor f.2.2 = some t) (nd : (KS.map fun f => f.2.1).Nodup)
    (hty : parseFieldDescriptor d = some ty) (hn : narrow ty x = x) (hfi : fits ty x = true) (hd : decode B pc = .ok (.putfield idx, 3)) (hp : pc + 3 = pc') (hs : ds.set i (a, .inr (C, fs.set j ((O, nm, d), x))) = ds')
    (hr : Go W Q ds' k n pc' Ls st) : Go W Q ds k n pc Ls (x :: .ref a :: st) := by
  subst hp hs hks
  have hkey : ∀ j' (f : (String × String × String) × Value), fs[j']? = some f → (fs.map Prod.fst)[j']? = some f.1 := fun j' f h => by rw [List.getElem?_map, h]; rfl
  have hne : ∀ (j' : Nat) (f : (String × String × String) × Value), fs[j']? = some f → j' ≠ j → Jvm.RoadKit.slotOf Z f.1.1 f.1.2.1 f.1.2.2 ≠ Jvm.RoadKit.slotOf Z O nm d := fun j' f hf' hj => by
    obtain ⟨L1, t1, p1⟩ := al f.1 (List.mem_of_getElem? (hkey j' f hf'))
    obtain ⟨L2, t2, p2⟩ := al (O, nm, d) (List.mem_of_getElem? (hkey j _ hf))
    refine slot_ne L1 L2 (fun e => hj ?_) p1 p2
    have q1 : ((fs.map Prod.fst).map fun f => f.2.1)[j']? = some f.1.2.1 := by rw [List.getElem?_map, hkey j' f hf']; rfl
    have q2 : ((fs.map Prod.fst).map fun f => f.2.1)[j]? = some nm := by rw [List.getElem?_map, hkey j _ hf]; rfl
    have lt : j' < ((fs.map Prod.fst).map fun f => f.2.1).length := (List.getElem?_eq_some_iff.mp q1).1
    exact (List.getElem?_inj lt nd).mp (by rw [q1, q2, e])
  obtain ⟨p, l, e, R, s, m, args, below, meth, c, Z, h0⟩ := W
  obtain ⟨k1, k2, k3, k4, k5, k6, k7, k8, rfl, rfl, rfl, rfl⟩ := K
  intro T L N X H
  obtain ⟨hge, E, F⟩ := H.2.1 _ _ ha
  obtain ⟨T', h', X', eT, W1, stp⟩ := putF X k1 k2 k5 (host := "") (Or.inl w) Via.refl rfl (F j _ hf) E (wl.imp id fun q => ⟨q.1, q.2.1, k8.trans q.2.2⟩) wi hty hn hfi (g := mkF m pc Ls (x :: .ref a :: st)) rfl rfl (hb k3 hd)
  obtain ⟨s₂, v₂, h1, rest'⟩ := hr T' _ (N.snoc X' hge) X' (by
    rw [eT]
    refine H.set ha W1 ⟨E.wr W1, fun j' f hf' => ?_⟩
    rw [List.getElem?_set] at hf'
    by_cases e : j = j'
    · subst e
      rw [if_pos rfl, if_pos (List.getElem?_eq_some_iff.mp hf).1] at hf'
      cases hf'
      exact (F j _ hf).same W1
    · rw [if_neg e] at hf'
      exact (F j' f hf').other W1 (Or.inr (hne j' f hf' fun q => e q.symm)))
  exact ⟨s₂, v₂, stp _ h1, rest'⟩
theorem go_getstatic (K : Ok W B y rm mL ret l Z h0) {idx : Nat} {O nm d : String} {x : Value} (w : (Jvm.Cond.fieldLink y.cls idx O nm d).before a0 Z = true) (S : Sta Z h0 O nm d x) (hd : decode B pc = .ok (.getstatic idx, 3)) (hp : pc + 3 = pc')
    (hr : Go W Q ds k n pc' Ls (x :: st)) : Go W Q ds k n pc Ls st := by
  subst hp
  obtain ⟨p, l, e, R, s, m, args, below, meth, c, Z, h0⟩ := W
  obtain ⟨k1, k2, k3, k4, k5, k6, k7, k8, rfl, rfl, rfl, rfl⟩ := K
  intro T L N X H
  obtain ⟨T', X', eT, stp⟩ := getS (host := "") X k1 k2 k5 w Via.refl rfl (S.ext H.1) (g := mkF m pc Ls st) rfl (hb k3 hd)
  obtain ⟨s₂, v₂, h1, rest'⟩ := hr T' L N X' (by rw [eT]; exact H)
  exact ⟨s₂, v₂, stp _ h1, rest'⟩
theorem go_new (K : Ok W B y rm mL ret l Z h0) {idx m : Nat} {C : String} {fs : List ((String × String × String) × Value)} {KS : List (String × String × String)} (w1 : (Jvm.Cond.classLink y.cls idx C).before a0 Z = true) (w2 : (Jvm.Cond.instantiable C m).before a0 Z = true) (w3 : (Jvm.Cond.initialized C).before a0 Z = true)
    (hks : fs.map Prod.fst = KS) (al : ∀ f ∈ KS, Laid Z a0 C f.1 f.2.1 f.2.2 ∧ ∃ t, parseFieldDescriptor f.2.2 = some t) (hdef : fs.map (fun f => (parseFieldDescriptor f.1.2.2).map defaultValue) = fs.map fun f => some f.2) (hd : decode B pc = .ok (.new idx, 3)) (hk : k + 1 ≤ rm.cells) (hn : n + m ≤ rm.slots) (hp : pc + 3 = pc')
    (hr : ∀ a, h0.size ≤ a → (∀ q ∈ ds, q.1 < a) → Go W Q (ds ++ [(a, .inr (C, fs))]) (k + 1) (n + m) pc' Ls (.ref a :: st)) : Go W Q ds k n pc Ls st := by
  subst hp hks
  have hfs : ∀ (j : Nat) (f : (String × String × String) × Value), fs[j]? = some f → Laid Z a0 C f.1.1 f.1.2.1 f.1.2.2 ∧ ∃ ty, parseFieldDescriptor f.1.2.2 = some ty ∧ defaultValue ty = f.2 := fun j f hf => by
    obtain ⟨L1, t1, p1⟩ := al f.1 (List.mem_map_of_mem (List.mem_of_getElem? hf))
    refine ⟨L1, t1, p1, ?_⟩
    have q : (fs.map (fun f => (parseFieldDescriptor f.1.2.2).map defaultValue))[j]? = (fs.map fun f => some f.2)[j]? := by rw [hdef]
    rw [List.getElem?_map, List.getElem?_map, hf] at q
    have q' : (parseFieldDescriptor f.1.2.2).map defaultValue = some f.2 := Option.some.inj q
    rw [p1] at q'
    exact Option.some.inj q'
  obtain ⟨p, l, e, R, s, mm, args, below, meth, c, Z, h0⟩ := W
  obtain ⟨k1, k2, k3, k4, k5, k6, k7, k8, rfl, rfl, rfl, rfl⟩ := K
  intro T L N X H
  obtain ⟨T', h', X', eT, E, A, D, -, stp⟩ := newO X k1 k2 k5 w1 w2 w3 rfl (g := mkF mm pc Ls st) rfl (hb k3 hd) hk hn
  obtain ⟨s₂, v, h1, rest⟩ := hr T.heap.size H.1.1 H.lts T' _ N X' (by
    rw [eT]
    refine H.new E ⟨A, fun j f hf => ?_⟩
    obtain ⟨hL, ty, h1, h2⟩ := hfs j f hf
    rw [← h2]
    exact D hL h1)
  exact ⟨s₂, v, stp _ h1, rest⟩
/-! clone, checkcast, arraycopy -/
theorem OkD.keep {Z : State} {h h' : Heap} {b : Nat} {d : D} {ws : List Addr} (K : Jvm.RoadKit.Keep h h' ws) (O : OkD Z h b d) (hne : b ∉ ws) : OkD Z h' b d := by
  cases d with
  | inl q => obtain ⟨c, A, S, X⟩ := O; exact ⟨c, ⟨K.2.1 b c A.1 hne, A.2⟩, S, X.keep K⟩
  | inr q => exact ⟨O.1.keep K, fun j f hf => (O.2 j f hf).keep K hne⟩
theorem HL.keep {Z : State} {h0 h h' : Heap} {ds : Hp} {i a : Nat} {d d' : D} (H : HL Z h0 ds h) (ha : ds[i]? = some (a, d)) (K : Jvm.RoadKit.Keep h h' [a]) (O : OkD Z h' a d') : HL Z h0 (ds.set i (a, d')) h' := by
  have hge := (H.2.1 i _ ha).1
  have hi : i < ds.length := (List.getElem?_eq_some_iff.mp ha).1
  have key : ∀ j (q : Nat × D), (ds.set i (a, d'))[j]? = some q → (j = i ∧ q = (a, d')) ∨ (j ≠ i ∧ ds[j]? = some q) := fun j q hq => by
    rw [List.getElem?_set] at hq
    by_cases e : i = j
    · subst e; rw [if_pos rfl, if_pos hi] at hq; exact Or.inl ⟨rfl, (Option.some.inj hq).symm⟩
    · rw [if_neg e] at hq; exact Or.inr ⟨fun x => e x.symm, hq⟩
  refine ⟨⟨Nat.le_trans H.1.1 K.1, fun b c q => ?_⟩, fun j q hq => ?_, fun j k q r hq hr he => ?_⟩
  · have hlt : b < h0.size := (Array.getElem?_eq_some_iff.mp q).1
    exact K.2.1 b c (H.1.2 b c q) fun z => by cases List.mem_singleton.mp z; exact absurd hlt (Nat.not_lt.mpr hge)
  · rcases key j q hq with ⟨-, rfl⟩ | ⟨hne, hq'⟩
    · exact ⟨hge, O⟩
    · exact ⟨(H.2.1 j q hq').1, (H.2.1 j q hq').2.keep K fun z => hne (H.2.2 j i q _ hq' ha (List.mem_singleton.mp z))⟩
  · have ad : ∀ j (q : Nat × D), (ds.set i (a, d'))[j]? = some q → ∃ q' : Nat × D, ds[j]? = some q' ∧ q'.1 = q.1 := fun j q hq => by
      rcases key j q hq with ⟨rfl, rfl⟩ | ⟨-, hq'⟩
      · exact ⟨_, ha, rfl⟩
      · exact ⟨q, hq', rfl⟩
    obtain ⟨q', a1, a2⟩ := ad j q hq
    obtain ⟨r', b1, b2⟩ := ad k r hr
    exact H.2.2 j k q' r' a1 b1 (by rw [a2, b2]; exact he)
theorem go_clone (K : Ok W B y rm mL ret l Z h0) {idx i a cap Wd : Nat} {ty : FieldType} {vs : List Value} {ad : String}
    (w1 : (Jvm.Cond.methodLink y.cls idx ⟨ad, "clone", "()Ljava/lang/Object;"⟩).before a0 Z = true) (w2 : (Jvm.Cond.sameMethod ad "java/lang/Object" "clone" "()Ljava/lang/Object;").before a0 Z = true) (w3 : (Jvm.Cond.native ⟨"java/lang/Object", "clone", "()Ljava/lang/Object;"⟩).before a0 Z = true)
    (w4 : (Jvm.Cond.instanceMethod ⟨"java/lang/Object", "clone", "()Ljava/lang/Object;"⟩).before a0 Z = true) (w5 : (Jvm.Cond.selects ad ⟨ad, "clone", "()Ljava/lang/Object;"⟩ ⟨"java/lang/Object", "clone", "()Ljava/lang/Object;"⟩).before a0 Z = true) (w6 : (Jvm.Cond.castable ad "java/lang/Cloneable").before a0 Z = true)
    (had : "[" ++ ty.toString = ad) (ha : ds[i]? = some (a, .inl (ty, vs))) (hfit : ∀ v ∈ vs, fits ty v = true) (hd : decode B pc = .ok (.invokevirtual idx, 3)) (hsz : Ls.size = mL) (hW : (st.map fun v => v.category).sum = Wd) (hf : 1 ≤ rm.frames) (hl : Wd + 14 ≤ rm.locals) (hcap : vs.length ≤ cap) (hk : k + 1 ≤ rm.cells) (hn : n + cap ≤ rm.slots) (hp : pc + 3 = pc')
    (hr : ∀ a', h0.size ≤ a' → (∀ q ∈ ds, q.1 < a') → Go W Q (ds ++ [(a', .inl (ty, vs))]) (k + 1) (n + cap) pc' Ls (.ref a' :: st)) : Go W Q ds k n pc Ls (.ref a :: st) := by
  subst hp
  obtain ⟨p, l, e, R, s, mm, args, below, meth, c, Z, h0⟩ := W
  obtain ⟨k1, k2, k3, k4, k5, k6, k7, k8, rfl, rfl, rfl, rfl⟩ := K
  intro T L N X H
  obtain ⟨hge, cl, A, S, EX⟩ := H.2.1 _ _ ha
  have FC : FitC Z cl := fitC_of A fun i hi v hv => hfit v (by
    rw [S, List.getElem?_toArray] at hv
    exact List.mem_of_getElem? hv)
  obtain ⟨T', h', X', eT, E, A', EX', stp⟩ := cloneA X k1 k2 k5 w1 w2 w3 w4 w5 w6 rfl A (had ▸ EX) FC (g := mkF mm pc Ls (.ref a :: st)) rfl (hsz.trans k4.symm) rfl (hb k3 hd) hf (W := Wd) (cap := cap) (by show 2 * 0 + _ ≤ _; omega) hl (by rw [S, List.size_toArray]; exact hcap) hk hn
  obtain ⟨s₂, v, h1, rest⟩ := hr T.heap.size H.1.1 H.lts T' _ N X' (by
    rw [eT]
    exact H.new E ⟨_, A', S, had ▸ EX'⟩)
  exact ⟨s₂, v, stp _ h1, rest⟩
theorem go_castA (K : Ok W B y rm mL ret l Z h0) {idx i a : Nat} {ty : FieldType} {vs : List Value} {Kc ad : String} (w : (Jvm.Cond.classLink y.cls idx Kc).before a0 Z = true) (wc : (Jvm.Cond.castable ad Kc).before a0 Z = true)
    (had : "[" ++ ty.toString = ad) (ha : ds[i]? = some (a, .inl (ty, vs))) (hd : decode B pc = .ok (.checkcast idx, 3)) (hp : pc + 3 = pc') (hr : Go W Q ds k n pc' Ls (.ref a :: st)) : Go W Q ds k n pc Ls (.ref a :: st) := by
  subst hp
  obtain ⟨p, l, e, R, s, mm, args, below, meth, c, Z, h0⟩ := W
  obtain ⟨k1, k2, k3, k4, k5, k6, k7, k8, rfl, rfl, rfl, rfl⟩ := K
  intro T L N X H
  obtain ⟨hge, cl, A, S, EX⟩ := H.2.1 _ _ ha
  obtain ⟨T', X', eT, stp⟩ := castY X k1 k2 k5 w rfl (Ins.of_exa (had ▸ EX) wc) (g := mkF mm pc Ls (.ref a :: st)) rfl rfl (hb k3 hd)
  obtain ⟨s₂, v, h1, rest⟩ := hr T' L N X' (by rw [eT]; exact H)
  exact ⟨s₂, v, stp _ h1, rest⟩
theorem arv_of {Z : State} {h : Heap} {a : Nat} {xs : List Int32} (O : OkD Z h a (ba xs)) (hl : xs.length < 2147483648) (hfit : ∀ x ∈ xs, fits .byte (.int x) = true) : ∃ kk, Arv Z h a kk .byte xs.length.toInt32 (xs.map Value.int) (.int 0) := by
  obtain ⟨c, A, S, -⟩ := O
  have e1 : xs.length.toInt32.toInt = (xs.length : Int) := len_toInt hl
  have e2 : xs.length.toInt32.toNatClampNeg = xs.length := by simp [Int32.toNatClampNeg, e1]
  have sz : c.slots.size = xs.length := by rw [S]; simp
  refine ⟨c.cls, c, A, rfl, by rw [e2, sz], by rw [Int32.lt_iff_toInt_lt, e1]; exact Int.not_lt.mpr (Int.natCast_nonneg _), fun i hi => ?_, fun i hi => ?_⟩
  · have hi' : i < xs.length := by omega
    rw [S]; simp [List.getD_eq_getElem?_getD, hi']
  · have hi' : i < xs.length := by omega
    have : (xs.map Value.int).getD i (.int 0) = .int xs[i] := by simp [List.getD_eq_getElem?_getD, hi']
    rw [this]; exact hfit _ (List.getElem_mem _)
theorem go_acopy (K : Ok W B y rm mL ret l Z h0) {idx i j a b sp dp m Wd : Nat} {xs ys : List Int32} {js jd jn : Int32} {ds' : Hp}
    (w1 : (Jvm.Cond.methodLink y.cls idx Jvm.Stand.acN).before a0 Z = true) (w2 : (Jvm.Cond.native Jvm.Stand.acN).before a0 Z = true) (w3 : (Jvm.Cond.static Jvm.Stand.acN).before a0 Z = true) (w4 : (Jvm.Cond.initialized "java/lang/System").before a0 Z = true)
    (ha : ds[i]? = some (a, ba xs)) (hb' : ds[j]? = some (b, ba ys)) (hxl : xs.length < 2147483648) (hyl : ys.length < 2147483648) (hxf : ∀ x ∈ xs, fits .byte (.int x) = true) (hyf : ∀ x ∈ ys, fits .byte (.int x) = true)
    (h1 : js.toInt = (sp : Int)) (h2 : jd.toInt = (dp : Int)) (h3 : jn.toInt = (m : Int)) (h4 : sp + m ≤ xs.length) (h5 : dp + m ≤ ys.length) (hd : decode B pc = .ok (.invokestatic idx, 3)) (hsz : Ls.size = mL) (hW : (st.map fun v => v.category).sum = Wd) (hf : 1 ≤ rm.frames) (hl : Wd + (nativeFrameWords "java/lang/System" "arraycopy" 5 + 11) ≤ rm.locals) (hp : pc + 3 = pc')
    (hs : ds.set j (b, ba (ys.take dp ++ (xs.drop sp).take m ++ ys.drop (dp + m))) = ds') (hr : Go W Q ds' k n pc' Ls st) : Go W Q ds k n pc Ls (.int jn :: .int jd :: .ref b :: .int js :: .ref a :: st) := by
  subst hp hs
  obtain ⟨p, l, e, R, s, mm, args, below, meth, c, Z, h0⟩ := W
  obtain ⟨k1, k2, k3, k4, k5, k6, k7, k8, rfl, rfl, rfl, rfl⟩ := K
  intro T L N X H
  obtain ⟨-, Oa⟩ := H.2.1 _ _ ha
  obtain ⟨hge, Ob⟩ := H.2.1 _ _ hb'
  obtain ⟨ka, Aa⟩ := arv_of Oa hxl hxf
  obtain ⟨kb, Ab⟩ := arv_of Ob hyl hyf
  have cl : ∀ {x : Int32} {q : Nat}, x.toInt = (q : Int) → x.toNatClampNeg = q := fun {x q} hq => by simp [Int32.toNatClampNeg, hq]
  have nn : ∀ {x : Int32} {q : Nat}, x.toInt = (q : Int) → ¬ x < 0 := fun {x q} hq => by rw [Int32.lt_iff_toInt_lt, hq]; exact Int.not_lt.mpr (Int.natCast_nonneg _)
  have lx : xs.length.toInt32.toNatClampNeg = xs.length := cl (len_toInt hxl)
  have ly : ys.length.toInt32.toNatClampNeg = ys.length := cl (len_toInt hyl)
  obtain ⟨T', h', L', X', eT, N', Kp, A', stp⟩ := cpA X k1 k2 k5 w1 w2 w3 w4 rfl Aa Ab (Or.inl ⟨rfl, rfl⟩) (nn h1) (nn h2) (nn h3) (by rw [cl h1, cl h3, lx]; exact h4) (by rw [cl h2, cl h3, ly]; exact h5) rfl (by rw [cl h2, cl h3, List.length_map]; exact h5) N hge
    (g := mkF mm pc Ls (.int jn :: .int jd :: .ref b :: .int js :: .ref a :: st)) rfl (hsz.trans k4.symm) rfl (hb k3 hd) hf (W := Wd) (by show 2 * 0 + _ ≤ _; omega) hl
  rw [cl h1, cl h2, cl h3] at A'
  have us : ((List.range m).map fun i => (xs.map Value.int).getD (sp + i) (.int 0)) = ((xs.drop sp).take m).map Value.int := by
    apply List.ext_getElem?
    intro t
    by_cases ht : t < m
    · have : sp + t < xs.length := by omega
      simp [ht, List.getD_eq_getElem?_getD, this, List.getElem?_take, List.getElem?_drop]
    · simp [ht, List.getElem?_take]
  rw [us] at A'
  obtain ⟨s₂, v, h1', rest⟩ := hr T' L' N' X' (by
    rw [eT]
    obtain ⟨c', Ar, -, Sz, -, Hs, -⟩ := A'
    obtain ⟨cb, Ab0, Sb, EXb⟩ := Ob
    refine H.keep hb' Kp ⟨c', Ar, ?_, EXb.keep Kp⟩
    rw [ly] at Sz
    apply Array.ext_getElem?
    intro t
    by_cases ht : t < c'.slots.size
    · have hl : (ys.take dp ++ (xs.drop sp).take m ++ ys.drop (dp + m)).length = ys.length := by simp; omega
      have hlt : t < (ys.take dp ++ (xs.drop sp).take m ++ ys.drop (dp + m)).length := by omega
      rw [Hs t ht, List.getElem?_toArray]
      have q : List.map Value.int ys = List.map Value.int ys := rfl
      rw [← List.map_take, ← List.map_drop, ← List.map_append, ← List.map_append, List.getD_eq_getElem?_getD, List.getElem?_map, List.getElem?_eq_getElem hlt]; rfl
    · rw [Array.getElem?_eq_none (by omega), List.getElem?_toArray, List.getElem?_eq_none (by simp; omega)])
  exact ⟨s₂, v, stp _ h1', rest⟩
end Steps
theorem at_last {ds : Hp} {e : Nat × D} : (ds ++ [e])[ds.length]? = some e := List.getElem?_concat_length
theorem at_left {ds ext : Hp} {q : Nat × D} {i : Nat} (h : ds[i]? = some q) : (ds ++ ext)[i]? = some q := by
  rw [List.getElem?_append_left (List.getElem?_eq_some_iff.mp h).1]; exact h
theorem at_ext {ds ext : Hp} {q : Nat × D} {t : Nat} (h : ext[t]? = some q) : (ds ++ ext)[ds.length + t]? = some q := by
  rw [List.getElem?_append_right (Nat.le_add_right _ _), Nat.add_sub_cancel_left]; exact h
theorem set_ext {ds ext : Hp} {e : Nat × D} {t : Nat} : (ds ++ ext).set (ds.length + t) e = ds ++ ext.set t e := by
  rw [List.set_append, if_neg (Nat.not_lt.mpr (Nat.le_add_right _ _)), Nat.add_sub_cancel_left]
theorem set_last {ds : Hp} {e e' : Nat × D} : (ds ++ [e]).set ds.length e' = ds ++ [e'] := by
  rw [List.set_append, if_neg (Nat.lt_irrefl _), Nat.sub_self]; rfl
/-! small facts on ints -/
theorem i0 : (0 : Int32).toInt = 0 := rfl
theorem ibound (x : Int32) : -2147483648 ≤ x.toInt ∧ x.toInt < 2147483648 := ⟨x.le_toInt, x.toInt_lt⟩
theorem iadd_eq {x z : Int32} (h1 : -2147483648 ≤ x.toInt + z.toInt) (h2 : x.toInt + z.toInt < 2147483648) : (x + z).toInt = x.toInt + z.toInt := XT.add32 ⟨h1, h2⟩
theorem isub_eq {x z : Int32} (h1 : -2147483648 ≤ x.toInt - z.toInt) (h2 : x.toInt - z.toInt < 2147483648) : (x - z).toInt = x.toInt - z.toInt := XT.sub32 ⟨h1, h2⟩
theorem iinj {x z : Int32} (h : x.toInt = z.toInt) : x = z := Int32.toInt_inj.mp h
theorem drop_cons {α : Type} {xs rest : List α} {x : α} {j : Nat} (h : xs.drop j = x :: rest) : xs[j]? = some x ∧ xs.drop (j + 1) = rest ∧ j < xs.length := by
  have h1 : xs[j]? = some x := by
    have q : (xs.drop j)[0]? = some x := by rw [h]; rfl
    rwa [List.getElem?_drop, Nat.add_zero] at q
  refine ⟨h1, ?_, (List.getElem?_eq_some_iff.mp h1).1⟩
  have q : (xs.drop j).drop 1 = rest := by rw [h]; rfl
  rwa [List.drop_drop] at q
theorem drop_none {α : Type} {xs : List α} {j : Nat} (h : xs.drop j = []) : xs.length ≤ j := List.drop_eq_nil_iff.mp h
theorem isucc {x : Int32} {j : Nat} (h : x.toInt = (j : Int)) (hj : j < 2147483647) : (x + 1).toInt = ((j + 1 : Nat) : Int) := by
  have q : (1 : Int32).toInt = 1 := rfl
  rw [iadd_eq (by rw [q]; omega) (by rw [q]; omega), q]; omega
theorem ilt5 {x : Int32} (h0 : 0 ≤ x.toInt) (h1 : x.toInt < 5) : x = 0 ∨ x = 1 ∨ x = 2 ∨ x = 3 ∨ x = 4 := by
  have : x.toInt = 0 ∨ x.toInt = 1 ∨ x.toInt = 2 ∨ x.toInt = 3 ∨ x.toInt = 4 := by omega
  rcases this with e | e | e | e | e
  · exact Or.inl (iinj e)
  · exact Or.inr (Or.inl (iinj e))
  · exact Or.inr (Or.inr (Or.inl (iinj e)))
  · exact Or.inr (Or.inr (Or.inr (Or.inl (iinj e))))
  · exact Or.inr (Or.inr (Or.inr (Or.inr (iinj e))))
theorem ilt4 {x : Int32} (h0 : 0 ≤ x.toInt) (h1 : x.toInt < 4) : x = 0 ∨ x = 1 ∨ x = 2 ∨ x = 3 := by
  have : x.toInt = 0 ∨ x.toInt = 1 ∨ x.toInt = 2 ∨ x.toInt = 3 := by omega
  rcases this with e | e | e | e
  · exact Or.inl (iinj e)
  · exact Or.inr (Or.inl (iinj e))
  · exact Or.inr (Or.inr (Or.inl (iinj e)))
  · exact Or.inr (Or.inr (Or.inr (iinj e)))
theorem len32 {m : Nat} (h : m < 2147483648) : (m.toInt32).toInt = (m : Int) := len_toInt h
end Jvm.Own
namespace Jvm.Pilot.@@N@@
open Jvm Jvm.ClassFile Sem Op Lib Jvm.Free Jvm.Stand Jvm.LawKit Jvm.RoadKit Jvm.Own Bundle Jvm.Pilot.@@N@@.Jvm.D
theorem pf_0 : plainFor x = true := by first | exact plainFor_of_name (by first | (simp [plainName, overriddenIn]; done) | decide +kernel) | decide +kernel

theorem pf_1 : plainFor (⟨"java/lang/String", "valueOf", "(C)Ljava/lang/String;"⟩ : MethodName) = true := by first | exact plainFor_of_name (by first | (simp [plainName, overriddenIn]; done) | decide +kernel) | decide +kernel
theorem d1_0 : decode jdk_42_method_139_code 0 = .ok (.getstatic 38, 3) := by decide +kernel
theorem d1_3 : decode jdk_42_method_139_code 3 = .ok (.ifCond .eq 23, 3) := by decide +kernel
theorem d1_6 : decode jdk_42_method_139_code 6 = .ok (.iload_n 0, 1) := by decide +kernel
theorem d1_7 : decode jdk_42_method_139_code 7 = .ok (.invokestatic 1015, 3) := by decide +kernel
theorem d1_10 : decode jdk_42_method_139_code 10 = .ok (.ifCond .eq 16, 3) := by decide +kernel
theorem d1_13 : decode jdk_42_method_139_code 13 = .ok (.new 10, 3) := by decide +kernel
theorem d1_16 : decode jdk_42_method_139_code 16 = .ok (.dup, 1) := by decide +kernel
theorem d1_17 : decode jdk_42_method_139_code 17 = .ok (.iload_n 0, 1) := by decide +kernel
theorem d1_18 : decode jdk_42_method_139_code 18 = .ok (.invokestatic 1018, 3) := by decide +kernel
theorem d1_21 : decode jdk_42_method_139_code 21 = .ok (.iconst 0, 1) := by decide +kernel
theorem d1_22 : decode jdk_42_method_139_code 22 = .ok (.invokespecial 209, 3) := by decide +kernel
theorem d1_25 : decode jdk_42_method_139_code 25 = .ok (.areturn, 1) := by decide +kernel
theorem d1_26 : decode jdk_42_method_139_code 26 = .ok (.new 10, 3) := by decide +kernel
theorem d1_29 : decode jdk_42_method_139_code 29 = .ok (.dup, 1) := by decide +kernel
theorem d1_30 : decode jdk_42_method_139_code 30 = .ok (.iload_n 0, 1) := by decide +kernel
theorem d1_31 : decode jdk_42_method_139_code 31 = .ok (.invokestatic 1021, 3) := by decide +kernel
theorem d1_34 : decode jdk_42_method_139_code 34 = .ok (.iconst 1, 1) := by decide +kernel
theorem d1_35 : decode jdk_42_method_139_code 35 = .ok (.invokespecial 209, 3) := by decide +kernel
theorem d1_38 : decode jdk_42_method_139_code 38 = .ok (.areturn, 1) := by decide +kernel
theorem pf_2 : plainFor (⟨"java/lang/StringLatin1", "canEncode", "(C)Z"⟩ : MethodName) = true := by first | exact plainFor_of_name (by first | (simp [plainName, overriddenIn]; done) | decide +kernel) | decide +kernel
theorem d2_0 : decode jdk_43_method_3_code 0 = .ok (.iload_n 0, 1) := by decide +kernel
theorem d2_1 : decode jdk_43_method_3_code 1 = .ok (.sipush 255, 3) := by decide +kernel
theorem d2_4 : decode jdk_43_method_3_code 4 = .ok (.if_icmp .gt 7, 3) := by decide +kernel
theorem d2_7 : decode jdk_43_method_3_code 7 = .ok (.iconst 1, 1) := by decide +kernel
theorem d2_8 : decode jdk_43_method_3_code 8 = .ok (.goto 4, 3) := by decide +kernel
theorem d2_11 : decode jdk_43_method_3_code 11 = .ok (.iconst 0, 1) := by decide +kernel
theorem d2_12 : decode jdk_43_method_3_code 12 = .ok (.ireturn, 1) := by decide +kernel
theorem pf_3 : plainFor (⟨"java/lang/StringLatin1", "toBytes", "(C)[B"⟩ : MethodName) = true := by first | exact plainFor_of_name (by first | (simp [plainName, overriddenIn]; done) | decide +kernel) | decide +kernel
theorem d3_0 : decode jdk_43_method_46_code 0 = .ok (.iconst 1, 1) := by decide +kernel
theorem d3_1 : decode jdk_43_method_46_code 1 = .ok (.newarray .byte, 2) := by decide +kernel
theorem d3_3 : decode jdk_43_method_46_code 3 = .ok (.dup, 1) := by decide +kernel
theorem d3_4 : decode jdk_43_method_46_code 4 = .ok (.iconst 0, 1) := by decide +kernel
theorem d3_5 : decode jdk_43_method_46_code 5 = .ok (.iload_n 0, 1) := by decide +kernel
theorem d3_6 : decode jdk_43_method_46_code 6 = .ok (.i2b, 1) := by decide +kernel
theorem d3_7 : decode jdk_43_method_46_code 7 = .ok (.bastore, 1) := by decide +kernel
theorem d3_8 : decode jdk_43_method_46_code 8 = .ok (.areturn, 1) := by decide +kernel
theorem pf_4 : plainFor (⟨"java/lang/String", "<init>", "([BB)V"⟩ : MethodName) = true := by first | exact plainFor_of_name (by first | (simp [plainName, overriddenIn]; done) | decide +kernel) | decide +kernel
theorem d4_0 : decode jdk_42_method_151_code 0 = .ok (.aload_n 0, 1) := by decide +kernel
theorem d4_1 : decode jdk_42_method_151_code 1 = .ok (.invokespecial 1, 3) := by decide +kernel
theorem d4_4 : decode jdk_42_method_151_code 4 = .ok (.aload_n 0, 1) := by decide +kernel
theorem d4_5 : decode jdk_42_method_151_code 5 = .ok (.aload_n 1, 1) := by decide +kernel
theorem d4_6 : decode jdk_42_method_151_code 6 = .ok (.putfield 9, 3) := by decide +kernel
theorem d4_9 : decode jdk_42_method_151_code 9 = .ok (.aload_n 0, 1) := by decide +kernel
theorem d4_10 : decode jdk_42_method_151_code 10 = .ok (.iload_n 2, 1) := by decide +kernel
theorem d4_11 : decode jdk_42_method_151_code 11 = .ok (.putfield 15, 3) := by decide +kernel
theorem d4_14 : decode jdk_42_method_151_code 14 = .ok (.return_, 1) := by decide +kernel
theorem pf_6 : plainFor (⟨"com/example/ferryflow/ferryflow/Message", "<init>", "(Ljava/lang/String;JJJIJ)V"⟩ : MethodName) = true := by first | exact plainFor_of_name (by first | (simp [plainName, overriddenIn]; done) | decide +kernel) | decide +kernel
theorem d6_0 : decode prog_32_method_1_code 0 = .ok (.aload_n 0, 1) := by decide +kernel
theorem d6_1 : decode prog_32_method_1_code 1 = .ok (.invokespecial 1, 3) := by decide +kernel
theorem d6_4 : decode prog_32_method_1_code 4 = .ok (.aload_n 0, 1) := by decide +kernel
theorem d6_5 : decode prog_32_method_1_code 5 = .ok (.aload_n 1, 1) := by decide +kernel
theorem d6_6 : decode prog_32_method_1_code 6 = .ok (.putfield 7, 3) := by decide +kernel
theorem d6_9 : decode prog_32_method_1_code 9 = .ok (.aload_n 0, 1) := by decide +kernel
theorem d6_10 : decode prog_32_method_1_code 10 = .ok (.lload_n 2, 1) := by decide +kernel
theorem d6_11 : decode prog_32_method_1_code 11 = .ok (.putfield 13, 3) := by decide +kernel
theorem d6_14 : decode prog_32_method_1_code 14 = .ok (.aload_n 0, 1) := by decide +kernel
theorem d6_15 : decode prog_32_method_1_code 15 = .ok (.lload 4, 2) := by decide +kernel
theorem d6_17 : decode prog_32_method_1_code 17 = .ok (.putfield 17, 3) := by decide +kernel
theorem d6_20 : decode prog_32_method_1_code 20 = .ok (.aload_n 0, 1) := by decide +kernel
theorem d6_21 : decode prog_32_method_1_code 21 = .ok (.lload 6, 2) := by decide +kernel
theorem d6_23 : decode prog_32_method_1_code 23 = .ok (.putfield 20, 3) := by decide +kernel
theorem d6_26 : decode prog_32_method_1_code 26 = .ok (.aload_n 0, 1) := by decide +kernel
theorem d6_27 : decode prog_32_method_1_code 27 = .ok (.iload 8, 2) := by decide +kernel
theorem d6_29 : decode prog_32_method_1_code 29 = .ok (.putfield 23, 3) := by decide +kernel
theorem d6_32 : decode prog_32_method_1_code 32 = .ok (.aload_n 0, 1) := by decide +kernel
theorem d6_33 : decode prog_32_method_1_code 33 = .ok (.lload 9, 2) := by decide +kernel
theorem d6_35 : decode prog_32_method_1_code 35 = .ok (.putfield 27, 3) := by decide +kernel
theorem d6_38 : decode prog_32_method_1_code 38 = .ok (.return_, 1) := by decide +kernel
theorem pf_7 : plainFor (⟨"java/lang/Record", "<init>", "()V"⟩ : MethodName) = true := by first | exact plainFor_of_name (by first | (simp [plainName, overriddenIn]; done) | decide +kernel) | decide +kernel
theorem d7_0 : decode jdk_30_method_1_code 0 = .ok (.aload_n 0, 1) := by decide +kernel
theorem d7_1 : decode jdk_30_method_1_code 1 = .ok (.invokespecial 1, 3) := by decide +kernel
theorem d7_4 : decode jdk_30_method_1_code 4 = .ok (.return_, 1) := by decide +kernel
theorem pf_8 : plainFor (⟨"com/example/ferryflow/ferryflow/Message", "weight", "()J"⟩ : MethodName) = true := by first | exact plainFor_of_name (by first | (simp [plainName, overriddenIn]; done) | decide +kernel) | decide +kernel
theorem d8_0 : decode prog_32_method_2_code 0 = .ok (.lconst 1, 1) := by decide +kernel
theorem d8_1 : decode prog_32_method_2_code 1 = .ok (.lstore_n 1, 1) := by decide +kernel
theorem d8_2 : decode prog_32_method_2_code 2 = .ok (.aload_n 0, 1) := by decide +kernel
theorem d8_3 : decode prog_32_method_2_code 3 = .ok (.getfield 23, 3) := by decide +kernel
theorem d8_6 : decode prog_32_method_2_code 6 = .ok (.istore_n 3, 1) := by decide +kernel
theorem d8_7 : decode prog_32_method_2_code 7 = .ok (.iload_n 3, 1) := by decide +kernel
theorem d8_8 : decode prog_32_method_2_code 8 = .ok (.iconst 4, 1) := by decide +kernel
theorem d8_9 : decode prog_32_method_2_code 9 = .ok (.if_icmp .ge 15, 3) := by decide +kernel
theorem d8_12 : decode prog_32_method_2_code 12 = .ok (.lload_n 1, 1) := by decide +kernel
theorem d8_13 : decode prog_32_method_2_code 13 = .ok (.ldc2_w 30, 3) := by decide +kernel
theorem d8_16 : decode prog_32_method_2_code 16 = .ok (.lmul, 1) := by decide +kernel
theorem d8_17 : decode prog_32_method_2_code 17 = .ok (.lstore_n 1, 1) := by decide +kernel
theorem d8_18 : decode prog_32_method_2_code 18 = .ok (.iinc 3 1, 3) := by decide +kernel
theorem d8_21 : decode prog_32_method_2_code 21 = .ok (.goto (-14), 3) := by decide +kernel
theorem d8_24 : decode prog_32_method_2_code 24 = .ok (.lload_n 1, 1) := by decide +kernel
theorem d8_25 : decode prog_32_method_2_code 25 = .ok (.lreturn, 1) := by decide +kernel
theorem pf_9 : plainFor (⟨"com/example/ferryflow/ferryflow/MessageWeightPinLaw", "expected", "(I)J"⟩ : MethodName) = true := by first | exact plainFor_of_name (by first | (simp [plainName, overriddenIn]; done) | decide +kernel) | decide +kernel
theorem d9_0 : decode method_3_code 0 = .ok (.iload_n 0, 1) := by decide +kernel
theorem d9_1 : decode method_3_code 1 = .ok (.iconst 1, 1) := by decide +kernel
theorem d9_2 : decode method_3_code 2 = .ok (.if_icmp .ne 7, 3) := by decide +kernel
theorem d9_5 : decode method_3_code 5 = .ok (.ldc2_w 28, 3) := by decide +kernel
theorem d9_8 : decode method_3_code 8 = .ok (.lreturn, 1) := by decide +kernel
theorem d9_9 : decode method_3_code 9 = .ok (.iload_n 0, 1) := by decide +kernel
theorem d9_10 : decode method_3_code 10 = .ok (.iconst 2, 1) := by decide +kernel
theorem d9_11 : decode method_3_code 11 = .ok (.if_icmp .ne 7, 3) := by decide +kernel
theorem d9_14 : decode method_3_code 14 = .ok (.ldc2_w 30, 3) := by decide +kernel
theorem d9_17 : decode method_3_code 17 = .ok (.lreturn, 1) := by decide +kernel
theorem d9_18 : decode method_3_code 18 = .ok (.iload_n 0, 1) := by decide +kernel
theorem d9_19 : decode method_3_code 19 = .ok (.iconst 3, 1) := by decide +kernel
theorem d9_20 : decode method_3_code 20 = .ok (.if_icmp .ne 7, 3) := by decide +kernel
theorem d9_23 : decode method_3_code 23 = .ok (.ldc2_w 32, 3) := by decide +kernel
theorem d9_26 : decode method_3_code 26 = .ok (.lreturn, 1) := by decide +kernel
theorem d9_27 : decode method_3_code 27 = .ok (.lconst 1, 1) := by decide +kernel
theorem d9_28 : decode method_3_code 28 = .ok (.lreturn, 1) := by decide +kernel
theorem pd___J : parseMethodDescriptor "()J" = some ⟨[], (some .long)⟩ := by decide +kernel
theorem pd___V : parseMethodDescriptor "()V" = some ⟨[], none⟩ := by decide +kernel
theorem pd__C_Ljava_lang_String_ : parseMethodDescriptor "(C)Ljava/lang/String;" = some ⟨[.char], (some (.object "java/lang/String"))⟩ := by decide +kernel
theorem pd__C_Z : parseMethodDescriptor "(C)Z" = some ⟨[.char], (some .boolean)⟩ := by decide +kernel
theorem pd__C__B : parseMethodDescriptor "(C)[B" = some ⟨[.char], (some (.array .byte))⟩ := by decide +kernel
theorem pd__I_J : parseMethodDescriptor "(I)J" = some ⟨[.int], (some .long)⟩ := by decide +kernel
theorem pd__Ljava_lang_String_JJJIJ_V : parseMethodDescriptor "(Ljava/lang/String;JJJIJ)V" = some ⟨[(.object "java/lang/String"), .long, .long, .long, .int, .long], none⟩ := by decide +kernel
theorem pd___BB_V : parseMethodDescriptor "([BB)V" = some ⟨[(.array .byte), .byte], none⟩ := by decide +kernel
theorem al_String (Z : State) (a0 : Array Value) (hw : ∀ d ∈ tables_1, d.before a0 Z = true) : ∀ f ∈ ([("java/lang/String", "value", "[B"), ("java/lang/String", "coder", "B")] : List (String × String × String)), Laid Z a0 "java/lang/String" f.1 f.2.1 f.2.2 ∧ ∃ t, parseFieldDescriptor f.2.2 = some t := by
  intro f hf
  simp only [List.mem_cons, List.not_mem_nil, or_false] at hf
  rcases hf with rfl | rfl
  · exact ⟨Or.inr (hw _ (List.mem_of_getElem? (i := 23) rfl)), (.array .byte), by decide⟩
  · exact ⟨Or.inr (hw _ (List.mem_of_getElem? (i := 25) rfl)), .byte, by decide⟩
theorem al_Message (Z : State) (a0 : Array Value) (hw : ∀ d ∈ tables_1, d.before a0 Z = true) : ∀ f ∈ ([("com/example/ferryflow/ferryflow/Message", "id", "Ljava/lang/String;"), ("com/example/ferryflow/ferryflow/Message", "from", "J"), ("com/example/ferryflow/ferryflow/Message", "to", "J"), ("com/example/ferryflow/ferryflow/Message", "bytes", "J"), ("com/example/ferryflow/ferryflow/Message", "priority", "I"), ("com/example/ferryflow/ferryflow/Message", "release", "J")] : List (String × String × String)), Laid Z a0 "com/example/ferryflow/ferryflow/Message" f.1 f.2.1 f.2.2 ∧ ∃ t, parseFieldDescriptor f.2.2 = some t := by
  intro f hf
  simp only [List.mem_cons, List.not_mem_nil, or_false] at hf
  rcases hf with rfl | rfl | rfl | rfl | rfl | rfl
  · exact ⟨Or.inr (hw _ (List.mem_of_getElem? (i := 39) rfl)), (.object "java/lang/String"), by decide⟩
  · exact ⟨Or.inr (hw _ (List.mem_of_getElem? (i := 41) rfl)), .long, by decide⟩
  · exact ⟨Or.inr (hw _ (List.mem_of_getElem? (i := 43) rfl)), .long, by decide⟩
  · exact ⟨Or.inr (hw _ (List.mem_of_getElem? (i := 45) rfl)), .long, by decide⟩
  · exact ⟨Or.inr (hw _ (List.mem_of_getElem? (i := 47) rfl)), .int, by decide⟩
  · exact ⟨Or.inr (hw _ (List.mem_of_getElem? (i := 49) rfl)), .long, by decide⟩
set_option maxRecDepth 65536 in
set_option maxHeartbeats 40000000 in
theorem ct_can (l : Launch) (Z : State) (h0 : Heap) (a0 : Array Value) (hw : ∀ d ∈ tables_1, d.before a0 Z = true) (ds : Hp) (c : Int32) (hc : c.toInt ≤ 255) :
    Ct l Z h0 (⟨"java/lang/StringLatin1", "canEncode", "(C)Z"⟩ : MethodName) jdk_43_method_3_code 1 (some .boolean) [] ({ frames := 0, cells := 0, slots := 0, locals := 0 } : Room) #[(.int c)] ds (fun v ds' => v = some (.int 1) ∧ ds' = ds) := by
  refine Ct.of_go (Ls := #[.val (.int c)]) pf_2 (fun m => by first | (simp [entryFrame, mkF, argsToLocals, Value.category, maxLocals]; done) | rfl) (fun W K => ?_)
  generalize hQ : (fun v ds' => v = some (.int 1) ∧ ds' = ds : Option Value → Hp → Prop) = Q
  refine go_iloadN (pc' := 1) K d2_0 rfl rfl ?_
  refine go_sipush (pc' := 4) (v := 255) K d2_1 (by decide) rfl ?_
  refine go_ic_gt_f (pc' := 7) K d2_4 (by have q : (255 : Int32).toInt = 255 := rfl; omega) rfl ?_
  refine go_iconst (pc' := 8) (v := 1) K d2_7 rfl rfl ?_
  refine go_goto (pc' := 12) K d2_8 (by decide) (by decide) ?_
  exact go_zret K d2_12 (by decide) (by decide) (Or.inr rfl) (by subst hQ; exact ⟨rfl, rfl⟩)
set_option maxRecDepth 65536 in
set_option maxHeartbeats 40000000 in
theorem ct_bytes (l : Launch) (Z : State) (h0 : Heap) (a0 : Array Value) (hw : ∀ d ∈ tables_1, d.before a0 Z = true) (ds : Hp) (c : Int32) :
    Ct l Z h0 (⟨"java/lang/StringLatin1", "toBytes", "(C)[B"⟩ : MethodName) jdk_43_method_46_code 1 (some (.array .byte)) [] ({ frames := 0, cells := 1, slots := 1, locals := 0 } : Room) #[(.int c)] ds (fun v ds' => ∃ u, v = some (.ref u) ∧ ds' = ds ++ [(u, ba [(nar .byte c.toInt8.toInt32)])]) := by
  refine Ct.of_go (Ls := #[.val (.int c)]) pf_3 (fun m => by first | (simp [entryFrame, mkF, argsToLocals, Value.category, maxLocals]; done) | rfl) (fun W K => ?_)
  generalize hQ : (fun v ds' => ∃ u, v = some (.ref u) ∧ ds' = ds ++ [(u, ba [(nar .byte c.toInt8.toInt32)])] : Option Value → Hp → Prop) = Q
  refine go_iconst (pc' := 1) (v := 1) K d3_0 rfl rfl ?_
  refine go_newB (pc' := 3) (m := 1) (cap := 1) K (hw _ (List.mem_of_getElem? (i := 14) rfl)) d3_1 (by decide) (by decide) (by decide) (by decide) (by decide) rfl (fun u hgu hlu => ?_)
  show Go W Q (ds ++ [(u, ba [0])]) 1 1 3 #[.val (.int c)] [(.ref u)]
  refine go_dup (pc' := 4) K d3_3 rfl rfl ?_
  refine go_iconst (pc' := 5) (v := 0) K d3_4 rfl rfl ?_
  refine go_iloadN (pc' := 6) K d3_5 rfl rfl ?_
  refine go_i2b (pc' := 7) K d3_6 rfl ?_
  refine go_bastore (pc' := 8) (i := ds.length) (m := 0) (ds' := ds ++ [(u, ba [(nar .byte c.toInt8.toInt32)])]) K at_last d3_7 (by decide) (by simp) rfl set_last ?_
  exact go_aret K rfl d3_8 (by decide) (by decide) (by subst hQ; exact ⟨u, rfl, rfl⟩)
set_option maxRecDepth 65536 in
set_option maxHeartbeats 40000000 in
theorem ct_rec (l : Launch) (Z : State) (h0 : Heap) (a0 : Array Value) (hw : ∀ d ∈ tables_1, d.before a0 Z = true) (ds : Hp) (a : Nat) :
    Ct l Z h0 (⟨"java/lang/Record", "<init>", "()V"⟩ : MethodName) jdk_30_method_1_code 1 none [] ({ frames := 1, cells := 0, slots := 0, locals := 12 } : Room) #[(.ref a)] ds (fun v ds' => v = none ∧ ds' = ds) := by
  refine Ct.of_go (Ls := #[.val (.ref a)]) pf_7 (fun m => by first | (simp [entryFrame, mkF, argsToLocals, Value.category, maxLocals]; done) | rfl) (fun W K => ?_)
  generalize hQ : (fun v ds' => v = none ∧ ds' = ds : Option Value → Hp → Prop) = Q
  refine go_aloadN (pc' := 1) K d7_0 rfl rfl rfl ?_
  refine go_objinit (pc' := 4) (Wd := 0) K (hw _ (List.mem_of_getElem? (i := 37) rfl)) (hw _ (List.mem_of_getElem? (i := 20) rfl)) (hw _ (List.mem_of_getElem? (i := 21) rfl)) d7_1 rfl rfl (by decide) (by decide) rfl ?_
  exact go_ret K d7_4 (by decide) (by decide) (by subst hQ; exact ⟨rfl, rfl⟩)
set_option maxRecDepth 65536 in
set_option maxHeartbeats 40000000 in
theorem ct_sinit (l : Launch) (Z : State) (h0 : Heap) (a0 : Array Value) (hw : ∀ d ∈ tables_1, d.before a0 Z = true) (a u : Nat) (xs : List Int32) :
    Ct l Z h0 (⟨"java/lang/String", "<init>", "([BB)V"⟩ : MethodName) jdk_42_method_151_code 3 none [] ({ frames := 1, cells := 0, slots := 0, locals := 12 } : Room) #[(.ref a), (.ref u), (.int 0)] [(a, .inr ("java/lang/String", [(("java/lang/String", "value", "[B"), .null), (("java/lang/String", "coder", "B"), .int 0)])), (u, ba xs)] (fun v ds' => v = none ∧ ds' = [(a, .inr ("java/lang/String", [(("java/lang/String", "value", "[B"), .ref u), (("java/lang/String", "coder", "B"), .int 0)])), (u, ba xs)]) := by
  refine Ct.of_go (Ls := #[.val (.ref a), .val (.ref u), .val (.int 0)]) pf_4 (fun m => by first | (simp [entryFrame, mkF, argsToLocals, Value.category, maxLocals]; done) | rfl) (fun W K => ?_)
  generalize hQ : (fun v ds' => v = none ∧ ds' = [(a, .inr ("java/lang/String", [(("java/lang/String", "value", "[B"), .ref u), (("java/lang/String", "coder", "B"), .int 0)])), (u, ba xs)] : Option Value → Hp → Prop) = Q
  refine go_aloadN (pc' := 1) K d4_0 rfl rfl rfl ?_
  refine go_objinit (pc' := 4) (Wd := 0) K (hw _ (List.mem_of_getElem? (i := 19) rfl)) (hw _ (List.mem_of_getElem? (i := 20) rfl)) (hw _ (List.mem_of_getElem? (i := 21) rfl)) d4_1 rfl rfl (by decide) (by decide) rfl ?_
  refine go_aloadN (pc' := 5) K d4_4 rfl rfl rfl ?_
  refine go_aloadN (pc' := 6) K d4_5 rfl rfl rfl ?_
  refine go_putfield (pc' := 9) (i := 0) (j := 0) (ty := (.array .byte)) (ds' := [(a, .inr ("java/lang/String", [(("java/lang/String", "value", "[B"), .ref u), (("java/lang/String", "coder", "B"), .int 0)])), (u, ba xs)]) (KS := [("java/lang/String", "value", "[B"), ("java/lang/String", "coder", "B")]) K (hw _ (List.mem_of_getElem? (i := 22) rfl)) (Or.inr ⟨(hw _ (List.mem_of_getElem? (i := 23) rfl)), rfl, rfl⟩) (hw _ (List.mem_of_getElem? (i := 10) rfl)) rfl rfl rfl (al_String Z a0 hw) (by decide) (by decide) rfl rfl d4_6 rfl rfl ?_
  refine go_aloadN (pc' := 10) K d4_9 rfl rfl rfl ?_
  refine go_iloadN (pc' := 11) K d4_10 rfl rfl ?_
  refine go_putfield (pc' := 14) (i := 0) (j := 1) (ty := .byte) (ds' := [(a, .inr ("java/lang/String", [(("java/lang/String", "value", "[B"), .ref u), (("java/lang/String", "coder", "B"), .int 0)])), (u, ba xs)]) (KS := [("java/lang/String", "value", "[B"), ("java/lang/String", "coder", "B")]) K (hw _ (List.mem_of_getElem? (i := 24) rfl)) (Or.inr ⟨(hw _ (List.mem_of_getElem? (i := 25) rfl)), rfl, rfl⟩) (hw _ (List.mem_of_getElem? (i := 10) rfl)) rfl rfl rfl (al_String Z a0 hw) (by decide) (by decide) rfl rfl d4_11 rfl rfl ?_
  exact go_ret K d4_14 (by decide) (by decide) (by subst hQ; exact ⟨rfl, rfl⟩)
set_option maxRecDepth 65536 in
set_option maxHeartbeats 40000000 in
theorem ct_value (l : Launch) (Z : State) (h0 : Heap) (a0 : Array Value) (hw : ∀ d ∈ tables_1, d.before a0 Z = true) (c cs : Int32) (S0 : Sta Z h0 "java/lang/String" "COMPACT_STRINGS" "Z" (.int cs)) (hcs : cs ≠ 0) (hc : c.toInt ≤ 255) :
    Ct l Z h0 (⟨"java/lang/String", "valueOf", "(C)Ljava/lang/String;"⟩ : MethodName) jdk_42_method_139_code 1 (some (.object "java/lang/String")) [] ({ frames := 2, cells := 2, slots := 5, locals := 32 } : Room) #[(.int c)] [] (fun v ds' => ∃ a u, v = some (.ref a) ∧ ds' = [(a, .inr ("java/lang/String", [(("java/lang/String", "value", "[B"), .ref u), (("java/lang/String", "coder", "B"), .int 0)])), (u, ba [(nar .byte c.toInt8.toInt32)])]) := by
  refine Ct.of_go (Ls := #[.val (.int c)]) pf_1 (fun m => by first | (simp [entryFrame, mkF, argsToLocals, Value.category, maxLocals]; done) | rfl) (fun W K => ?_)
  generalize hQ : (fun v ds' => ∃ a u, v = some (.ref a) ∧ ds' = [(a, .inr ("java/lang/String", [(("java/lang/String", "value", "[B"), .ref u), (("java/lang/String", "coder", "B"), .int 0)])), (u, ba [(nar .byte c.toInt8.toInt32)])] : Option Value → Hp → Prop) = Q
  refine go_getstatic (pc' := 3) (x := .int cs) K (hw _ (List.mem_of_getElem? (i := 4) rfl)) S0 d1_0 rfl ?_
  refine go_if_eq_f (pc' := 6) K d1_3 hcs rfl ?_
  refine go_iloadN (pc' := 7) K d1_6 rfl rfl ?_
  refine go_static (pc' := 10) (Wd := 0) (y' := ⟨"java/lang/StringLatin1", "canEncode", "(C)Z"⟩) (argsL := [(.int c)]) (rest := []) K (hw _ (List.mem_of_getElem? (i := 5) rfl)) (hw _ (List.mem_of_getElem? (i := 6) rfl)) (hw _ (List.mem_of_getElem? (i := 7) rfl)) (hw _ (List.mem_of_getElem? (i := 8) rfl)) d1_7 (ct_can l Z h0 a0 hw _ c hc) (lenOf pd__C_Z rfl) rfl rfl (by decide) rfl (by decide) (by decide) (by decide) (by decide) rfl ?_
  rintro _ ds' ⟨rfl, hds⟩
  rw [hds]
  show Go W Q [] 0 0 10 #[.val (.int c)] [(.int 1)]
  refine go_if_eq_f (pc' := 13) K d1_10 (by decide) rfl ?_
  refine go_new (pc' := 16) (C := "java/lang/String") (fs := [(("java/lang/String", "value", "[B"), .null), (("java/lang/String", "coder", "B"), .int 0)]) (KS := [("java/lang/String", "value", "[B"), ("java/lang/String", "coder", "B")]) K (hw _ (List.mem_of_getElem? (i := 9) rfl)) (hw _ (List.mem_of_getElem? (i := 10) rfl)) (hw _ (List.mem_of_getElem? (i := 2) rfl)) rfl (al_String Z a0 hw) (by decide +kernel) d1_13 (by decide) (by decide) rfl (fun a hga hla => ?_)
  show Go W Q [(a, .inr ("java/lang/String", [(("java/lang/String", "value", "[B"), .null), (("java/lang/String", "coder", "B"), .int 0)]))] 1 4 16 #[.val (.int c)] [(.ref a)]
  refine go_dup (pc' := 17) K d1_16 rfl rfl ?_
  refine go_iloadN (pc' := 18) K d1_17 rfl rfl ?_
  refine go_static (pc' := 21) (Wd := 2) (y' := ⟨"java/lang/StringLatin1", "toBytes", "(C)[B"⟩) (argsL := [(.int c)]) (rest := [(.ref a), (.ref a)]) K (hw _ (List.mem_of_getElem? (i := 11) rfl)) (hw _ (List.mem_of_getElem? (i := 12) rfl)) (hw _ (List.mem_of_getElem? (i := 7) rfl)) (hw _ (List.mem_of_getElem? (i := 13) rfl)) d1_18 (ct_bytes l Z h0 a0 hw _ c) (lenOf pd__C__B rfl) rfl rfl (by decide) rfl (by decide) (by decide) (by decide) (by decide) rfl ?_
  rintro _ ds' ⟨u, rfl, hds⟩
  rw [hds]
  show Go W Q [(a, .inr ("java/lang/String", [(("java/lang/String", "value", "[B"), .null), (("java/lang/String", "coder", "B"), .int 0)])), (u, ba [(nar .byte c.toInt8.toInt32)])] 2 5 21 #[.val (.int c)] [(.ref u), (.ref a), (.ref a)]
  refine go_iconst (pc' := 22) (v := 0) K d1_21 rfl rfl ?_
  refine go_special (pc' := 25) (Wd := 1) (y' := ⟨"java/lang/String", "<init>", "([BB)V"⟩) (b := a) (argsL := [(.ref u), (.int 0)]) (rest := [(.ref a)]) K rfl (hw _ (List.mem_of_getElem? (i := 15) rfl)) (hw _ (List.mem_of_getElem? (i := 16) rfl)) (hw _ (List.mem_of_getElem? (i := 2) rfl)) (hw _ (List.mem_of_getElem? (i := 18) rfl)) d1_22 (ct_sinit l Z h0 a0 hw a u _) (lenOf pd___BB_V rfl) rfl rfl (by decide) rfl (by decide) (by decide) (by decide) (by decide) rfl ?_
  rintro _ ds' ⟨rfl, hds⟩
  rw [hds]
  show Go W Q [(a, .inr ("java/lang/String", [(("java/lang/String", "value", "[B"), .ref u), (("java/lang/String", "coder", "B"), .int 0)])), (u, ba [(nar .byte c.toInt8.toInt32)])] 2 5 25 #[.val (.int c)] [(.ref a)]
  exact go_aret K rfl d1_25 (by decide) (by decide) (by subst hQ; exact ⟨a, u, rfl, rfl⟩)
set_option maxRecDepth 65536 in
set_option maxHeartbeats 40000000 in
theorem ct_minit (l : Launch) (Z : State) (h0 : Heap) (a0 : Array Value) (hw : ∀ d ∈ tables_1, d.before a0 Z = true) (a u m : Nat) (sd bd : D) (q1 q2 q3 : Int64) (q4 : Int32) (q5 : Int64) :
    Ct l Z h0 (⟨"com/example/ferryflow/ferryflow/Message", "<init>", "(Ljava/lang/String;JJJIJ)V"⟩ : MethodName) prog_32_method_1_code 11 none [] ({ frames := 2, cells := 0, slots := 0, locals := 24 } : Room) #[(.ref m), (.ref a), (.long q1), (.long q2), (.long q3), (.int q4), (.long q5)] [(a, sd), (u, bd), (m, .inr ("com/example/ferryflow/ferryflow/Message", [(("com/example/ferryflow/ferryflow/Message", "id", "Ljava/lang/String;"), .null), (("com/example/ferryflow/ferryflow/Message", "from", "J"), .long 0), (("com/example/ferryflow/ferryflow/Message", "to", "J"), .long 0), (("com/example/ferryflow/ferryflow/Message", "bytes", "J"), .long 0), (("com/example/ferryflow/ferryflow/Message", "priority", "I"), .int 0), (("com/example/ferryflow/ferryflow/Message", "release", "J"), .long 0)]))] (fun v ds' => v = none ∧ ds' = [(a, sd), (u, bd), (m, .inr ("com/example/ferryflow/ferryflow/Message", [(("com/example/ferryflow/ferryflow/Message", "id", "Ljava/lang/String;"), .ref a), (("com/example/ferryflow/ferryflow/Message", "from", "J"), .long q1), (("com/example/ferryflow/ferryflow/Message", "to", "J"), .long q2), (("com/example/ferryflow/ferryflow/Message", "bytes", "J"), .long q3), (("com/example/ferryflow/ferryflow/Message", "priority", "I"), .int q4), (("com/example/ferryflow/ferryflow/Message", "release", "J"), .long q5)]))]) := by
  refine Ct.of_go (Ls := #[.val (.ref m), .val (.ref a), .val (.long q1), .second, .val (.long q2), .second, .val (.long q3), .second, .val (.int q4), .val (.long q5), .second]) pf_6 (fun m => by first | (simp [entryFrame, mkF, argsToLocals, Value.category, maxLocals]; done) | rfl) (fun W K => ?_)
  generalize hQ : (fun v ds' => v = none ∧ ds' = [(a, sd), (u, bd), (m, .inr ("com/example/ferryflow/ferryflow/Message", [(("com/example/ferryflow/ferryflow/Message", "id", "Ljava/lang/String;"), .ref a), (("com/example/ferryflow/ferryflow/Message", "from", "J"), .long q1), (("com/example/ferryflow/ferryflow/Message", "to", "J"), .long q2), (("com/example/ferryflow/ferryflow/Message", "bytes", "J"), .long q3), (("com/example/ferryflow/ferryflow/Message", "priority", "I"), .int q4), (("com/example/ferryflow/ferryflow/Message", "release", "J"), .long q5)]))] : Option Value → Hp → Prop) = Q
  refine go_aloadN (pc' := 1) K d6_0 rfl rfl rfl ?_
  refine go_special (pc' := 4) (Wd := 0) (y' := ⟨"java/lang/Record", "<init>", "()V"⟩) (b := m) (argsL := []) (rest := []) K rfl (hw _ (List.mem_of_getElem? (i := 32) rfl)) (hw _ (List.mem_of_getElem? (i := 33) rfl)) (hw _ (List.mem_of_getElem? (i := 35) rfl)) (hw _ (List.mem_of_getElem? (i := 36) rfl)) d6_1 (ct_rec l Z h0 a0 hw _ m) (lenOf pd___V rfl) rfl rfl (by decide) rfl (by decide) (by decide) (by decide) (by decide) rfl ?_
  rintro _ ds' ⟨rfl, hds⟩
  rw [hds]
  show Go W Q [(a, sd), (u, bd), (m, .inr ("com/example/ferryflow/ferryflow/Message", [(("com/example/ferryflow/ferryflow/Message", "id", "Ljava/lang/String;"), .null), (("com/example/ferryflow/ferryflow/Message", "from", "J"), .long 0), (("com/example/ferryflow/ferryflow/Message", "to", "J"), .long 0), (("com/example/ferryflow/ferryflow/Message", "bytes", "J"), .long 0), (("com/example/ferryflow/ferryflow/Message", "priority", "I"), .int 0), (("com/example/ferryflow/ferryflow/Message", "release", "J"), .long 0)]))] 0 0 4 #[.val (.ref m), .val (.ref a), .val (.long q1), .second, .val (.long q2), .second, .val (.long q3), .second, .val (.int q4), .val (.long q5), .second] []
  refine go_aloadN (pc' := 5) K d6_4 rfl rfl rfl ?_
  refine go_aloadN (pc' := 6) K d6_5 rfl rfl rfl ?_
  refine go_putfield (pc' := 9) (i := 2) (j := 0) (ty := (.object "java/lang/String")) (ds' := [(a, sd), (u, bd), (m, .inr ("com/example/ferryflow/ferryflow/Message", [(("com/example/ferryflow/ferryflow/Message", "id", "Ljava/lang/String;"), .ref a), (("com/example/ferryflow/ferryflow/Message", "from", "J"), .long 0), (("com/example/ferryflow/ferryflow/Message", "to", "J"), .long 0), (("com/example/ferryflow/ferryflow/Message", "bytes", "J"), .long 0), (("com/example/ferryflow/ferryflow/Message", "priority", "I"), .int 0), (("com/example/ferryflow/ferryflow/Message", "release", "J"), .long 0)]))]) (KS := [("com/example/ferryflow/ferryflow/Message", "id", "Ljava/lang/String;"), ("com/example/ferryflow/ferryflow/Message", "from", "J"), ("com/example/ferryflow/ferryflow/Message", "to", "J"), ("com/example/ferryflow/ferryflow/Message", "bytes", "J"), ("com/example/ferryflow/ferryflow/Message", "priority", "I"), ("com/example/ferryflow/ferryflow/Message", "release", "J")]) K (hw _ (List.mem_of_getElem? (i := 38) rfl)) (Or.inr ⟨(hw _ (List.mem_of_getElem? (i := 39) rfl)), rfl, rfl⟩) (hw _ (List.mem_of_getElem? (i := 27) rfl)) rfl rfl rfl (al_Message Z a0 hw) (by decide) (by decide) rfl rfl d6_6 rfl rfl ?_
  refine go_aloadN (pc' := 10) K d6_9 rfl rfl rfl ?_
  refine go_lloadN (pc' := 11) K d6_10 rfl rfl ?_
  refine go_putfield (pc' := 14) (i := 2) (j := 1) (ty := .long) (ds' := [(a, sd), (u, bd), (m, .inr ("com/example/ferryflow/ferryflow/Message", [(("com/example/ferryflow/ferryflow/Message", "id", "Ljava/lang/String;"), .ref a), (("com/example/ferryflow/ferryflow/Message", "from", "J"), .long q1), (("com/example/ferryflow/ferryflow/Message", "to", "J"), .long 0), (("com/example/ferryflow/ferryflow/Message", "bytes", "J"), .long 0), (("com/example/ferryflow/ferryflow/Message", "priority", "I"), .int 0), (("com/example/ferryflow/ferryflow/Message", "release", "J"), .long 0)]))]) (KS := [("com/example/ferryflow/ferryflow/Message", "id", "Ljava/lang/String;"), ("com/example/ferryflow/ferryflow/Message", "from", "J"), ("com/example/ferryflow/ferryflow/Message", "to", "J"), ("com/example/ferryflow/ferryflow/Message", "bytes", "J"), ("com/example/ferryflow/ferryflow/Message", "priority", "I"), ("com/example/ferryflow/ferryflow/Message", "release", "J")]) K (hw _ (List.mem_of_getElem? (i := 40) rfl)) (Or.inr ⟨(hw _ (List.mem_of_getElem? (i := 41) rfl)), rfl, rfl⟩) (hw _ (List.mem_of_getElem? (i := 27) rfl)) rfl rfl rfl (al_Message Z a0 hw) (by decide) (by decide) rfl rfl d6_11 rfl rfl ?_
  refine go_aloadN (pc' := 15) K d6_14 rfl rfl rfl ?_
  refine go_lload (pc' := 17) K d6_15 rfl rfl ?_
  refine go_putfield (pc' := 20) (i := 2) (j := 2) (ty := .long) (ds' := [(a, sd), (u, bd), (m, .inr ("com/example/ferryflow/ferryflow/Message", [(("com/example/ferryflow/ferryflow/Message", "id", "Ljava/lang/String;"), .ref a), (("com/example/ferryflow/ferryflow/Message", "from", "J"), .long q1), (("com/example/ferryflow/ferryflow/Message", "to", "J"), .long q2), (("com/example/ferryflow/ferryflow/Message", "bytes", "J"), .long 0), (("com/example/ferryflow/ferryflow/Message", "priority", "I"), .int 0), (("com/example/ferryflow/ferryflow/Message", "release", "J"), .long 0)]))]) (KS := [("com/example/ferryflow/ferryflow/Message", "id", "Ljava/lang/String;"), ("com/example/ferryflow/ferryflow/Message", "from", "J"), ("com/example/ferryflow/ferryflow/Message", "to", "J"), ("com/example/ferryflow/ferryflow/Message", "bytes", "J"), ("com/example/ferryflow/ferryflow/Message", "priority", "I"), ("com/example/ferryflow/ferryflow/Message", "release", "J")]) K (hw _ (List.mem_of_getElem? (i := 42) rfl)) (Or.inr ⟨(hw _ (List.mem_of_getElem? (i := 43) rfl)), rfl, rfl⟩) (hw _ (List.mem_of_getElem? (i := 27) rfl)) rfl rfl rfl (al_Message Z a0 hw) (by decide) (by decide) rfl rfl d6_17 rfl rfl ?_
  refine go_aloadN (pc' := 21) K d6_20 rfl rfl rfl ?_
  refine go_lload (pc' := 23) K d6_21 rfl rfl ?_
  refine go_putfield (pc' := 26) (i := 2) (j := 3) (ty := .long) (ds' := [(a, sd), (u, bd), (m, .inr ("com/example/ferryflow/ferryflow/Message", [(("com/example/ferryflow/ferryflow/Message", "id", "Ljava/lang/String;"), .ref a), (("com/example/ferryflow/ferryflow/Message", "from", "J"), .long q1), (("com/example/ferryflow/ferryflow/Message", "to", "J"), .long q2), (("com/example/ferryflow/ferryflow/Message", "bytes", "J"), .long q3), (("com/example/ferryflow/ferryflow/Message", "priority", "I"), .int 0), (("com/example/ferryflow/ferryflow/Message", "release", "J"), .long 0)]))]) (KS := [("com/example/ferryflow/ferryflow/Message", "id", "Ljava/lang/String;"), ("com/example/ferryflow/ferryflow/Message", "from", "J"), ("com/example/ferryflow/ferryflow/Message", "to", "J"), ("com/example/ferryflow/ferryflow/Message", "bytes", "J"), ("com/example/ferryflow/ferryflow/Message", "priority", "I"), ("com/example/ferryflow/ferryflow/Message", "release", "J")]) K (hw _ (List.mem_of_getElem? (i := 44) rfl)) (Or.inr ⟨(hw _ (List.mem_of_getElem? (i := 45) rfl)), rfl, rfl⟩) (hw _ (List.mem_of_getElem? (i := 27) rfl)) rfl rfl rfl (al_Message Z a0 hw) (by decide) (by decide) rfl rfl d6_23 rfl rfl ?_
  refine go_aloadN (pc' := 27) K d6_26 rfl rfl rfl ?_
  refine go_iload (pc' := 29) K d6_27 rfl rfl ?_
  refine go_putfield (pc' := 32) (i := 2) (j := 4) (ty := .int) (ds' := [(a, sd), (u, bd), (m, .inr ("com/example/ferryflow/ferryflow/Message", [(("com/example/ferryflow/ferryflow/Message", "id", "Ljava/lang/String;"), .ref a), (("com/example/ferryflow/ferryflow/Message", "from", "J"), .long q1), (("com/example/ferryflow/ferryflow/Message", "to", "J"), .long q2), (("com/example/ferryflow/ferryflow/Message", "bytes", "J"), .long q3), (("com/example/ferryflow/ferryflow/Message", "priority", "I"), .int q4), (("com/example/ferryflow/ferryflow/Message", "release", "J"), .long 0)]))]) (KS := [("com/example/ferryflow/ferryflow/Message", "id", "Ljava/lang/String;"), ("com/example/ferryflow/ferryflow/Message", "from", "J"), ("com/example/ferryflow/ferryflow/Message", "to", "J"), ("com/example/ferryflow/ferryflow/Message", "bytes", "J"), ("com/example/ferryflow/ferryflow/Message", "priority", "I"), ("com/example/ferryflow/ferryflow/Message", "release", "J")]) K (hw _ (List.mem_of_getElem? (i := 46) rfl)) (Or.inr ⟨(hw _ (List.mem_of_getElem? (i := 47) rfl)), rfl, rfl⟩) (hw _ (List.mem_of_getElem? (i := 27) rfl)) rfl rfl rfl (al_Message Z a0 hw) (by decide) (by decide) rfl rfl d6_29 rfl rfl ?_
  refine go_aloadN (pc' := 33) K d6_32 rfl rfl rfl ?_
  refine go_lload (pc' := 35) K d6_33 rfl rfl ?_
  refine go_putfield (pc' := 38) (i := 2) (j := 5) (ty := .long) (ds' := [(a, sd), (u, bd), (m, .inr ("com/example/ferryflow/ferryflow/Message", [(("com/example/ferryflow/ferryflow/Message", "id", "Ljava/lang/String;"), .ref a), (("com/example/ferryflow/ferryflow/Message", "from", "J"), .long q1), (("com/example/ferryflow/ferryflow/Message", "to", "J"), .long q2), (("com/example/ferryflow/ferryflow/Message", "bytes", "J"), .long q3), (("com/example/ferryflow/ferryflow/Message", "priority", "I"), .int q4), (("com/example/ferryflow/ferryflow/Message", "release", "J"), .long q5)]))]) (KS := [("com/example/ferryflow/ferryflow/Message", "id", "Ljava/lang/String;"), ("com/example/ferryflow/ferryflow/Message", "from", "J"), ("com/example/ferryflow/ferryflow/Message", "to", "J"), ("com/example/ferryflow/ferryflow/Message", "bytes", "J"), ("com/example/ferryflow/ferryflow/Message", "priority", "I"), ("com/example/ferryflow/ferryflow/Message", "release", "J")]) K (hw _ (List.mem_of_getElem? (i := 48) rfl)) (Or.inr ⟨(hw _ (List.mem_of_getElem? (i := 49) rfl)), rfl, rfl⟩) (hw _ (List.mem_of_getElem? (i := 27) rfl)) rfl rfl rfl (al_Message Z a0 hw) (by decide) (by decide) rfl rfl d6_35 rfl rfl ?_
  exact go_ret K d6_38 (by decide) (by decide) (by subst hQ; exact ⟨rfl, rfl⟩)
set_option maxRecDepth 65536 in
set_option maxHeartbeats 40000000 in
theorem ct_wt1 (l : Launch) (Z : State) (h0 : Heap) (a0 : Array Value) (hw : ∀ d ∈ tables_1, d.before a0 Z = true) (a u m : Nat) (sd bd : D) (q1 q2 q3 : Int64) (q5 : Int64) :
    Ct l Z h0 (⟨"com/example/ferryflow/ferryflow/Message", "weight", "()J"⟩ : MethodName) prog_32_method_2_code 4 (some .long) [] ({ frames := 0, cells := 0, slots := 0, locals := 0 } : Room) #[(.ref m)] [(a, sd), (u, bd), (m, .inr ("com/example/ferryflow/ferryflow/Message", [(("com/example/ferryflow/ferryflow/Message", "id", "Ljava/lang/String;"), .ref a), (("com/example/ferryflow/ferryflow/Message", "from", "J"), .long q1), (("com/example/ferryflow/ferryflow/Message", "to", "J"), .long q2), (("com/example/ferryflow/ferryflow/Message", "bytes", "J"), .long q3), (("com/example/ferryflow/ferryflow/Message", "priority", "I"), .int 1), (("com/example/ferryflow/ferryflow/Message", "release", "J"), .long q5)]))] (fun v ds' => v = some (.long 1000) ∧ ds' = [(a, sd), (u, bd), (m, .inr ("com/example/ferryflow/ferryflow/Message", [(("com/example/ferryflow/ferryflow/Message", "id", "Ljava/lang/String;"), .ref a), (("com/example/ferryflow/ferryflow/Message", "from", "J"), .long q1), (("com/example/ferryflow/ferryflow/Message", "to", "J"), .long q2), (("com/example/ferryflow/ferryflow/Message", "bytes", "J"), .long q3), (("com/example/ferryflow/ferryflow/Message", "priority", "I"), .int 1), (("com/example/ferryflow/ferryflow/Message", "release", "J"), .long q5)]))]) := by
  refine Ct.of_go (Ls := #[.val (.ref m), .unset, .unset, .unset]) pf_8 (fun m => by first | (simp [entryFrame, mkF, argsToLocals, Value.category, maxLocals]; done) | rfl) (fun W K => ?_)
  generalize hQ : (fun v ds' => v = some (.long 1000) ∧ ds' = [(a, sd), (u, bd), (m, .inr ("com/example/ferryflow/ferryflow/Message", [(("com/example/ferryflow/ferryflow/Message", "id", "Ljava/lang/String;"), .ref a), (("com/example/ferryflow/ferryflow/Message", "from", "J"), .long q1), (("com/example/ferryflow/ferryflow/Message", "to", "J"), .long q2), (("com/example/ferryflow/ferryflow/Message", "bytes", "J"), .long q3), (("com/example/ferryflow/ferryflow/Message", "priority", "I"), .int 1), (("com/example/ferryflow/ferryflow/Message", "release", "J"), .long q5)]))] : Option Value → Hp → Prop) = Q
  refine go_lconst (pc' := 1) (v := 1) K d8_0 rfl rfl ?_
  refine go_lstoreN (pc' := 2) (Ls' := #[.val (.ref m), .val (.long 1), .second, .unset]) K d8_1 rfl rfl ?_
  refine go_aloadN (pc' := 3) K d8_2 rfl rfl rfl ?_
  refine go_getfield (pc' := 6) (i := 2) (j := 4) K (hw _ (List.mem_of_getElem? (i := 46) rfl)) rfl rfl d8_3 rfl ?_
  refine go_istoreN (pc' := 7) (Ls' := #[.val (.ref m), .val (.long 1), .second, .val (.int 1)]) K d8_6 rfl rfl ?_
  refine go_iloadN (pc' := 8) K d8_7 rfl rfl ?_
  refine go_iconst (pc' := 9) (v := 4) K d8_8 rfl rfl ?_
  refine go_ic_ge_f (pc' := 12) K d8_9 (by decide) rfl ?_
  refine go_lloadN (pc' := 13) K d8_12 rfl rfl ?_
  refine go_ldc2 (pc' := 16) (v := 10) K d8_13 (hw _ (List.mem_of_getElem? (i := 59) rfl)) rfl ?_
  refine go_lmul (pc' := 17) K d8_16 rfl ?_
  rw [show ((1 * 10) : Int64) = 10 from by decide]
  refine go_lstoreN (pc' := 18) (Ls' := #[.val (.ref m), .val (.long 10), .second, .val (.int 1)]) K d8_17 rfl rfl ?_
  refine go_iinc (pc' := 21) (v := 1) (Ls' := #[.val (.ref m), .val (.long 10), .second, .val (.int 2)]) K d8_18 rfl rfl rfl rfl ?_
  refine go_goto (pc' := 7) K d8_21 (by decide) (by decide) ?_
  refine go_iloadN (pc' := 8) K d8_7 rfl rfl ?_
  refine go_iconst (pc' := 9) (v := 4) K d8_8 rfl rfl ?_
  refine go_ic_ge_f (pc' := 12) K d8_9 (by decide) rfl ?_
  refine go_lloadN (pc' := 13) K d8_12 rfl rfl ?_
  refine go_ldc2 (pc' := 16) (v := 10) K d8_13 (hw _ (List.mem_of_getElem? (i := 59) rfl)) rfl ?_
  refine go_lmul (pc' := 17) K d8_16 rfl ?_
  rw [show ((10 * 10) : Int64) = 100 from by decide]
  refine go_lstoreN (pc' := 18) (Ls' := #[.val (.ref m), .val (.long 100), .second, .val (.int 2)]) K d8_17 rfl rfl ?_
  refine go_iinc (pc' := 21) (v := 1) (Ls' := #[.val (.ref m), .val (.long 100), .second, .val (.int 3)]) K d8_18 rfl rfl rfl rfl ?_
  refine go_goto (pc' := 7) K d8_21 (by decide) (by decide) ?_
  refine go_iloadN (pc' := 8) K d8_7 rfl rfl ?_
  refine go_iconst (pc' := 9) (v := 4) K d8_8 rfl rfl ?_
  refine go_ic_ge_f (pc' := 12) K d8_9 (by decide) rfl ?_
  refine go_lloadN (pc' := 13) K d8_12 rfl rfl ?_
  refine go_ldc2 (pc' := 16) (v := 10) K d8_13 (hw _ (List.mem_of_getElem? (i := 59) rfl)) rfl ?_
  refine go_lmul (pc' := 17) K d8_16 rfl ?_
  rw [show ((100 * 10) : Int64) = 1000 from by decide]
  refine go_lstoreN (pc' := 18) (Ls' := #[.val (.ref m), .val (.long 1000), .second, .val (.int 3)]) K d8_17 rfl rfl ?_
  refine go_iinc (pc' := 21) (v := 1) (Ls' := #[.val (.ref m), .val (.long 1000), .second, .val (.int 4)]) K d8_18 rfl rfl rfl rfl ?_
  refine go_goto (pc' := 7) K d8_21 (by decide) (by decide) ?_
  refine go_iloadN (pc' := 8) K d8_7 rfl rfl ?_
  refine go_iconst (pc' := 9) (v := 4) K d8_8 rfl rfl ?_
  refine go_ic_ge_t (pc' := 24) K d8_9 (by decide) (by decide) (by decide) ?_
  refine go_lloadN (pc' := 25) K d8_24 rfl rfl ?_
  exact go_lret K d8_25 (by decide) (by decide) (by subst hQ; exact ⟨rfl, rfl⟩)
set_option maxRecDepth 65536 in
set_option maxHeartbeats 40000000 in
theorem ct_ex1 (l : Launch) (Z : State) (h0 : Heap) (a0 : Array Value) (hw : ∀ d ∈ tables_1, d.before a0 Z = true) (ds : Hp) :
    Ct l Z h0 (⟨"com/example/ferryflow/ferryflow/MessageWeightPinLaw", "expected", "(I)J"⟩ : MethodName) method_3_code 1 (some .long) [] ({ frames := 0, cells := 0, slots := 0, locals := 0 } : Room) #[(.int 1)] ds (fun v ds' => v = some (.long 1000) ∧ ds' = ds) := by
  refine Ct.of_go (Ls := #[.val (.int 1)]) pf_9 (fun m => by first | (simp [entryFrame, mkF, argsToLocals, Value.category, maxLocals]; done) | rfl) (fun W K => ?_)
  generalize hQ : (fun v ds' => v = some (.long 1000) ∧ ds' = ds : Option Value → Hp → Prop) = Q
  refine go_iloadN (pc' := 1) K d9_0 rfl rfl ?_
  refine go_iconst (pc' := 2) (v := 1) K d9_1 rfl rfl ?_
  refine go_ic_ne_f (pc' := 5) K d9_2 (by decide) rfl ?_
  refine go_ldc2 (pc' := 8) (v := 1000) K d9_5 (hw _ (List.mem_of_getElem? (i := 61) rfl)) rfl ?_
  exact go_lret K d9_8 (by decide) (by decide) (by subst hQ; exact ⟨rfl, rfl⟩)
set_option maxRecDepth 65536 in
set_option maxHeartbeats 40000000 in
theorem ct_wt2 (l : Launch) (Z : State) (h0 : Heap) (a0 : Array Value) (hw : ∀ d ∈ tables_1, d.before a0 Z = true) (a u m : Nat) (sd bd : D) (q1 q2 q3 : Int64) (q5 : Int64) :
    Ct l Z h0 (⟨"com/example/ferryflow/ferryflow/Message", "weight", "()J"⟩ : MethodName) prog_32_method_2_code 4 (some .long) [] ({ frames := 0, cells := 0, slots := 0, locals := 0 } : Room) #[(.ref m)] [(a, sd), (u, bd), (m, .inr ("com/example/ferryflow/ferryflow/Message", [(("com/example/ferryflow/ferryflow/Message", "id", "Ljava/lang/String;"), .ref a), (("com/example/ferryflow/ferryflow/Message", "from", "J"), .long q1), (("com/example/ferryflow/ferryflow/Message", "to", "J"), .long q2), (("com/example/ferryflow/ferryflow/Message", "bytes", "J"), .long q3), (("com/example/ferryflow/ferryflow/Message", "priority", "I"), .int 2), (("com/example/ferryflow/ferryflow/Message", "release", "J"), .long q5)]))] (fun v ds' => v = some (.long 100) ∧ ds' = [(a, sd), (u, bd), (m, .inr ("com/example/ferryflow/ferryflow/Message", [(("com/example/ferryflow/ferryflow/Message", "id", "Ljava/lang/String;"), .ref a), (("com/example/ferryflow/ferryflow/Message", "from", "J"), .long q1), (("com/example/ferryflow/ferryflow/Message", "to", "J"), .long q2), (("com/example/ferryflow/ferryflow/Message", "bytes", "J"), .long q3), (("com/example/ferryflow/ferryflow/Message", "priority", "I"), .int 2), (("com/example/ferryflow/ferryflow/Message", "release", "J"), .long q5)]))]) := by
  refine Ct.of_go (Ls := #[.val (.ref m), .unset, .unset, .unset]) pf_8 (fun m => by first | (simp [entryFrame, mkF, argsToLocals, Value.category, maxLocals]; done) | rfl) (fun W K => ?_)
  generalize hQ : (fun v ds' => v = some (.long 100) ∧ ds' = [(a, sd), (u, bd), (m, .inr ("com/example/ferryflow/ferryflow/Message", [(("com/example/ferryflow/ferryflow/Message", "id", "Ljava/lang/String;"), .ref a), (("com/example/ferryflow/ferryflow/Message", "from", "J"), .long q1), (("com/example/ferryflow/ferryflow/Message", "to", "J"), .long q2), (("com/example/ferryflow/ferryflow/Message", "bytes", "J"), .long q3), (("com/example/ferryflow/ferryflow/Message", "priority", "I"), .int 2), (("com/example/ferryflow/ferryflow/Message", "release", "J"), .long q5)]))] : Option Value → Hp → Prop) = Q
  refine go_lconst (pc' := 1) (v := 1) K d8_0 rfl rfl ?_
  refine go_lstoreN (pc' := 2) (Ls' := #[.val (.ref m), .val (.long 1), .second, .unset]) K d8_1 rfl rfl ?_
  refine go_aloadN (pc' := 3) K d8_2 rfl rfl rfl ?_
  refine go_getfield (pc' := 6) (i := 2) (j := 4) K (hw _ (List.mem_of_getElem? (i := 46) rfl)) rfl rfl d8_3 rfl ?_
  refine go_istoreN (pc' := 7) (Ls' := #[.val (.ref m), .val (.long 1), .second, .val (.int 2)]) K d8_6 rfl rfl ?_
  refine go_iloadN (pc' := 8) K d8_7 rfl rfl ?_
  refine go_iconst (pc' := 9) (v := 4) K d8_8 rfl rfl ?_
  refine go_ic_ge_f (pc' := 12) K d8_9 (by decide) rfl ?_
  refine go_lloadN (pc' := 13) K d8_12 rfl rfl ?_
  refine go_ldc2 (pc' := 16) (v := 10) K d8_13 (hw _ (List.mem_of_getElem? (i := 59) rfl)) rfl ?_
  refine go_lmul (pc' := 17) K d8_16 rfl ?_
  rw [show ((1 * 10) : Int64) = 10 from by decide]
  refine go_lstoreN (pc' := 18) (Ls' := #[.val (.ref m), .val (.long 10), .second, .val (.int 2)]) K d8_17 rfl rfl ?_
  refine go_iinc (pc' := 21) (v := 1) (Ls' := #[.val (.ref m), .val (.long 10), .second, .val (.int 3)]) K d8_18 rfl rfl rfl rfl ?_
  refine go_goto (pc' := 7) K d8_21 (by decide) (by decide) ?_
  refine go_iloadN (pc' := 8) K d8_7 rfl rfl ?_
  refine go_iconst (pc' := 9) (v := 4) K d8_8 rfl rfl ?_
  refine go_ic_ge_f (pc' := 12) K d8_9 (by decide) rfl ?_
  refine go_lloadN (pc' := 13) K d8_12 rfl rfl ?_
  refine go_ldc2 (pc' := 16) (v := 10) K d8_13 (hw _ (List.mem_of_getElem? (i := 59) rfl)) rfl ?_
  refine go_lmul (pc' := 17) K d8_16 rfl ?_
  rw [show ((10 * 10) : Int64) = 100 from by decide]
  refine go_lstoreN (pc' := 18) (Ls' := #[.val (.ref m), .val (.long 100), .second, .val (.int 3)]) K d8_17 rfl rfl ?_
  refine go_iinc (pc' := 21) (v := 1) (Ls' := #[.val (.ref m), .val (.long 100), .second, .val (.int 4)]) K d8_18 rfl rfl rfl rfl ?_
  refine go_goto (pc' := 7) K d8_21 (by decide) (by decide) ?_
  refine go_iloadN (pc' := 8) K d8_7 rfl rfl ?_
  refine go_iconst (pc' := 9) (v := 4) K d8_8 rfl rfl ?_
  refine go_ic_ge_t (pc' := 24) K d8_9 (by decide) (by decide) (by decide) ?_
  refine go_lloadN (pc' := 25) K d8_24 rfl rfl ?_
  exact go_lret K d8_25 (by decide) (by decide) (by subst hQ; exact ⟨rfl, rfl⟩)
set_option maxRecDepth 65536 in
set_option maxHeartbeats 40000000 in
theorem ct_ex2 (l : Launch) (Z : State) (h0 : Heap) (a0 : Array Value) (hw : ∀ d ∈ tables_1, d.before a0 Z = true) (ds : Hp) :
    Ct l Z h0 (⟨"com/example/ferryflow/ferryflow/MessageWeightPinLaw", "expected", "(I)J"⟩ : MethodName) method_3_code 1 (some .long) [] ({ frames := 0, cells := 0, slots := 0, locals := 0 } : Room) #[(.int 2)] ds (fun v ds' => v = some (.long 100) ∧ ds' = ds) := by
  refine Ct.of_go (Ls := #[.val (.int 2)]) pf_9 (fun m => by first | (simp [entryFrame, mkF, argsToLocals, Value.category, maxLocals]; done) | rfl) (fun W K => ?_)
  generalize hQ : (fun v ds' => v = some (.long 100) ∧ ds' = ds : Option Value → Hp → Prop) = Q
  refine go_iloadN (pc' := 1) K d9_0 rfl rfl ?_
  refine go_iconst (pc' := 2) (v := 1) K d9_1 rfl rfl ?_
  refine go_ic_ne_t (pc' := 9) K d9_2 (by decide) (by decide) (by decide) ?_
  refine go_iloadN (pc' := 10) K d9_9 rfl rfl ?_
  refine go_iconst (pc' := 11) (v := 2) K d9_10 rfl rfl ?_
  refine go_ic_ne_f (pc' := 14) K d9_11 (by decide) rfl ?_
  refine go_ldc2 (pc' := 17) (v := 100) K d9_14 (hw _ (List.mem_of_getElem? (i := 60) rfl)) rfl ?_
  exact go_lret K d9_17 (by decide) (by decide) (by subst hQ; exact ⟨rfl, rfl⟩)
set_option maxRecDepth 65536 in
set_option maxHeartbeats 40000000 in
theorem ct_wt3 (l : Launch) (Z : State) (h0 : Heap) (a0 : Array Value) (hw : ∀ d ∈ tables_1, d.before a0 Z = true) (a u m : Nat) (sd bd : D) (q1 q2 q3 : Int64) (q5 : Int64) :
    Ct l Z h0 (⟨"com/example/ferryflow/ferryflow/Message", "weight", "()J"⟩ : MethodName) prog_32_method_2_code 4 (some .long) [] ({ frames := 0, cells := 0, slots := 0, locals := 0 } : Room) #[(.ref m)] [(a, sd), (u, bd), (m, .inr ("com/example/ferryflow/ferryflow/Message", [(("com/example/ferryflow/ferryflow/Message", "id", "Ljava/lang/String;"), .ref a), (("com/example/ferryflow/ferryflow/Message", "from", "J"), .long q1), (("com/example/ferryflow/ferryflow/Message", "to", "J"), .long q2), (("com/example/ferryflow/ferryflow/Message", "bytes", "J"), .long q3), (("com/example/ferryflow/ferryflow/Message", "priority", "I"), .int 3), (("com/example/ferryflow/ferryflow/Message", "release", "J"), .long q5)]))] (fun v ds' => v = some (.long 10) ∧ ds' = [(a, sd), (u, bd), (m, .inr ("com/example/ferryflow/ferryflow/Message", [(("com/example/ferryflow/ferryflow/Message", "id", "Ljava/lang/String;"), .ref a), (("com/example/ferryflow/ferryflow/Message", "from", "J"), .long q1), (("com/example/ferryflow/ferryflow/Message", "to", "J"), .long q2), (("com/example/ferryflow/ferryflow/Message", "bytes", "J"), .long q3), (("com/example/ferryflow/ferryflow/Message", "priority", "I"), .int 3), (("com/example/ferryflow/ferryflow/Message", "release", "J"), .long q5)]))]) := by
  refine Ct.of_go (Ls := #[.val (.ref m), .unset, .unset, .unset]) pf_8 (fun m => by first | (simp [entryFrame, mkF, argsToLocals, Value.category, maxLocals]; done) | rfl) (fun W K => ?_)
  generalize hQ : (fun v ds' => v = some (.long 10) ∧ ds' = [(a, sd), (u, bd), (m, .inr ("com/example/ferryflow/ferryflow/Message", [(("com/example/ferryflow/ferryflow/Message", "id", "Ljava/lang/String;"), .ref a), (("com/example/ferryflow/ferryflow/Message", "from", "J"), .long q1), (("com/example/ferryflow/ferryflow/Message", "to", "J"), .long q2), (("com/example/ferryflow/ferryflow/Message", "bytes", "J"), .long q3), (("com/example/ferryflow/ferryflow/Message", "priority", "I"), .int 3), (("com/example/ferryflow/ferryflow/Message", "release", "J"), .long q5)]))] : Option Value → Hp → Prop) = Q
  refine go_lconst (pc' := 1) (v := 1) K d8_0 rfl rfl ?_
  refine go_lstoreN (pc' := 2) (Ls' := #[.val (.ref m), .val (.long 1), .second, .unset]) K d8_1 rfl rfl ?_
  refine go_aloadN (pc' := 3) K d8_2 rfl rfl rfl ?_
  refine go_getfield (pc' := 6) (i := 2) (j := 4) K (hw _ (List.mem_of_getElem? (i := 46) rfl)) rfl rfl d8_3 rfl ?_
  refine go_istoreN (pc' := 7) (Ls' := #[.val (.ref m), .val (.long 1), .second, .val (.int 3)]) K d8_6 rfl rfl ?_
  refine go_iloadN (pc' := 8) K d8_7 rfl rfl ?_
  refine go_iconst (pc' := 9) (v := 4) K d8_8 rfl rfl ?_
  refine go_ic_ge_f (pc' := 12) K d8_9 (by decide) rfl ?_
  refine go_lloadN (pc' := 13) K d8_12 rfl rfl ?_
  refine go_ldc2 (pc' := 16) (v := 10) K d8_13 (hw _ (List.mem_of_getElem? (i := 59) rfl)) rfl ?_
  refine go_lmul (pc' := 17) K d8_16 rfl ?_
  rw [show ((1 * 10) : Int64) = 10 from by decide]
  refine go_lstoreN (pc' := 18) (Ls' := #[.val (.ref m), .val (.long 10), .second, .val (.int 3)]) K d8_17 rfl rfl ?_
  refine go_iinc (pc' := 21) (v := 1) (Ls' := #[.val (.ref m), .val (.long 10), .second, .val (.int 4)]) K d8_18 rfl rfl rfl rfl ?_
  refine go_goto (pc' := 7) K d8_21 (by decide) (by decide) ?_
  refine go_iloadN (pc' := 8) K d8_7 rfl rfl ?_
  refine go_iconst (pc' := 9) (v := 4) K d8_8 rfl rfl ?_
  refine go_ic_ge_t (pc' := 24) K d8_9 (by decide) (by decide) (by decide) ?_
  refine go_lloadN (pc' := 25) K d8_24 rfl rfl ?_
  exact go_lret K d8_25 (by decide) (by decide) (by subst hQ; exact ⟨rfl, rfl⟩)
set_option maxRecDepth 65536 in
set_option maxHeartbeats 40000000 in
theorem ct_ex3 (l : Launch) (Z : State) (h0 : Heap) (a0 : Array Value) (hw : ∀ d ∈ tables_1, d.before a0 Z = true) (ds : Hp) :
    Ct l Z h0 (⟨"com/example/ferryflow/ferryflow/MessageWeightPinLaw", "expected", "(I)J"⟩ : MethodName) method_3_code 1 (some .long) [] ({ frames := 0, cells := 0, slots := 0, locals := 0 } : Room) #[(.int 3)] ds (fun v ds' => v = some (.long 10) ∧ ds' = ds) := by
  refine Ct.of_go (Ls := #[.val (.int 3)]) pf_9 (fun m => by first | (simp [entryFrame, mkF, argsToLocals, Value.category, maxLocals]; done) | rfl) (fun W K => ?_)
  generalize hQ : (fun v ds' => v = some (.long 10) ∧ ds' = ds : Option Value → Hp → Prop) = Q
  refine go_iloadN (pc' := 1) K d9_0 rfl rfl ?_
  refine go_iconst (pc' := 2) (v := 1) K d9_1 rfl rfl ?_
  refine go_ic_ne_t (pc' := 9) K d9_2 (by decide) (by decide) (by decide) ?_
  refine go_iloadN (pc' := 10) K d9_9 rfl rfl ?_
  refine go_iconst (pc' := 11) (v := 2) K d9_10 rfl rfl ?_
  refine go_ic_ne_t (pc' := 18) K d9_11 (by decide) (by decide) (by decide) ?_
  refine go_iloadN (pc' := 19) K d9_18 rfl rfl ?_
  refine go_iconst (pc' := 20) (v := 3) K d9_19 rfl rfl ?_
  refine go_ic_ne_f (pc' := 23) K d9_20 (by decide) rfl ?_
  refine go_ldc2 (pc' := 26) (v := 10) K d9_23 (hw _ (List.mem_of_getElem? (i := 62) rfl)) rfl ?_
  exact go_lret K d9_26 (by decide) (by decide) (by subst hQ; exact ⟨rfl, rfl⟩)
set_option maxRecDepth 65536 in
set_option maxHeartbeats 40000000 in
theorem ct_wt4 (l : Launch) (Z : State) (h0 : Heap) (a0 : Array Value) (hw : ∀ d ∈ tables_1, d.before a0 Z = true) (a u m : Nat) (sd bd : D) (q1 q2 q3 : Int64) (q5 : Int64) :
    Ct l Z h0 (⟨"com/example/ferryflow/ferryflow/Message", "weight", "()J"⟩ : MethodName) prog_32_method_2_code 4 (some .long) [] ({ frames := 0, cells := 0, slots := 0, locals := 0 } : Room) #[(.ref m)] [(a, sd), (u, bd), (m, .inr ("com/example/ferryflow/ferryflow/Message", [(("com/example/ferryflow/ferryflow/Message", "id", "Ljava/lang/String;"), .ref a), (("com/example/ferryflow/ferryflow/Message", "from", "J"), .long q1), (("com/example/ferryflow/ferryflow/Message", "to", "J"), .long q2), (("com/example/ferryflow/ferryflow/Message", "bytes", "J"), .long q3), (("com/example/ferryflow/ferryflow/Message", "priority", "I"), .int 4), (("com/example/ferryflow/ferryflow/Message", "release", "J"), .long q5)]))] (fun v ds' => v = some (.long 1) ∧ ds' = [(a, sd), (u, bd), (m, .inr ("com/example/ferryflow/ferryflow/Message", [(("com/example/ferryflow/ferryflow/Message", "id", "Ljava/lang/String;"), .ref a), (("com/example/ferryflow/ferryflow/Message", "from", "J"), .long q1), (("com/example/ferryflow/ferryflow/Message", "to", "J"), .long q2), (("com/example/ferryflow/ferryflow/Message", "bytes", "J"), .long q3), (("com/example/ferryflow/ferryflow/Message", "priority", "I"), .int 4), (("com/example/ferryflow/ferryflow/Message", "release", "J"), .long q5)]))]) := by
  refine Ct.of_go (Ls := #[.val (.ref m), .unset, .unset, .unset]) pf_8 (fun m => by first | (simp [entryFrame, mkF, argsToLocals, Value.category, maxLocals]; done) | rfl) (fun W K => ?_)
  generalize hQ : (fun v ds' => v = some (.long 1) ∧ ds' = [(a, sd), (u, bd), (m, .inr ("com/example/ferryflow/ferryflow/Message", [(("com/example/ferryflow/ferryflow/Message", "id", "Ljava/lang/String;"), .ref a), (("com/example/ferryflow/ferryflow/Message", "from", "J"), .long q1), (("com/example/ferryflow/ferryflow/Message", "to", "J"), .long q2), (("com/example/ferryflow/ferryflow/Message", "bytes", "J"), .long q3), (("com/example/ferryflow/ferryflow/Message", "priority", "I"), .int 4), (("com/example/ferryflow/ferryflow/Message", "release", "J"), .long q5)]))] : Option Value → Hp → Prop) = Q
  refine go_lconst (pc' := 1) (v := 1) K d8_0 rfl rfl ?_
  refine go_lstoreN (pc' := 2) (Ls' := #[.val (.ref m), .val (.long 1), .second, .unset]) K d8_1 rfl rfl ?_
  refine go_aloadN (pc' := 3) K d8_2 rfl rfl rfl ?_
  refine go_getfield (pc' := 6) (i := 2) (j := 4) K (hw _ (List.mem_of_getElem? (i := 46) rfl)) rfl rfl d8_3 rfl ?_
  refine go_istoreN (pc' := 7) (Ls' := #[.val (.ref m), .val (.long 1), .second, .val (.int 4)]) K d8_6 rfl rfl ?_
  refine go_iloadN (pc' := 8) K d8_7 rfl rfl ?_
  refine go_iconst (pc' := 9) (v := 4) K d8_8 rfl rfl ?_
  refine go_ic_ge_t (pc' := 24) K d8_9 (by decide) (by decide) (by decide) ?_
  refine go_lloadN (pc' := 25) K d8_24 rfl rfl ?_
  exact go_lret K d8_25 (by decide) (by decide) (by subst hQ; exact ⟨rfl, rfl⟩)
set_option maxRecDepth 65536 in
set_option maxHeartbeats 40000000 in
theorem ct_ex4 (l : Launch) (Z : State) (h0 : Heap) (a0 : Array Value) (hw : ∀ d ∈ tables_1, d.before a0 Z = true) (ds : Hp) :
    Ct l Z h0 (⟨"com/example/ferryflow/ferryflow/MessageWeightPinLaw", "expected", "(I)J"⟩ : MethodName) method_3_code 1 (some .long) [] ({ frames := 0, cells := 0, slots := 0, locals := 0 } : Room) #[(.int 4)] ds (fun v ds' => v = some (.long 1) ∧ ds' = ds) := by
  refine Ct.of_go (Ls := #[.val (.int 4)]) pf_9 (fun m => by first | (simp [entryFrame, mkF, argsToLocals, Value.category, maxLocals]; done) | rfl) (fun W K => ?_)
  generalize hQ : (fun v ds' => v = some (.long 1) ∧ ds' = ds : Option Value → Hp → Prop) = Q
  refine go_iloadN (pc' := 1) K d9_0 rfl rfl ?_
  refine go_iconst (pc' := 2) (v := 1) K d9_1 rfl rfl ?_
  refine go_ic_ne_t (pc' := 9) K d9_2 (by decide) (by decide) (by decide) ?_
  refine go_iloadN (pc' := 10) K d9_9 rfl rfl ?_
  refine go_iconst (pc' := 11) (v := 2) K d9_10 rfl rfl ?_
  refine go_ic_ne_t (pc' := 18) K d9_11 (by decide) (by decide) (by decide) ?_
  refine go_iloadN (pc' := 19) K d9_18 rfl rfl ?_
  refine go_iconst (pc' := 20) (v := 3) K d9_19 rfl rfl ?_
  refine go_ic_ne_t (pc' := 27) K d9_20 (by decide) (by decide) (by decide) ?_
  refine go_lconst (pc' := 28) (v := 1) K d9_27 rfl rfl ?_
  exact go_lret K d9_28 (by decide) (by decide) (by subst hQ; exact ⟨rfl, rfl⟩)
theorem own_pr (x : Int32) : (x &&& 3) + 1 = 1 ∨ (x &&& 3) + 1 = 2 ∨ (x &&& 3) + 1 = 3 ∨ (x &&& 3) + 1 = 4 := by
  have e : (x &&& 3).toInt = x.toInt % 2 ^ 2 := Jvm.Kit.i32_mask x 3 (k := 2) (by decide) (by decide)
  rcases ilt4 (x := x &&& 3) (by omega) (by omega) with h | h | h | h <;> rw [h] <;> decide
theorem own_c255 (x : Int32) : (x &&& 255).toUInt32.toUInt16.toUInt32.toInt32.toInt ≤ 255 := by
  rw [i2c_mask]
  have e : (x &&& 255).toInt = x.toInt % 2 ^ 8 := Jvm.Kit.i32_mask x 255 (k := 8) (by decide) (by decide)
  omega
set_option maxRecDepth 65536 in
set_option maxHeartbeats 40000000 in
theorem law_ct (l : Launch) (Z : State) (h0 : Heap) (a0 : Array Value) (hw : ∀ d ∈ tables_1, d.before a0 Z = true) (p0 : Int32) (p1 p2 p3 : Int64) (p4 : Int32) (p5 : Int64) (cs : Int32) (S0 : Sta Z h0 "java/lang/String" "COMPACT_STRINGS" "Z" (.int cs)) (hcs : cs ≠ 0) :
    Ct l Z h0 x code maxLocals ret tables_1 room_1 #[(.int p0), (.long p1), (.long p2), (.long p3), (.int p4), (.long p5)] [] (fun v _ => v = some (.int 1)) := by
  refine Ct.of_go (Ls := #[.val (.int p0), .val (.long p1), .second, .val (.long p2), .second, .val (.long p3), .second, .val (.int p4), .val (.long p5), .second, .unset, .unset, .unset]) pf_0 (fun m => by first | (simp [entryFrame, mkF, argsToLocals, Value.category, maxLocals]; done) | rfl) (fun W K => ?_)
  generalize hQ : (fun v _ => v = some (.int 1) : Option Value → Hp → Prop) = Q
  refine go_iload (pc' := 2) K at_0 rfl rfl ?_
  refine go_iconst (pc' := 3) (v := 3) K at_2 rfl rfl ?_
  refine go_iand (pc' := 4) K at_3 rfl ?_
  refine go_iconst (pc' := 5) (v := 1) K at_4 rfl rfl ?_
  refine go_iadd (pc' := 6) K at_5 rfl ?_
  generalize hpr : ((p4 &&& 3) + 1) = pr
  refine go_istore (pc' := 8) (Ls' := #[.val (.int p0), .val (.long p1), .second, .val (.long p2), .second, .val (.long p3), .second, .val (.int p4), .val (.long p5), .second, .val (.int pr), .unset, .unset]) K at_6 rfl rfl ?_
  have hp4 := own_pr p4
  rw [hpr] at hp4
  rcases hp4 with rfl | rfl | rfl | rfl
  ·
    refine go_iloadN (pc' := 9) K at_8 rfl rfl ?_
    refine go_sipush (pc' := 12) (v := 255) K at_9 (by decide) rfl ?_
    refine go_iand (pc' := 13) K at_12 rfl ?_
    refine go_i2c (pc' := 14) K at_13 rfl ?_
    refine go_static (pc' := 17) (Wd := 0) (y' := ⟨"java/lang/String", "valueOf", "(C)Ljava/lang/String;"⟩) (argsL := [(.int ((p0 &&& 255).toUInt32.toUInt16.toUInt32.toInt32))]) (rest := []) K (hw _ (List.mem_of_getElem? (i := 0) rfl)) (hw _ (List.mem_of_getElem? (i := 1) rfl)) (hw _ (List.mem_of_getElem? (i := 2) rfl)) (hw _ (List.mem_of_getElem? (i := 3) rfl)) at_14 (ct_value l Z h0 a0 hw ((p0 &&& 255).toUInt32.toUInt16.toUInt32.toInt32) cs S0 hcs (own_c255 p0)) (lenOf pd__C_Ljava_lang_String_ rfl) rfl rfl (by decide) rfl (by decide) (by decide) (by decide) (by decide) rfl ?_
    rintro _ ds' ⟨a, u, rfl, hds⟩
    rw [hds]
    show Go W Q [(a, .inr ("java/lang/String", [(("java/lang/String", "value", "[B"), .ref u), (("java/lang/String", "coder", "B"), .int 0)])), (u, ba [(nar .byte ((p0 &&& 255).toUInt32.toUInt16.toUInt32.toInt32).toInt8.toInt32)])] 2 5 17 #[.val (.int p0), .val (.long p1), .second, .val (.long p2), .second, .val (.long p3), .second, .val (.int p4), .val (.long p5), .second, .val (.int 1), .unset, .unset] [(.ref a)]
    refine go_astore (pc' := 19) (Ls' := #[.val (.int p0), .val (.long p1), .second, .val (.long p2), .second, .val (.long p3), .second, .val (.int p4), .val (.long p5), .second, .val (.int 1), .val (.ref a), .unset]) K at_17 rfl rfl rfl ?_
    refine go_new (pc' := 22) (C := "com/example/ferryflow/ferryflow/Message") (fs := [(("com/example/ferryflow/ferryflow/Message", "id", "Ljava/lang/String;"), .null), (("com/example/ferryflow/ferryflow/Message", "from", "J"), .long 0), (("com/example/ferryflow/ferryflow/Message", "to", "J"), .long 0), (("com/example/ferryflow/ferryflow/Message", "bytes", "J"), .long 0), (("com/example/ferryflow/ferryflow/Message", "priority", "I"), .int 0), (("com/example/ferryflow/ferryflow/Message", "release", "J"), .long 0)]) (KS := [("com/example/ferryflow/ferryflow/Message", "id", "Ljava/lang/String;"), ("com/example/ferryflow/ferryflow/Message", "from", "J"), ("com/example/ferryflow/ferryflow/Message", "to", "J"), ("com/example/ferryflow/ferryflow/Message", "bytes", "J"), ("com/example/ferryflow/ferryflow/Message", "priority", "I"), ("com/example/ferryflow/ferryflow/Message", "release", "J")]) K (hw _ (List.mem_of_getElem? (i := 26) rfl)) (hw _ (List.mem_of_getElem? (i := 27) rfl)) (hw _ (List.mem_of_getElem? (i := 28) rfl)) rfl (al_Message Z a0 hw) (by decide +kernel) at_19 (by decide) (by decide) rfl (fun m hgm hlm => ?_)
    show Go W Q [(a, .inr ("java/lang/String", [(("java/lang/String", "value", "[B"), .ref u), (("java/lang/String", "coder", "B"), .int 0)])), (u, ba [(nar .byte ((p0 &&& 255).toUInt32.toUInt16.toUInt32.toInt32).toInt8.toInt32)]), (m, .inr ("com/example/ferryflow/ferryflow/Message", [(("com/example/ferryflow/ferryflow/Message", "id", "Ljava/lang/String;"), .null), (("com/example/ferryflow/ferryflow/Message", "from", "J"), .long 0), (("com/example/ferryflow/ferryflow/Message", "to", "J"), .long 0), (("com/example/ferryflow/ferryflow/Message", "bytes", "J"), .long 0), (("com/example/ferryflow/ferryflow/Message", "priority", "I"), .int 0), (("com/example/ferryflow/ferryflow/Message", "release", "J"), .long 0)]))] 3 11 22 #[.val (.int p0), .val (.long p1), .second, .val (.long p2), .second, .val (.long p3), .second, .val (.int p4), .val (.long p5), .second, .val (.int 1), .val (.ref a), .unset] [(.ref m)]
    refine go_dup (pc' := 23) K at_22 rfl rfl ?_
    refine go_aload (pc' := 25) K at_23 rfl rfl rfl ?_
    refine go_lloadN (pc' := 26) K at_25 rfl rfl ?_
    refine go_lloadN (pc' := 27) K at_26 rfl rfl ?_
    refine go_lload (pc' := 29) K at_27 rfl rfl ?_
    refine go_iload (pc' := 31) K at_29 rfl rfl ?_
    refine go_lload (pc' := 33) K at_31 rfl rfl ?_
    refine go_special (pc' := 36) (Wd := 1) (y' := ⟨"com/example/ferryflow/ferryflow/Message", "<init>", "(Ljava/lang/String;JJJIJ)V"⟩) (b := m) (argsL := [(.ref a), (.long p1), (.long p2), (.long p3), (.int 1), (.long p5)]) (rest := [(.ref m)]) K rfl (hw _ (List.mem_of_getElem? (i := 29) rfl)) (hw _ (List.mem_of_getElem? (i := 30) rfl)) (hw _ (List.mem_of_getElem? (i := 28) rfl)) (hw _ (List.mem_of_getElem? (i := 31) rfl)) at_33 (ct_minit l Z h0 a0 hw a u m (.inr ("java/lang/String", [(("java/lang/String", "value", "[B"), .ref u), (("java/lang/String", "coder", "B"), .int 0)])) (ba [(nar .byte ((p0 &&& 255).toUInt32.toUInt16.toUInt32.toInt32).toInt8.toInt32)]) p1 p2 p3 1 p5) (lenOf pd__Ljava_lang_String_JJJIJ_V rfl) rfl rfl (by decide) rfl (by decide) (by decide) (by decide) (by decide) rfl ?_
    rintro _ ds' ⟨rfl, hds⟩
    rw [hds]
    show Go W Q [(a, .inr ("java/lang/String", [(("java/lang/String", "value", "[B"), .ref u), (("java/lang/String", "coder", "B"), .int 0)])), (u, ba [(nar .byte ((p0 &&& 255).toUInt32.toUInt16.toUInt32.toInt32).toInt8.toInt32)]), (m, .inr ("com/example/ferryflow/ferryflow/Message", [(("com/example/ferryflow/ferryflow/Message", "id", "Ljava/lang/String;"), .ref a), (("com/example/ferryflow/ferryflow/Message", "from", "J"), .long p1), (("com/example/ferryflow/ferryflow/Message", "to", "J"), .long p2), (("com/example/ferryflow/ferryflow/Message", "bytes", "J"), .long p3), (("com/example/ferryflow/ferryflow/Message", "priority", "I"), .int 1), (("com/example/ferryflow/ferryflow/Message", "release", "J"), .long p5)]))] 3 11 36 #[.val (.int p0), .val (.long p1), .second, .val (.long p2), .second, .val (.long p3), .second, .val (.int p4), .val (.long p5), .second, .val (.int 1), .val (.ref a), .unset] [(.ref m)]
    refine go_astore (pc' := 38) (Ls' := #[.val (.int p0), .val (.long p1), .second, .val (.long p2), .second, .val (.long p3), .second, .val (.int p4), .val (.long p5), .second, .val (.int 1), .val (.ref a), .val (.ref m)]) K at_36 rfl rfl rfl ?_
    refine go_aload (pc' := 40) K at_38 rfl rfl rfl ?_
    refine go_virtual (pc' := 43) (Wd := 0) (i := 2) (y' := ⟨"com/example/ferryflow/ferryflow/Message", "weight", "()J"⟩) (b := m) (argsL := []) (rest := []) K (hw _ (List.mem_of_getElem? (i := 50) rfl)) (hw _ (List.mem_of_getElem? (i := 51) rfl)) (hw _ (List.mem_of_getElem? (i := 53) rfl)) (hw _ (List.mem_of_getElem? (i := 52) rfl)) (hw _ (List.mem_of_getElem? (i := 28) rfl)) (hw _ (List.mem_of_getElem? (i := 54) rfl)) rfl at_40 (ct_wt1 l Z h0 a0 hw a u m (.inr ("java/lang/String", [(("java/lang/String", "value", "[B"), .ref u), (("java/lang/String", "coder", "B"), .int 0)])) (ba [(nar .byte ((p0 &&& 255).toUInt32.toUInt16.toUInt32.toInt32).toInt8.toInt32)]) p1 p2 p3 p5) (lenOf pd___J rfl) rfl rfl (by decide) rfl (by decide) (by decide) (by decide) (by decide) rfl ?_
    rintro _ ds' ⟨rfl, hds⟩
    rw [hds]
    show Go W Q [(a, .inr ("java/lang/String", [(("java/lang/String", "value", "[B"), .ref u), (("java/lang/String", "coder", "B"), .int 0)])), (u, ba [(nar .byte ((p0 &&& 255).toUInt32.toUInt16.toUInt32.toInt32).toInt8.toInt32)]), (m, .inr ("com/example/ferryflow/ferryflow/Message", [(("com/example/ferryflow/ferryflow/Message", "id", "Ljava/lang/String;"), .ref a), (("com/example/ferryflow/ferryflow/Message", "from", "J"), .long p1), (("com/example/ferryflow/ferryflow/Message", "to", "J"), .long p2), (("com/example/ferryflow/ferryflow/Message", "bytes", "J"), .long p3), (("com/example/ferryflow/ferryflow/Message", "priority", "I"), .int 1), (("com/example/ferryflow/ferryflow/Message", "release", "J"), .long p5)]))] 3 11 43 #[.val (.int p0), .val (.long p1), .second, .val (.long p2), .second, .val (.long p3), .second, .val (.int p4), .val (.long p5), .second, .val (.int 1), .val (.ref a), .val (.ref m)] [(.long 1000)]
    refine go_iload (pc' := 45) K at_43 rfl rfl ?_
    refine go_static (pc' := 48) (Wd := 2) (y' := ⟨"com/example/ferryflow/ferryflow/MessageWeightPinLaw", "expected", "(I)J"⟩) (argsL := [(.int 1)]) (rest := [(.long 1000)]) K (hw _ (List.mem_of_getElem? (i := 55) rfl)) (hw _ (List.mem_of_getElem? (i := 56) rfl)) (hw _ (List.mem_of_getElem? (i := 57) rfl)) (hw _ (List.mem_of_getElem? (i := 58) rfl)) at_45 (ct_ex1 l Z h0 a0 hw _) (lenOf pd__I_J rfl) rfl rfl (by decide) rfl (by decide) (by decide) (by decide) (by decide) rfl ?_
    rintro _ ds' ⟨rfl, hds⟩
    rw [hds]
    show Go W Q [(a, .inr ("java/lang/String", [(("java/lang/String", "value", "[B"), .ref u), (("java/lang/String", "coder", "B"), .int 0)])), (u, ba [(nar .byte ((p0 &&& 255).toUInt32.toUInt16.toUInt32.toInt32).toInt8.toInt32)]), (m, .inr ("com/example/ferryflow/ferryflow/Message", [(("com/example/ferryflow/ferryflow/Message", "id", "Ljava/lang/String;"), .ref a), (("com/example/ferryflow/ferryflow/Message", "from", "J"), .long p1), (("com/example/ferryflow/ferryflow/Message", "to", "J"), .long p2), (("com/example/ferryflow/ferryflow/Message", "bytes", "J"), .long p3), (("com/example/ferryflow/ferryflow/Message", "priority", "I"), .int 1), (("com/example/ferryflow/ferryflow/Message", "release", "J"), .long p5)]))] 3 11 48 #[.val (.int p0), .val (.long p1), .second, .val (.long p2), .second, .val (.long p3), .second, .val (.int p4), .val (.long p5), .second, .val (.int 1), .val (.ref a), .val (.ref m)] [(.long 1000), (.long 1000)]
    refine go_ll_ne_f (pc' := 52) K at_48 rfl at_49 rfl rfl ?_
    refine go_iconst (pc' := 53) (v := 1) K at_52 rfl rfl ?_
    refine go_goto (pc' := 57) K at_53 (by decide) (by decide) ?_
    exact go_zret K at_57 (by decide) (by decide) (Or.inr rfl) (by subst hQ; rfl)
  ·
    refine go_iloadN (pc' := 9) K at_8 rfl rfl ?_
    refine go_sipush (pc' := 12) (v := 255) K at_9 (by decide) rfl ?_
    refine go_iand (pc' := 13) K at_12 rfl ?_
    refine go_i2c (pc' := 14) K at_13 rfl ?_
    refine go_static (pc' := 17) (Wd := 0) (y' := ⟨"java/lang/String", "valueOf", "(C)Ljava/lang/String;"⟩) (argsL := [(.int ((p0 &&& 255).toUInt32.toUInt16.toUInt32.toInt32))]) (rest := []) K (hw _ (List.mem_of_getElem? (i := 0) rfl)) (hw _ (List.mem_of_getElem? (i := 1) rfl)) (hw _ (List.mem_of_getElem? (i := 2) rfl)) (hw _ (List.mem_of_getElem? (i := 3) rfl)) at_14 (ct_value l Z h0 a0 hw ((p0 &&& 255).toUInt32.toUInt16.toUInt32.toInt32) cs S0 hcs (own_c255 p0)) (lenOf pd__C_Ljava_lang_String_ rfl) rfl rfl (by decide) rfl (by decide) (by decide) (by decide) (by decide) rfl ?_
    rintro _ ds' ⟨a, u, rfl, hds⟩
    rw [hds]
    show Go W Q [(a, .inr ("java/lang/String", [(("java/lang/String", "value", "[B"), .ref u), (("java/lang/String", "coder", "B"), .int 0)])), (u, ba [(nar .byte ((p0 &&& 255).toUInt32.toUInt16.toUInt32.toInt32).toInt8.toInt32)])] 2 5 17 #[.val (.int p0), .val (.long p1), .second, .val (.long p2), .second, .val (.long p3), .second, .val (.int p4), .val (.long p5), .second, .val (.int 2), .unset, .unset] [(.ref a)]
    refine go_astore (pc' := 19) (Ls' := #[.val (.int p0), .val (.long p1), .second, .val (.long p2), .second, .val (.long p3), .second, .val (.int p4), .val (.long p5), .second, .val (.int 2), .val (.ref a), .unset]) K at_17 rfl rfl rfl ?_
    refine go_new (pc' := 22) (C := "com/example/ferryflow/ferryflow/Message") (fs := [(("com/example/ferryflow/ferryflow/Message", "id", "Ljava/lang/String;"), .null), (("com/example/ferryflow/ferryflow/Message", "from", "J"), .long 0), (("com/example/ferryflow/ferryflow/Message", "to", "J"), .long 0), (("com/example/ferryflow/ferryflow/Message", "bytes", "J"), .long 0), (("com/example/ferryflow/ferryflow/Message", "priority", "I"), .int 0), (("com/example/ferryflow/ferryflow/Message", "release", "J"), .long 0)]) (KS := [("com/example/ferryflow/ferryflow/Message", "id", "Ljava/lang/String;"), ("com/example/ferryflow/ferryflow/Message", "from", "J"), ("com/example/ferryflow/ferryflow/Message", "to", "J"), ("com/example/ferryflow/ferryflow/Message", "bytes", "J"), ("com/example/ferryflow/ferryflow/Message", "priority", "I"), ("com/example/ferryflow/ferryflow/Message", "release", "J")]) K (hw _ (List.mem_of_getElem? (i := 26) rfl)) (hw _ (List.mem_of_getElem? (i := 27) rfl)) (hw _ (List.mem_of_getElem? (i := 28) rfl)) rfl (al_Message Z a0 hw) (by decide +kernel) at_19 (by decide) (by decide) rfl (fun m hgm hlm => ?_)
    show Go W Q [(a, .inr ("java/lang/String", [(("java/lang/String", "value", "[B"), .ref u), (("java/lang/String", "coder", "B"), .int 0)])), (u, ba [(nar .byte ((p0 &&& 255).toUInt32.toUInt16.toUInt32.toInt32).toInt8.toInt32)]), (m, .inr ("com/example/ferryflow/ferryflow/Message", [(("com/example/ferryflow/ferryflow/Message", "id", "Ljava/lang/String;"), .null), (("com/example/ferryflow/ferryflow/Message", "from", "J"), .long 0), (("com/example/ferryflow/ferryflow/Message", "to", "J"), .long 0), (("com/example/ferryflow/ferryflow/Message", "bytes", "J"), .long 0), (("com/example/ferryflow/ferryflow/Message", "priority", "I"), .int 0), (("com/example/ferryflow/ferryflow/Message", "release", "J"), .long 0)]))] 3 11 22 #[.val (.int p0), .val (.long p1), .second, .val (.long p2), .second, .val (.long p3), .second, .val (.int p4), .val (.long p5), .second, .val (.int 2), .val (.ref a), .unset] [(.ref m)]
    refine go_dup (pc' := 23) K at_22 rfl rfl ?_
    refine go_aload (pc' := 25) K at_23 rfl rfl rfl ?_
    refine go_lloadN (pc' := 26) K at_25 rfl rfl ?_
    refine go_lloadN (pc' := 27) K at_26 rfl rfl ?_
    refine go_lload (pc' := 29) K at_27 rfl rfl ?_
    refine go_iload (pc' := 31) K at_29 rfl rfl ?_
    refine go_lload (pc' := 33) K at_31 rfl rfl ?_
    refine go_special (pc' := 36) (Wd := 1) (y' := ⟨"com/example/ferryflow/ferryflow/Message", "<init>", "(Ljava/lang/String;JJJIJ)V"⟩) (b := m) (argsL := [(.ref a), (.long p1), (.long p2), (.long p3), (.int 2), (.long p5)]) (rest := [(.ref m)]) K rfl (hw _ (List.mem_of_getElem? (i := 29) rfl)) (hw _ (List.mem_of_getElem? (i := 30) rfl)) (hw _ (List.mem_of_getElem? (i := 28) rfl)) (hw _ (List.mem_of_getElem? (i := 31) rfl)) at_33 (ct_minit l Z h0 a0 hw a u m (.inr ("java/lang/String", [(("java/lang/String", "value", "[B"), .ref u), (("java/lang/String", "coder", "B"), .int 0)])) (ba [(nar .byte ((p0 &&& 255).toUInt32.toUInt16.toUInt32.toInt32).toInt8.toInt32)]) p1 p2 p3 2 p5) (lenOf pd__Ljava_lang_String_JJJIJ_V rfl) rfl rfl (by decide) rfl (by decide) (by decide) (by decide) (by decide) rfl ?_
    rintro _ ds' ⟨rfl, hds⟩
    rw [hds]
    show Go W Q [(a, .inr ("java/lang/String", [(("java/lang/String", "value", "[B"), .ref u), (("java/lang/String", "coder", "B"), .int 0)])), (u, ba [(nar .byte ((p0 &&& 255).toUInt32.toUInt16.toUInt32.toInt32).toInt8.toInt32)]), (m, .inr ("com/example/ferryflow/ferryflow/Message", [(("com/example/ferryflow/ferryflow/Message", "id", "Ljava/lang/String;"), .ref a), (("com/example/ferryflow/ferryflow/Message", "from", "J"), .long p1), (("com/example/ferryflow/ferryflow/Message", "to", "J"), .long p2), (("com/example/ferryflow/ferryflow/Message", "bytes", "J"), .long p3), (("com/example/ferryflow/ferryflow/Message", "priority", "I"), .int 2), (("com/example/ferryflow/ferryflow/Message", "release", "J"), .long p5)]))] 3 11 36 #[.val (.int p0), .val (.long p1), .second, .val (.long p2), .second, .val (.long p3), .second, .val (.int p4), .val (.long p5), .second, .val (.int 2), .val (.ref a), .unset] [(.ref m)]
    refine go_astore (pc' := 38) (Ls' := #[.val (.int p0), .val (.long p1), .second, .val (.long p2), .second, .val (.long p3), .second, .val (.int p4), .val (.long p5), .second, .val (.int 2), .val (.ref a), .val (.ref m)]) K at_36 rfl rfl rfl ?_
    refine go_aload (pc' := 40) K at_38 rfl rfl rfl ?_
    refine go_virtual (pc' := 43) (Wd := 0) (i := 2) (y' := ⟨"com/example/ferryflow/ferryflow/Message", "weight", "()J"⟩) (b := m) (argsL := []) (rest := []) K (hw _ (List.mem_of_getElem? (i := 50) rfl)) (hw _ (List.mem_of_getElem? (i := 51) rfl)) (hw _ (List.mem_of_getElem? (i := 53) rfl)) (hw _ (List.mem_of_getElem? (i := 52) rfl)) (hw _ (List.mem_of_getElem? (i := 28) rfl)) (hw _ (List.mem_of_getElem? (i := 54) rfl)) rfl at_40 (ct_wt2 l Z h0 a0 hw a u m (.inr ("java/lang/String", [(("java/lang/String", "value", "[B"), .ref u), (("java/lang/String", "coder", "B"), .int 0)])) (ba [(nar .byte ((p0 &&& 255).toUInt32.toUInt16.toUInt32.toInt32).toInt8.toInt32)]) p1 p2 p3 p5) (lenOf pd___J rfl) rfl rfl (by decide) rfl (by decide) (by decide) (by decide) (by decide) rfl ?_
    rintro _ ds' ⟨rfl, hds⟩
    rw [hds]
    show Go W Q [(a, .inr ("java/lang/String", [(("java/lang/String", "value", "[B"), .ref u), (("java/lang/String", "coder", "B"), .int 0)])), (u, ba [(nar .byte ((p0 &&& 255).toUInt32.toUInt16.toUInt32.toInt32).toInt8.toInt32)]), (m, .inr ("com/example/ferryflow/ferryflow/Message", [(("com/example/ferryflow/ferryflow/Message", "id", "Ljava/lang/String;"), .ref a), (("com/example/ferryflow/ferryflow/Message", "from", "J"), .long p1), (("com/example/ferryflow/ferryflow/Message", "to", "J"), .long p2), (("com/example/ferryflow/ferryflow/Message", "bytes", "J"), .long p3), (("com/example/ferryflow/ferryflow/Message", "priority", "I"), .int 2), (("com/example/ferryflow/ferryflow/Message", "release", "J"), .long p5)]))] 3 11 43 #[.val (.int p0), .val (.long p1), .second, .val (.long p2), .second, .val (.long p3), .second, .val (.int p4), .val (.long p5), .second, .val (.int 2), .val (.ref a), .val (.ref m)] [(.long 100)]
    refine go_iload (pc' := 45) K at_43 rfl rfl ?_
    refine go_static (pc' := 48) (Wd := 2) (y' := ⟨"com/example/ferryflow/ferryflow/MessageWeightPinLaw", "expected", "(I)J"⟩) (argsL := [(.int 2)]) (rest := [(.long 100)]) K (hw _ (List.mem_of_getElem? (i := 55) rfl)) (hw _ (List.mem_of_getElem? (i := 56) rfl)) (hw _ (List.mem_of_getElem? (i := 57) rfl)) (hw _ (List.mem_of_getElem? (i := 58) rfl)) at_45 (ct_ex2 l Z h0 a0 hw _) (lenOf pd__I_J rfl) rfl rfl (by decide) rfl (by decide) (by decide) (by decide) (by decide) rfl ?_
    rintro _ ds' ⟨rfl, hds⟩
    rw [hds]
    show Go W Q [(a, .inr ("java/lang/String", [(("java/lang/String", "value", "[B"), .ref u), (("java/lang/String", "coder", "B"), .int 0)])), (u, ba [(nar .byte ((p0 &&& 255).toUInt32.toUInt16.toUInt32.toInt32).toInt8.toInt32)]), (m, .inr ("com/example/ferryflow/ferryflow/Message", [(("com/example/ferryflow/ferryflow/Message", "id", "Ljava/lang/String;"), .ref a), (("com/example/ferryflow/ferryflow/Message", "from", "J"), .long p1), (("com/example/ferryflow/ferryflow/Message", "to", "J"), .long p2), (("com/example/ferryflow/ferryflow/Message", "bytes", "J"), .long p3), (("com/example/ferryflow/ferryflow/Message", "priority", "I"), .int 2), (("com/example/ferryflow/ferryflow/Message", "release", "J"), .long p5)]))] 3 11 48 #[.val (.int p0), .val (.long p1), .second, .val (.long p2), .second, .val (.long p3), .second, .val (.int p4), .val (.long p5), .second, .val (.int 2), .val (.ref a), .val (.ref m)] [(.long 100), (.long 100)]
    refine go_ll_ne_f (pc' := 52) K at_48 rfl at_49 rfl rfl ?_
    refine go_iconst (pc' := 53) (v := 1) K at_52 rfl rfl ?_
    refine go_goto (pc' := 57) K at_53 (by decide) (by decide) ?_
    exact go_zret K at_57 (by decide) (by decide) (Or.inr rfl) (by subst hQ; rfl)
  ·
    refine go_iloadN (pc' := 9) K at_8 rfl rfl ?_
    refine go_sipush (pc' := 12) (v := 255) K at_9 (by decide) rfl ?_
    refine go_iand (pc' := 13) K at_12 rfl ?_
    refine go_i2c (pc' := 14) K at_13 rfl ?_
    refine go_static (pc' := 17) (Wd := 0) (y' := ⟨"java/lang/String", "valueOf", "(C)Ljava/lang/String;"⟩) (argsL := [(.int ((p0 &&& 255).toUInt32.toUInt16.toUInt32.toInt32))]) (rest := []) K (hw _ (List.mem_of_getElem? (i := 0) rfl)) (hw _ (List.mem_of_getElem? (i := 1) rfl)) (hw _ (List.mem_of_getElem? (i := 2) rfl)) (hw _ (List.mem_of_getElem? (i := 3) rfl)) at_14 (ct_value l Z h0 a0 hw ((p0 &&& 255).toUInt32.toUInt16.toUInt32.toInt32) cs S0 hcs (own_c255 p0)) (lenOf pd__C_Ljava_lang_String_ rfl) rfl rfl (by decide) rfl (by decide) (by decide) (by decide) (by decide) rfl ?_
    rintro _ ds' ⟨a, u, rfl, hds⟩
    rw [hds]
    show Go W Q [(a, .inr ("java/lang/String", [(("java/lang/String", "value", "[B"), .ref u), (("java/lang/String", "coder", "B"), .int 0)])), (u, ba [(nar .byte ((p0 &&& 255).toUInt32.toUInt16.toUInt32.toInt32).toInt8.toInt32)])] 2 5 17 #[.val (.int p0), .val (.long p1), .second, .val (.long p2), .second, .val (.long p3), .second, .val (.int p4), .val (.long p5), .second, .val (.int 3), .unset, .unset] [(.ref a)]
    refine go_astore (pc' := 19) (Ls' := #[.val (.int p0), .val (.long p1), .second, .val (.long p2), .second, .val (.long p3), .second, .val (.int p4), .val (.long p5), .second, .val (.int 3), .val (.ref a), .unset]) K at_17 rfl rfl rfl ?_
    refine go_new (pc' := 22) (C := "com/example/ferryflow/ferryflow/Message") (fs := [(("com/example/ferryflow/ferryflow/Message", "id", "Ljava/lang/String;"), .null), (("com/example/ferryflow/ferryflow/Message", "from", "J"), .long 0), (("com/example/ferryflow/ferryflow/Message", "to", "J"), .long 0), (("com/example/ferryflow/ferryflow/Message", "bytes", "J"), .long 0), (("com/example/ferryflow/ferryflow/Message", "priority", "I"), .int 0), (("com/example/ferryflow/ferryflow/Message", "release", "J"), .long 0)]) (KS := [("com/example/ferryflow/ferryflow/Message", "id", "Ljava/lang/String;"), ("com/example/ferryflow/ferryflow/Message", "from", "J"), ("com/example/ferryflow/ferryflow/Message", "to", "J"), ("com/example/ferryflow/ferryflow/Message", "bytes", "J"), ("com/example/ferryflow/ferryflow/Message", "priority", "I"), ("com/example/ferryflow/ferryflow/Message", "release", "J")]) K (hw _ (List.mem_of_getElem? (i := 26) rfl)) (hw _ (List.mem_of_getElem? (i := 27) rfl)) (hw _ (List.mem_of_getElem? (i := 28) rfl)) rfl (al_Message Z a0 hw) (by decide +kernel) at_19 (by decide) (by decide) rfl (fun m hgm hlm => ?_)
    show Go W Q [(a, .inr ("java/lang/String", [(("java/lang/String", "value", "[B"), .ref u), (("java/lang/String", "coder", "B"), .int 0)])), (u, ba [(nar .byte ((p0 &&& 255).toUInt32.toUInt16.toUInt32.toInt32).toInt8.toInt32)]), (m, .inr ("com/example/ferryflow/ferryflow/Message", [(("com/example/ferryflow/ferryflow/Message", "id", "Ljava/lang/String;"), .null), (("com/example/ferryflow/ferryflow/Message", "from", "J"), .long 0), (("com/example/ferryflow/ferryflow/Message", "to", "J"), .long 0), (("com/example/ferryflow/ferryflow/Message", "bytes", "J"), .long 0), (("com/example/ferryflow/ferryflow/Message", "priority", "I"), .int 0), (("com/example/ferryflow/ferryflow/Message", "release", "J"), .long 0)]))] 3 11 22 #[.val (.int p0), .val (.long p1), .second, .val (.long p2), .second, .val (.long p3), .second, .val (.int p4), .val (.long p5), .second, .val (.int 3), .val (.ref a), .unset] [(.ref m)]
    refine go_dup (pc' := 23) K at_22 rfl rfl ?_
    refine go_aload (pc' := 25) K at_23 rfl rfl rfl ?_
    refine go_lloadN (pc' := 26) K at_25 rfl rfl ?_
    refine go_lloadN (pc' := 27) K at_26 rfl rfl ?_
    refine go_lload (pc' := 29) K at_27 rfl rfl ?_
    refine go_iload (pc' := 31) K at_29 rfl rfl ?_
    refine go_lload (pc' := 33) K at_31 rfl rfl ?_
    refine go_special (pc' := 36) (Wd := 1) (y' := ⟨"com/example/ferryflow/ferryflow/Message", "<init>", "(Ljava/lang/String;JJJIJ)V"⟩) (b := m) (argsL := [(.ref a), (.long p1), (.long p2), (.long p3), (.int 3), (.long p5)]) (rest := [(.ref m)]) K rfl (hw _ (List.mem_of_getElem? (i := 29) rfl)) (hw _ (List.mem_of_getElem? (i := 30) rfl)) (hw _ (List.mem_of_getElem? (i := 28) rfl)) (hw _ (List.mem_of_getElem? (i := 31) rfl)) at_33 (ct_minit l Z h0 a0 hw a u m (.inr ("java/lang/String", [(("java/lang/String", "value", "[B"), .ref u), (("java/lang/String", "coder", "B"), .int 0)])) (ba [(nar .byte ((p0 &&& 255).toUInt32.toUInt16.toUInt32.toInt32).toInt8.toInt32)]) p1 p2 p3 3 p5) (lenOf pd__Ljava_lang_String_JJJIJ_V rfl) rfl rfl (by decide) rfl (by decide) (by decide) (by decide) (by decide) rfl ?_
    rintro _ ds' ⟨rfl, hds⟩
    rw [hds]
    show Go W Q [(a, .inr ("java/lang/String", [(("java/lang/String", "value", "[B"), .ref u), (("java/lang/String", "coder", "B"), .int 0)])), (u, ba [(nar .byte ((p0 &&& 255).toUInt32.toUInt16.toUInt32.toInt32).toInt8.toInt32)]), (m, .inr ("com/example/ferryflow/ferryflow/Message", [(("com/example/ferryflow/ferryflow/Message", "id", "Ljava/lang/String;"), .ref a), (("com/example/ferryflow/ferryflow/Message", "from", "J"), .long p1), (("com/example/ferryflow/ferryflow/Message", "to", "J"), .long p2), (("com/example/ferryflow/ferryflow/Message", "bytes", "J"), .long p3), (("com/example/ferryflow/ferryflow/Message", "priority", "I"), .int 3), (("com/example/ferryflow/ferryflow/Message", "release", "J"), .long p5)]))] 3 11 36 #[.val (.int p0), .val (.long p1), .second, .val (.long p2), .second, .val (.long p3), .second, .val (.int p4), .val (.long p5), .second, .val (.int 3), .val (.ref a), .unset] [(.ref m)]
    refine go_astore (pc' := 38) (Ls' := #[.val (.int p0), .val (.long p1), .second, .val (.long p2), .second, .val (.long p3), .second, .val (.int p4), .val (.long p5), .second, .val (.int 3), .val (.ref a), .val (.ref m)]) K at_36 rfl rfl rfl ?_
    refine go_aload (pc' := 40) K at_38 rfl rfl rfl ?_
    refine go_virtual (pc' := 43) (Wd := 0) (i := 2) (y' := ⟨"com/example/ferryflow/ferryflow/Message", "weight", "()J"⟩) (b := m) (argsL := []) (rest := []) K (hw _ (List.mem_of_getElem? (i := 50) rfl)) (hw _ (List.mem_of_getElem? (i := 51) rfl)) (hw _ (List.mem_of_getElem? (i := 53) rfl)) (hw _ (List.mem_of_getElem? (i := 52) rfl)) (hw _ (List.mem_of_getElem? (i := 28) rfl)) (hw _ (List.mem_of_getElem? (i := 54) rfl)) rfl at_40 (ct_wt3 l Z h0 a0 hw a u m (.inr ("java/lang/String", [(("java/lang/String", "value", "[B"), .ref u), (("java/lang/String", "coder", "B"), .int 0)])) (ba [(nar .byte ((p0 &&& 255).toUInt32.toUInt16.toUInt32.toInt32).toInt8.toInt32)]) p1 p2 p3 p5) (lenOf pd___J rfl) rfl rfl (by decide) rfl (by decide) (by decide) (by decide) (by decide) rfl ?_
    rintro _ ds' ⟨rfl, hds⟩
    rw [hds]
    show Go W Q [(a, .inr ("java/lang/String", [(("java/lang/String", "value", "[B"), .ref u), (("java/lang/String", "coder", "B"), .int 0)])), (u, ba [(nar .byte ((p0 &&& 255).toUInt32.toUInt16.toUInt32.toInt32).toInt8.toInt32)]), (m, .inr ("com/example/ferryflow/ferryflow/Message", [(("com/example/ferryflow/ferryflow/Message", "id", "Ljava/lang/String;"), .ref a), (("com/example/ferryflow/ferryflow/Message", "from", "J"), .long p1), (("com/example/ferryflow/ferryflow/Message", "to", "J"), .long p2), (("com/example/ferryflow/ferryflow/Message", "bytes", "J"), .long p3), (("com/example/ferryflow/ferryflow/Message", "priority", "I"), .int 3), (("com/example/ferryflow/ferryflow/Message", "release", "J"), .long p5)]))] 3 11 43 #[.val (.int p0), .val (.long p1), .second, .val (.long p2), .second, .val (.long p3), .second, .val (.int p4), .val (.long p5), .second, .val (.int 3), .val (.ref a), .val (.ref m)] [(.long 10)]
    refine go_iload (pc' := 45) K at_43 rfl rfl ?_
    refine go_static (pc' := 48) (Wd := 2) (y' := ⟨"com/example/ferryflow/ferryflow/MessageWeightPinLaw", "expected", "(I)J"⟩) (argsL := [(.int 3)]) (rest := [(.long 10)]) K (hw _ (List.mem_of_getElem? (i := 55) rfl)) (hw _ (List.mem_of_getElem? (i := 56) rfl)) (hw _ (List.mem_of_getElem? (i := 57) rfl)) (hw _ (List.mem_of_getElem? (i := 58) rfl)) at_45 (ct_ex3 l Z h0 a0 hw _) (lenOf pd__I_J rfl) rfl rfl (by decide) rfl (by decide) (by decide) (by decide) (by decide) rfl ?_
    rintro _ ds' ⟨rfl, hds⟩
    rw [hds]
    show Go W Q [(a, .inr ("java/lang/String", [(("java/lang/String", "value", "[B"), .ref u), (("java/lang/String", "coder", "B"), .int 0)])), (u, ba [(nar .byte ((p0 &&& 255).toUInt32.toUInt16.toUInt32.toInt32).toInt8.toInt32)]), (m, .inr ("com/example/ferryflow/ferryflow/Message", [(("com/example/ferryflow/ferryflow/Message", "id", "Ljava/lang/String;"), .ref a), (("com/example/ferryflow/ferryflow/Message", "from", "J"), .long p1), (("com/example/ferryflow/ferryflow/Message", "to", "J"), .long p2), (("com/example/ferryflow/ferryflow/Message", "bytes", "J"), .long p3), (("com/example/ferryflow/ferryflow/Message", "priority", "I"), .int 3), (("com/example/ferryflow/ferryflow/Message", "release", "J"), .long p5)]))] 3 11 48 #[.val (.int p0), .val (.long p1), .second, .val (.long p2), .second, .val (.long p3), .second, .val (.int p4), .val (.long p5), .second, .val (.int 3), .val (.ref a), .val (.ref m)] [(.long 10), (.long 10)]
    refine go_ll_ne_f (pc' := 52) K at_48 rfl at_49 rfl rfl ?_
    refine go_iconst (pc' := 53) (v := 1) K at_52 rfl rfl ?_
    refine go_goto (pc' := 57) K at_53 (by decide) (by decide) ?_
    exact go_zret K at_57 (by decide) (by decide) (Or.inr rfl) (by subst hQ; rfl)
  ·
    refine go_iloadN (pc' := 9) K at_8 rfl rfl ?_
    refine go_sipush (pc' := 12) (v := 255) K at_9 (by decide) rfl ?_
    refine go_iand (pc' := 13) K at_12 rfl ?_
    refine go_i2c (pc' := 14) K at_13 rfl ?_
    refine go_static (pc' := 17) (Wd := 0) (y' := ⟨"java/lang/String", "valueOf", "(C)Ljava/lang/String;"⟩) (argsL := [(.int ((p0 &&& 255).toUInt32.toUInt16.toUInt32.toInt32))]) (rest := []) K (hw _ (List.mem_of_getElem? (i := 0) rfl)) (hw _ (List.mem_of_getElem? (i := 1) rfl)) (hw _ (List.mem_of_getElem? (i := 2) rfl)) (hw _ (List.mem_of_getElem? (i := 3) rfl)) at_14 (ct_value l Z h0 a0 hw ((p0 &&& 255).toUInt32.toUInt16.toUInt32.toInt32) cs S0 hcs (own_c255 p0)) (lenOf pd__C_Ljava_lang_String_ rfl) rfl rfl (by decide) rfl (by decide) (by decide) (by decide) (by decide) rfl ?_
    rintro _ ds' ⟨a, u, rfl, hds⟩
    rw [hds]
    show Go W Q [(a, .inr ("java/lang/String", [(("java/lang/String", "value", "[B"), .ref u), (("java/lang/String", "coder", "B"), .int 0)])), (u, ba [(nar .byte ((p0 &&& 255).toUInt32.toUInt16.toUInt32.toInt32).toInt8.toInt32)])] 2 5 17 #[.val (.int p0), .val (.long p1), .second, .val (.long p2), .second, .val (.long p3), .second, .val (.int p4), .val (.long p5), .second, .val (.int 4), .unset, .unset] [(.ref a)]
    refine go_astore (pc' := 19) (Ls' := #[.val (.int p0), .val (.long p1), .second, .val (.long p2), .second, .val (.long p3), .second, .val (.int p4), .val (.long p5), .second, .val (.int 4), .val (.ref a), .unset]) K at_17 rfl rfl rfl ?_
    refine go_new (pc' := 22) (C := "com/example/ferryflow/ferryflow/Message") (fs := [(("com/example/ferryflow/ferryflow/Message", "id", "Ljava/lang/String;"), .null), (("com/example/ferryflow/ferryflow/Message", "from", "J"), .long 0), (("com/example/ferryflow/ferryflow/Message", "to", "J"), .long 0), (("com/example/ferryflow/ferryflow/Message", "bytes", "J"), .long 0), (("com/example/ferryflow/ferryflow/Message", "priority", "I"), .int 0), (("com/example/ferryflow/ferryflow/Message", "release", "J"), .long 0)]) (KS := [("com/example/ferryflow/ferryflow/Message", "id", "Ljava/lang/String;"), ("com/example/ferryflow/ferryflow/Message", "from", "J"), ("com/example/ferryflow/ferryflow/Message", "to", "J"), ("com/example/ferryflow/ferryflow/Message", "bytes", "J"), ("com/example/ferryflow/ferryflow/Message", "priority", "I"), ("com/example/ferryflow/ferryflow/Message", "release", "J")]) K (hw _ (List.mem_of_getElem? (i := 26) rfl)) (hw _ (List.mem_of_getElem? (i := 27) rfl)) (hw _ (List.mem_of_getElem? (i := 28) rfl)) rfl (al_Message Z a0 hw) (by decide +kernel) at_19 (by decide) (by decide) rfl (fun m hgm hlm => ?_)
    show Go W Q [(a, .inr ("java/lang/String", [(("java/lang/String", "value", "[B"), .ref u), (("java/lang/String", "coder", "B"), .int 0)])), (u, ba [(nar .byte ((p0 &&& 255).toUInt32.toUInt16.toUInt32.toInt32).toInt8.toInt32)]), (m, .inr ("com/example/ferryflow/ferryflow/Message", [(("com/example/ferryflow/ferryflow/Message", "id", "Ljava/lang/String;"), .null), (("com/example/ferryflow/ferryflow/Message", "from", "J"), .long 0), (("com/example/ferryflow/ferryflow/Message", "to", "J"), .long 0), (("com/example/ferryflow/ferryflow/Message", "bytes", "J"), .long 0), (("com/example/ferryflow/ferryflow/Message", "priority", "I"), .int 0), (("com/example/ferryflow/ferryflow/Message", "release", "J"), .long 0)]))] 3 11 22 #[.val (.int p0), .val (.long p1), .second, .val (.long p2), .second, .val (.long p3), .second, .val (.int p4), .val (.long p5), .second, .val (.int 4), .val (.ref a), .unset] [(.ref m)]
    refine go_dup (pc' := 23) K at_22 rfl rfl ?_
    refine go_aload (pc' := 25) K at_23 rfl rfl rfl ?_
    refine go_lloadN (pc' := 26) K at_25 rfl rfl ?_
    refine go_lloadN (pc' := 27) K at_26 rfl rfl ?_
    refine go_lload (pc' := 29) K at_27 rfl rfl ?_
    refine go_iload (pc' := 31) K at_29 rfl rfl ?_
    refine go_lload (pc' := 33) K at_31 rfl rfl ?_
    refine go_special (pc' := 36) (Wd := 1) (y' := ⟨"com/example/ferryflow/ferryflow/Message", "<init>", "(Ljava/lang/String;JJJIJ)V"⟩) (b := m) (argsL := [(.ref a), (.long p1), (.long p2), (.long p3), (.int 4), (.long p5)]) (rest := [(.ref m)]) K rfl (hw _ (List.mem_of_getElem? (i := 29) rfl)) (hw _ (List.mem_of_getElem? (i := 30) rfl)) (hw _ (List.mem_of_getElem? (i := 28) rfl)) (hw _ (List.mem_of_getElem? (i := 31) rfl)) at_33 (ct_minit l Z h0 a0 hw a u m (.inr ("java/lang/String", [(("java/lang/String", "value", "[B"), .ref u), (("java/lang/String", "coder", "B"), .int 0)])) (ba [(nar .byte ((p0 &&& 255).toUInt32.toUInt16.toUInt32.toInt32).toInt8.toInt32)]) p1 p2 p3 4 p5) (lenOf pd__Ljava_lang_String_JJJIJ_V rfl) rfl rfl (by decide) rfl (by decide) (by decide) (by decide) (by decide) rfl ?_
    rintro _ ds' ⟨rfl, hds⟩
    rw [hds]
    show Go W Q [(a, .inr ("java/lang/String", [(("java/lang/String", "value", "[B"), .ref u), (("java/lang/String", "coder", "B"), .int 0)])), (u, ba [(nar .byte ((p0 &&& 255).toUInt32.toUInt16.toUInt32.toInt32).toInt8.toInt32)]), (m, .inr ("com/example/ferryflow/ferryflow/Message", [(("com/example/ferryflow/ferryflow/Message", "id", "Ljava/lang/String;"), .ref a), (("com/example/ferryflow/ferryflow/Message", "from", "J"), .long p1), (("com/example/ferryflow/ferryflow/Message", "to", "J"), .long p2), (("com/example/ferryflow/ferryflow/Message", "bytes", "J"), .long p3), (("com/example/ferryflow/ferryflow/Message", "priority", "I"), .int 4), (("com/example/ferryflow/ferryflow/Message", "release", "J"), .long p5)]))] 3 11 36 #[.val (.int p0), .val (.long p1), .second, .val (.long p2), .second, .val (.long p3), .second, .val (.int p4), .val (.long p5), .second, .val (.int 4), .val (.ref a), .unset] [(.ref m)]
    refine go_astore (pc' := 38) (Ls' := #[.val (.int p0), .val (.long p1), .second, .val (.long p2), .second, .val (.long p3), .second, .val (.int p4), .val (.long p5), .second, .val (.int 4), .val (.ref a), .val (.ref m)]) K at_36 rfl rfl rfl ?_
    refine go_aload (pc' := 40) K at_38 rfl rfl rfl ?_
    refine go_virtual (pc' := 43) (Wd := 0) (i := 2) (y' := ⟨"com/example/ferryflow/ferryflow/Message", "weight", "()J"⟩) (b := m) (argsL := []) (rest := []) K (hw _ (List.mem_of_getElem? (i := 50) rfl)) (hw _ (List.mem_of_getElem? (i := 51) rfl)) (hw _ (List.mem_of_getElem? (i := 53) rfl)) (hw _ (List.mem_of_getElem? (i := 52) rfl)) (hw _ (List.mem_of_getElem? (i := 28) rfl)) (hw _ (List.mem_of_getElem? (i := 54) rfl)) rfl at_40 (ct_wt4 l Z h0 a0 hw a u m (.inr ("java/lang/String", [(("java/lang/String", "value", "[B"), .ref u), (("java/lang/String", "coder", "B"), .int 0)])) (ba [(nar .byte ((p0 &&& 255).toUInt32.toUInt16.toUInt32.toInt32).toInt8.toInt32)]) p1 p2 p3 p5) (lenOf pd___J rfl) rfl rfl (by decide) rfl (by decide) (by decide) (by decide) (by decide) rfl ?_
    rintro _ ds' ⟨rfl, hds⟩
    rw [hds]
    show Go W Q [(a, .inr ("java/lang/String", [(("java/lang/String", "value", "[B"), .ref u), (("java/lang/String", "coder", "B"), .int 0)])), (u, ba [(nar .byte ((p0 &&& 255).toUInt32.toUInt16.toUInt32.toInt32).toInt8.toInt32)]), (m, .inr ("com/example/ferryflow/ferryflow/Message", [(("com/example/ferryflow/ferryflow/Message", "id", "Ljava/lang/String;"), .ref a), (("com/example/ferryflow/ferryflow/Message", "from", "J"), .long p1), (("com/example/ferryflow/ferryflow/Message", "to", "J"), .long p2), (("com/example/ferryflow/ferryflow/Message", "bytes", "J"), .long p3), (("com/example/ferryflow/ferryflow/Message", "priority", "I"), .int 4), (("com/example/ferryflow/ferryflow/Message", "release", "J"), .long p5)]))] 3 11 43 #[.val (.int p0), .val (.long p1), .second, .val (.long p2), .second, .val (.long p3), .second, .val (.int p4), .val (.long p5), .second, .val (.int 4), .val (.ref a), .val (.ref m)] [(.long 1)]
    refine go_iload (pc' := 45) K at_43 rfl rfl ?_
    refine go_static (pc' := 48) (Wd := 2) (y' := ⟨"com/example/ferryflow/ferryflow/MessageWeightPinLaw", "expected", "(I)J"⟩) (argsL := [(.int 4)]) (rest := [(.long 1)]) K (hw _ (List.mem_of_getElem? (i := 55) rfl)) (hw _ (List.mem_of_getElem? (i := 56) rfl)) (hw _ (List.mem_of_getElem? (i := 57) rfl)) (hw _ (List.mem_of_getElem? (i := 58) rfl)) at_45 (ct_ex4 l Z h0 a0 hw _) (lenOf pd__I_J rfl) rfl rfl (by decide) rfl (by decide) (by decide) (by decide) (by decide) rfl ?_
    rintro _ ds' ⟨rfl, hds⟩
    rw [hds]
    show Go W Q [(a, .inr ("java/lang/String", [(("java/lang/String", "value", "[B"), .ref u), (("java/lang/String", "coder", "B"), .int 0)])), (u, ba [(nar .byte ((p0 &&& 255).toUInt32.toUInt16.toUInt32.toInt32).toInt8.toInt32)]), (m, .inr ("com/example/ferryflow/ferryflow/Message", [(("com/example/ferryflow/ferryflow/Message", "id", "Ljava/lang/String;"), .ref a), (("com/example/ferryflow/ferryflow/Message", "from", "J"), .long p1), (("com/example/ferryflow/ferryflow/Message", "to", "J"), .long p2), (("com/example/ferryflow/ferryflow/Message", "bytes", "J"), .long p3), (("com/example/ferryflow/ferryflow/Message", "priority", "I"), .int 4), (("com/example/ferryflow/ferryflow/Message", "release", "J"), .long p5)]))] 3 11 48 #[.val (.int p0), .val (.long p1), .second, .val (.long p2), .second, .val (.long p3), .second, .val (.int p4), .val (.long p5), .second, .val (.int 4), .val (.ref a), .val (.ref m)] [(.long 1), (.long 1)]
    refine go_ll_ne_f (pc' := 52) K at_48 rfl at_49 rfl rfl ?_
    refine go_iconst (pc' := 53) (v := 1) K at_52 rfl rfl ?_
    refine go_goto (pc' := 57) K at_53 (by decide) (by decide) ?_
    exact go_zret K at_57 (by decide) (by decide) (Or.inr rfl) (by subst hQ; rfl)
  
set_option maxRecDepth 65536 in
set_option maxHeartbeats 40000000 in
theorem comes_1 {Post : Tables → Env → Array Value → State → Outcome → State → Prop} (hpost : ∀ tb e args s v u, (limb_1_1.after args s (.returned v) u = true ∧ limb_1_2.after args s (.returned v) u = true ∧ True) → FrameEnd s (.returned v) u (Jvm.fieldLocs frame_1_writes args s ++ Jvm.arrayLocs frame_1_arrays args s ++ Jvm.staticLocs frame_1_statics s) 16 128 → Post tb e args s (.returned v) u) :
    ArmFor flags0 classFile x code maxLocals ret World_1 tables_1 room_1 Calls_1 rest_1 Pre_1 Post := by
  intro l hfl _ _ p e ha hc hk s m args below hf hA hF happ hP
  obtain ⟨hcalls, hrest, hpre⟩ := hP
  obtain ⟨-, -, -, hnamed, -, -, -, hat⟩ := (Spec.applies_iff hf).mp happ
  obtain ⟨hg, hn⟩ := and_e (Cond.before_iff.mp (show (Jvm.Cond.and given_1 narrow_1).before args s = true from hpre))
  obtain ⟨hcount, g0⟩ := and_e hg
  obtain ⟨q0, g1⟩ := and_e g0
  obtain ⟨q1, g2⟩ := and_e g1
  obtain ⟨q2, g3⟩ := and_e g2
  obtain ⟨q3, g4⟩ := and_e g3
  obtain ⟨q4, g5⟩ := and_e g4
  obtain ⟨w0, w1, w2, w3, w4, w5, rfl⟩ : ∃ w0 w1 w2 w3 w4 w5 : Value, args = #[w0, w1, w2, w3, w4, w5] := by
    have hs : args.size = 6 := by simpa [Cond.value, given_1] using hcount
    obtain ⟨L⟩ := args
    match L, hs with
    | [w0, w1, w2, w3, w4, w5], _ => exact ⟨w0, w1, w2, w3, w4, w5, rfl⟩
  have hw := fun d (hd : d ∈ tables_1) => atoms_spec (ws := Jvm.Cond.code x code maxLocals ret :: tables_1) hat d (List.mem_cons_of_mem _ hd)
  obtain ⟨i0, e0⟩ := is_v q0
  obtain rfl : w0 = (.int i0) := Option.some.inj e0
  obtain ⟨i1, e1⟩ := isL_v q1
  obtain rfl : w1 = (.long i1) := Option.some.inj e1
  obtain ⟨i2, e2⟩ := isL_v q2
  obtain rfl : w2 = (.long i2) := Option.some.inj e2
  obtain ⟨i3, e3⟩ := isL_v q3
  obtain rfl : w3 = (.long i3) := Option.some.inj e3
  obtain ⟨i4, e4⟩ := is_v q4
  obtain rfl : w4 = (.int i4) := Option.some.inj e4
  obtain ⟨i5, e5⟩ := isL_v g5
  obtain rfl : w5 = (.long i5) := Option.some.inj e5
  obtain ⟨hsets, hown0⟩ := atoms_of _ (rest_1_c_eq ▸ (show rest_1_c.before _ s = true from hrest))
  have n5 := not_v (Cond.before_iff.mp (hsets _ (List.mem_of_getElem? (i := 2) rfl)))
  obtain ⟨cs, ecs⟩ := is_v (Cond.before_iff.mp (hsets _ (List.mem_of_getElem? (i := 1) rfl)))
  have S0 : Sta s s.heap "java/lang/String" "COMPACT_STRINGS" "Z" (.int cs) := Sta.start ecs (Or.inl (hsets _ (List.mem_of_getElem? (i := 0) rfl)))
  have hcs : ¬ (cs = (0 : Int32)) := gotF (Cond.eq_ints ecs (Term.int_eval (0))) n5
  obtain ⟨n, o, h1, h2, h3, v, L, rfl, ⟨N, ds', -, rfl⟩, hq⟩ := law_ct l s s.heap _ hw i0 i1 i2 i3 i4 i5 cs S0 hcs s.heap (HL.nil s s.heap) p e ha hc hk s m _ below hf ((Spec.applies_iff_loose hf).mp happ).1 ⟨rfl, State.Warmed39.refl s, rfl⟩ trivial
  refine ⟨n, _, h1, h2, h3, hpost _ _ _ _ _ _ ⟨Cond.after_iff.mpr rfl, Cond.after_iff.mpr (eq_i res_at (Term.int_eval (1)) rfl), trivial⟩ ⟨hq.1, hq.2.1, (hq.2.2.sift fun y hy => Or.inr (N y hy)).mono (by decide) (by decide)⟩⟩
theorem main_1_1 : Claimed_1_1 := comes_1 fun _ _ _ _ _ _ h hF => ⟨h.1, hF⟩
theorem main_1_2 : Claimed_1_2 := comes_1 fun _ _ _ _ _ _ h hF => ⟨h.2.1, hF⟩
end Jvm.Pilot.@@N@@
namespace Jvm.Pilot.@@N@@
open Jvm Jvm.ClassFile Sem Op Lib Jvm.Free Jvm.Stand Jvm.Pilot.@@N@@.Jvm.D
/-! MADE BY PROGRAM (witnessworld.py) out of the Statement's table words and the real class files: 18 classes; the members and pool entries that the words name. The judged class is class 1, her method 1. -/
namespace start1
open Jvm.ClassFile
def u (s : String) : CpInfo := .utf8 (stringToUtf16 s)
/-- a pool by its gaps: so many unusable entries, then the entry; so many at the end -/
def gap : Nat → List CpInfo → List CpInfo
  | 0, r => r
  | n + 1, r => .unusable :: gap n r
def poolList (es : List (Nat × CpInfo)) (last : Nat) : List CpInfo := es.foldr (fun e r => gap e.1 (e.2 :: r)) (gap last [])
def pool (es : List (Nat × CpInfo)) (last : Nat) : Array CpInfo := ⟨poolList es last⟩
def fileOf (pool : Array CpInfo) (this : Nat) (attrs : Array Attribute := #[]) (ms : Array MethodInfo := #[]) (fl : Nat := 33) (sup : Nat := 0) (ifs : Array Nat := #[]) (fds : Array FieldInfo := #[]) : ClassFile where
  minorVersion := 0
  majorVersion := 65
  constantPool := pool
  accessFlags := fl
  thisClass := this
  superClass := sup
  interfaces := ifs
  fields := fds
  methods := ms
  attributes := attrs
def plain (name : String) (sup : Option ClassId) : Class where
  name := name
  kind := .ordinary
  loader := none
  accessFlags := 33
  super := sup
  interfaces := #[]
  cf := none
  fields := #[]
  methods := #[]
  instanceTypes := #[]
  staticTypes := #[]
  resolved := #[]
  callSites := []
  init := .initialized
  statics := none
  mirror := none

def pool0 : Array CpInfo := pool [(5, u "<init>"), (0, u "()V"), (1, .class_ 10), (1, u "java/lang/Object")] 113

def k0c0 : Code := { maxStack := 0, maxLocals := 1, code := object_method_1_code, exceptionTable := #[], attributes := #[] }
def k0m0 : Method := { name := "<init>", desc := "()V", sig := { parameters := [], returnType := none }, accessFlags := 1, code := some k0c0 }
/-- java/lang/Object -/
def k0 : Class := { plain "java/lang/Object" none with
  accessFlags := 33
  interfaces := #[]
  cf := some (fileOf pool0 8 #[] #[{ accessFlags := 1, nameIndex := 5, descriptorIndex := 6, attributes := #[] }] 33 0 #[] #[])
  fields := #[]
  methods := #[k0m0]
  instanceTypes := #[]
  staticTypes := #[]
  resolved := Array.replicate 124 none
  statics := none }

def pool1 : Array CpInfo := pool [(2, .class_ 4), (1, u "java/lang/Object"), (0, u "<init>"), (0, u "()V"), (0, .methodref 8 9), (0, .class_ 10), (0, .nameAndType 11 12), (0, u "java/lang/String"), (0, u "valueOf"), (0, u "(C)Ljava/lang/String;"), (0, .class_ 14), (0, u "com/example/ferryflow/ferryflow/Message"), (0, .methodref 13 16), (0, .nameAndType 5 17), (0, u "(Ljava/lang/String;JJJIJ)V"), (0, .methodref 13 19), (0, .nameAndType 20 21), (0, u "weight"), (0, u "()J"), (0, .methodref 23 24), (0, .class_ 25), (0, .nameAndType 26 27), (0, u "com/example/ferryflow/ferryflow/MessageWeightPinLaw"), (0, u "expected"), (0, u "(I)J"), (0, .long 1000), (1, .long 100), (1, .long 10), (3, u "law"), (0, u "(IJJJIJ)Z")] 3

def k1m0 : Method := { name := "<init>", desc := "()V", sig := { parameters := [], returnType := none }, accessFlags := 1, code := none }
def k1c1 : Code := { maxStack := 12, maxLocals := 13, code := code, exceptionTable := #[], attributes := #[] }
def k1m1 : Method := { name := "law", desc := "(IJJJIJ)Z", sig := { parameters := [.int, .long, .long, .long, .int, .long], returnType := some .boolean }, accessFlags := 9, code := some k1c1 }
def k1c2 : Code := { maxStack := 2, maxLocals := 1, code := method_3_code, exceptionTable := #[], attributes := #[] }
def k1m2 : Method := { name := "expected", desc := "(I)J", sig := { parameters := [.int], returnType := some .long }, accessFlags := 10, code := some k1c2 }
/-- com/example/ferryflow/ferryflow/MessageWeightPinLaw -/
def k1 : Class := { plain "com/example/ferryflow/ferryflow/MessageWeightPinLaw" (some 0) with
  accessFlags := 49
  interfaces := #[]
  cf := some (fileOf pool1 23 #[] #[{ accessFlags := 1, nameIndex := 5, descriptorIndex := 6, attributes := #[] }, { accessFlags := 9, nameIndex := 36, descriptorIndex := 37, attributes := #[] }, { accessFlags := 10, nameIndex := 26, descriptorIndex := 27, attributes := #[] }] 49 2 #[] #[])
  fields := #[]
  methods := #[k1m0, k1m1, k1m2]
  instanceTypes := #[]
  staticTypes := #[]
  resolved := Array.replicate 41 none
  statics := none }

def pool2 : Array CpInfo := pool [(1, .class_ 2), (0, u "java/io/Serializable"), (0, .class_ 4), (0, u "java/lang/Object")] 2

/-- java/io/Serializable -/
def k2 : Class := { plain "java/io/Serializable" (some 0) with
  accessFlags := 1537
  interfaces := #[]
  cf := some (fileOf pool2 1 #[] #[] 1537 3 #[] #[])
  fields := #[]
  methods := #[]
  instanceTypes := #[]
  staticTypes := #[]
  resolved := Array.replicate 7 none
  statics := none }

def pool3 : Array CpInfo := pool [(1, .class_ 2), (0, u "java/lang/Comparable"), (0, .class_ 4), (0, u "java/lang/Object")] 7

/-- java/lang/Comparable -/
def k3 : Class := { plain "java/lang/Comparable" (some 0) with
  accessFlags := 1537
  interfaces := #[]
  cf := some (fileOf pool3 1 #[] #[] 1537 3 #[] #[])
  fields := #[]
  methods := #[]
  instanceTypes := #[]
  staticTypes := #[]
  resolved := Array.replicate 12 none
  statics := none }

def pool4 : Array CpInfo := pool [(2, .class_ 4), (1, u "java/lang/CharSequence"), (42, .class_ 48), (0, u "java/lang/CharSequence$1CodePointIterator"), (10, .class_ 60), (0, u "java/lang/CharSequence$1CharIterator"), (5, .class_ 67), (0, u "java/lang/Object")] 63

/-- java/lang/CharSequence -/
def k4 : Class := { plain "java/lang/CharSequence" (some 0) with
  accessFlags := 1537
  interfaces := #[]
  cf := some (fileOf pool4 2 #[.nestMembers #[47, 59]] #[] 1537 66 #[] #[])
  fields := #[]
  methods := #[]
  instanceTypes := #[]
  staticTypes := #[]
  resolved := Array.replicate 131 none
  statics := none }

def pool5 : Array CpInfo := pool [(1, .class_ 2), (0, u "java/lang/constant/Constable"), (0, .class_ 4), (0, u "java/lang/Object")] 6

/-- java/lang/constant/Constable -/
def k5 : Class := { plain "java/lang/constant/Constable" (some 0) with
  accessFlags := 1537
  interfaces := #[]
  cf := some (fileOf pool5 1 #[] #[] 1537 3 #[] #[])
  fields := #[]
  methods := #[]
  instanceTypes := #[]
  staticTypes := #[]
  resolved := Array.replicate 11 none
  statics := none }

def pool6 : Array CpInfo := pool [(1, .class_ 2), (0, u "java/lang/constant/ConstantDesc"), (0, .class_ 4), (0, u "java/lang/Object")] 32

/-- java/lang/constant/ConstantDesc -/
def k6 : Class := { plain "java/lang/constant/ConstantDesc" (some 0) with
  accessFlags := 1537
  interfaces := #[]
  cf := some (fileOf pool6 1 #[] #[] 1537 3 #[] #[])
  fields := #[]
  methods := #[]
  instanceTypes := #[]
  staticTypes := #[]
  resolved := Array.replicate 37 none
  statics := none }

def pool7 : Array CpInfo := pool [(1, .methodref 2 3), (0, .class_ 4), (0, .nameAndType 5 6), (0, u "java/lang/Object"), (0, u "<init>"), (0, u "()V"), (2, .fieldref 10 11), (0, .class_ 12), (0, .nameAndType 13 14), (0, u "java/lang/String"), (0, u "value"), (0, u "[B"), (0, .fieldref 10 16), (0, .nameAndType 17 18), (0, u "coder"), (0, u "B"), (2, u "hash"), (0, u "I"), (2, u "hashIsZero"), (0, u "Z"), (11, .fieldref 10 39), (0, .nameAndType 40 26), (0, u "COMPACT_STRINGS"), (12, u "toBytes"), (53, .class_ 109), (1, u "java/lang/StringLatin1"), (99, .methodref 10 210), (0, .nameAndType 5 211), (0, u "([BB)V"), (157, u "(C)Z"), (205, .class_ 576), (0, u "java/lang/CharSequence"), (22, u "CASE_INSENSITIVE_ORDER"), (0, u "Ljava/util/Comparator;"), (181, u "valueOf"), (0, u "(C)Ljava/lang/String;"), (231, .methodref 107 1016), (0, .nameAndType 1017 369), (0, u "canEncode"), (0, .methodref 107 1019), (0, .nameAndType 53 1020), (0, u "(C)[B"), (80, u "serialPersistentFields"), (0, u "[Ljava/io/ObjectStreamField;"), (0, .class_ 1104), (0, u "java/lang/String$CaseInsensitiveComparator"), (1, .class_ 1107), (0, u "java/io/Serializable"), (0, .class_ 1109), (0, u "java/lang/Comparable"), (0, .class_ 1111), (0, u "java/lang/constant/Constable"), (0, .class_ 1113), (0, u "java/lang/constant/ConstantDesc"), (2, u "serialVersionUID"), (0, u "J"), (3, u "REPL"), (0, u "C"), (2, u "LATIN1"), (1, u "UTF16")] 323

def k7m0 : Method := { name := "<init>", desc := "()V", sig := { parameters := [], returnType := none }, accessFlags := 1, code := none }
def k7c1 : Code := { maxStack := 4, maxLocals := 1, code := jdk_42_method_139_code, exceptionTable := #[], attributes := #[] }
def k7m1 : Method := { name := "valueOf", desc := "(C)Ljava/lang/String;", sig := { parameters := [.char], returnType := some (.object "java/lang/String") }, accessFlags := 9, code := some k7c1 }
def k7c2 : Code := { maxStack := 2, maxLocals := 3, code := jdk_42_method_151_code, exceptionTable := #[], attributes := #[] }
def k7m2 : Method := { name := "<init>", desc := "([BB)V", sig := { parameters := [(.array .byte), .byte], returnType := none }, accessFlags := 0, code := some k7c2 }
/-- java/lang/String -/
def k7 : Class := { plain "java/lang/String" (some 0) with
  accessFlags := 49
  interfaces := #[2, 3, 4, 5, 6]
  cf := some (fileOf pool7 10 #[.nestMembers #[1103]] #[{ accessFlags := 1, nameIndex := 5, descriptorIndex := 6, attributes := #[] }, { accessFlags := 9, nameIndex := 782, descriptorIndex := 783, attributes := #[] }, { accessFlags := 0, nameIndex := 5, descriptorIndex := 211, attributes := #[] }] 49 2 #[1106, 1108, 575, 1110, 1112] #[{ accessFlags := 18, nameIndex := 13, descriptorIndex := 14, attributes := #[] }, { accessFlags := 18, nameIndex := 17, descriptorIndex := 18, attributes := #[] }, { accessFlags := 2, nameIndex := 21, descriptorIndex := 22, attributes := #[] }, { accessFlags := 2, nameIndex := 25, descriptorIndex := 26, attributes := #[] }, { accessFlags := 26, nameIndex := 1116, descriptorIndex := 1117, attributes := #[] }, { accessFlags := 24, nameIndex := 40, descriptorIndex := 26, attributes := #[] }, { accessFlags := 26, nameIndex := 1101, descriptorIndex := 1102, attributes := #[] }, { accessFlags := 26, nameIndex := 1121, descriptorIndex := 1122, attributes := #[] }, { accessFlags := 25, nameIndex := 599, descriptorIndex := 600, attributes := #[] }, { accessFlags := 24, nameIndex := 1125, descriptorIndex := 18, attributes := #[] }, { accessFlags := 24, nameIndex := 1127, descriptorIndex := 18, attributes := #[] }])
  fields := #[{ name := "value", type := (.array .byte), accessFlags := 18, slot := 0, constantValue := 0 }, { name := "coder", type := .byte, accessFlags := 18, slot := 1, constantValue := 0 }, { name := "hash", type := .int, accessFlags := 2, slot := 2, constantValue := 0 }, { name := "hashIsZero", type := .boolean, accessFlags := 2, slot := 3, constantValue := 0 }, { name := "serialVersionUID", type := .long, accessFlags := 26, slot := 0, constantValue := 0 }, { name := "COMPACT_STRINGS", type := .boolean, accessFlags := 24, slot := 1, constantValue := 0 }, { name := "serialPersistentFields", type := (.array (.object "java/io/ObjectStreamField")), accessFlags := 26, slot := 2, constantValue := 0 }, { name := "REPL", type := .char, accessFlags := 26, slot := 3, constantValue := 0 }, { name := "CASE_INSENSITIVE_ORDER", type := (.object "java/util/Comparator"), accessFlags := 25, slot := 4, constantValue := 0 }, { name := "LATIN1", type := .byte, accessFlags := 24, slot := 5, constantValue := 0 }, { name := "UTF16", type := .byte, accessFlags := 24, slot := 6, constantValue := 0 }]
  methods := #[k7m0, k7m1, k7m2]
  instanceTypes := #[(.array .byte), .byte, .int, .boolean]
  staticTypes := #[.long, .boolean, (.array (.object "java/io/ObjectStreamField")), .char, (.object "java/util/Comparator"), .byte, .byte]
  resolved := Array.replicate 1451 none
  statics := some 0 }

def pool8 : Array CpInfo := pool [(4, .class_ 6), (1, u "java/lang/Object"), (0, u "<init>"), (0, u "()V"), (5, .class_ 16), (1, u "java/lang/StringLatin1"), (73, u "canEncode"), (14, u "(C)Z"), (15, u "$assertionsDisabled"), (0, u "Z"), (98, .class_ 223), (1, u "java/lang/StringLatin1$LinesSpliterator"), (156, u "toBytes"), (1, u "(C)[B"), (7, .class_ 391), (0, u "java/lang/StringLatin1$CharsSpliterator")] 3

def k8m0 : Method := { name := "<init>", desc := "()V", sig := { parameters := [], returnType := none }, accessFlags := 0, code := none }
def k8c1 : Code := { maxStack := 2, maxLocals := 1, code := jdk_43_method_3_code, exceptionTable := #[], attributes := #[] }
def k8m1 : Method := { name := "canEncode", desc := "(C)Z", sig := { parameters := [.char], returnType := some .boolean }, accessFlags := 9, code := some k8c1 }
def k8c2 : Code := { maxStack := 4, maxLocals := 1, code := jdk_43_method_46_code, exceptionTable := #[], attributes := #[] }
def k8m2 : Method := { name := "toBytes", desc := "(C)[B", sig := { parameters := [.char], returnType := some (.array .byte) }, accessFlags := 9, code := some k8c2 }
/-- java/lang/StringLatin1 -/
def k8 : Class := { plain "java/lang/StringLatin1" (some 0) with
  accessFlags := 48
  interfaces := #[]
  cf := some (fileOf pool8 14 #[.nestMembers #[390, 221]] #[{ accessFlags := 0, nameIndex := 7, descriptorIndex := 8, attributes := #[] }, { accessFlags := 9, nameIndex := 90, descriptorIndex := 105, attributes := #[] }, { accessFlags := 9, nameIndex := 380, descriptorIndex := 382, attributes := #[] }] 48 4 #[] #[{ accessFlags := 4120, nameIndex := 121, descriptorIndex := 122, attributes := #[] }])
  fields := #[{ name := "$assertionsDisabled", type := .boolean, accessFlags := 4120, slot := 0, constantValue := 0 }]
  methods := #[k8m0, k8m1, k8m2]
  instanceTypes := #[]
  staticTypes := #[.boolean]
  resolved := Array.replicate 395 none
  statics := none }

def pool9 : Array CpInfo := pool [(1, .methodref 2 3), (0, .class_ 4), (0, .nameAndType 5 6), (0, u "java/lang/Object"), (0, u "<init>"), (0, u "()V"), (0, .class_ 8), (0, u "java/lang/Record")] 13

def k9c0 : Code := { maxStack := 1, maxLocals := 1, code := jdk_30_method_1_code, exceptionTable := #[], attributes := #[] }
def k9m0 : Method := { name := "<init>", desc := "()V", sig := { parameters := [], returnType := none }, accessFlags := 4, code := some k9c0 }
/-- java/lang/Record -/
def k9 : Class := { plain "java/lang/Record" (some 0) with
  accessFlags := 1057
  interfaces := #[]
  cf := some (fileOf pool9 7 #[] #[{ accessFlags := 4, nameIndex := 5, descriptorIndex := 6, attributes := #[] }] 1057 2 #[] #[])
  fields := #[]
  methods := #[k9m0]
  instanceTypes := #[]
  staticTypes := #[]
  resolved := Array.replicate 22 none
  statics := none }

def pool10 : Array CpInfo := pool [(1, .methodref 2 3), (0, .class_ 4), (0, .nameAndType 5 6), (0, u "java/lang/Record"), (0, u "<init>"), (0, u "()V"), (0, .fieldref 8 9), (0, .class_ 10), (0, .nameAndType 11 12), (0, u "com/example/ferryflow/ferryflow/Message"), (0, u "id"), (0, u "Ljava/lang/String;"), (0, .fieldref 8 14), (0, .nameAndType 15 16), (0, u "from"), (0, u "J"), (0, .fieldref 8 18), (0, .nameAndType 19 16), (0, u "to"), (0, .fieldref 8 21), (0, .nameAndType 22 16), (0, u "bytes"), (0, .fieldref 8 24), (0, .nameAndType 25 26), (0, u "priority"), (0, u "I"), (0, .fieldref 8 28), (0, .nameAndType 29 16), (0, u "release"), (0, .long 10), (13, u "FIRST_PRIORITY"), (2, u "LAST_PRIORITY"), (1, u "(Ljava/lang/String;JJJIJ)V"), (3, u "weight"), (0, u "()J")] 29

def k10c0 : Code := { maxStack := 3, maxLocals := 11, code := prog_32_method_1_code, exceptionTable := #[], attributes := #[] }
def k10m0 : Method := { name := "<init>", desc := "(Ljava/lang/String;JJJIJ)V", sig := { parameters := [(.object "java/lang/String"), .long, .long, .long, .int, .long], returnType := none }, accessFlags := 0, code := some k10c0 }
def k10c1 : Code := { maxStack := 4, maxLocals := 4, code := prog_32_method_2_code, exceptionTable := #[], attributes := #[] }
def k10m1 : Method := { name := "weight", desc := "()J", sig := { parameters := [], returnType := some .long }, accessFlags := 0, code := some k10c1 }
/-- com/example/ferryflow/ferryflow/Message -/
def k10 : Class := { plain "com/example/ferryflow/ferryflow/Message" (some 9) with
  accessFlags := 48
  interfaces := #[]
  cf := some (fileOf pool10 8 #[] #[{ accessFlags := 0, nameIndex := 5, descriptorIndex := 49, attributes := #[] }, { accessFlags := 0, nameIndex := 53, descriptorIndex := 54, attributes := #[] }] 48 2 #[] #[{ accessFlags := 18, nameIndex := 11, descriptorIndex := 12, attributes := #[] }, { accessFlags := 18, nameIndex := 15, descriptorIndex := 16, attributes := #[] }, { accessFlags := 18, nameIndex := 19, descriptorIndex := 16, attributes := #[] }, { accessFlags := 18, nameIndex := 22, descriptorIndex := 16, attributes := #[] }, { accessFlags := 18, nameIndex := 25, descriptorIndex := 26, attributes := #[] }, { accessFlags := 18, nameIndex := 29, descriptorIndex := 16, attributes := #[] }, { accessFlags := 24, nameIndex := 44, descriptorIndex := 26, attributes := #[] }, { accessFlags := 24, nameIndex := 47, descriptorIndex := 26, attributes := #[] }])
  fields := #[{ name := "id", type := (.object "java/lang/String"), accessFlags := 18, slot := 0, constantValue := 0 }, { name := "from", type := .long, accessFlags := 18, slot := 1, constantValue := 0 }, { name := "to", type := .long, accessFlags := 18, slot := 2, constantValue := 0 }, { name := "bytes", type := .long, accessFlags := 18, slot := 3, constantValue := 0 }, { name := "priority", type := .int, accessFlags := 18, slot := 4, constantValue := 0 }, { name := "release", type := .long, accessFlags := 18, slot := 5, constantValue := 0 }, { name := "FIRST_PRIORITY", type := .int, accessFlags := 24, slot := 0, constantValue := 0 }, { name := "LAST_PRIORITY", type := .int, accessFlags := 24, slot := 1, constantValue := 0 }]
  methods := #[k10m0, k10m1]
  instanceTypes := #[(.object "java/lang/String"), .long, .long, .long, .int, .long]
  staticTypes := #[.int, .int]
  resolved := Array.replicate 84 none
  statics := none }

def pool11 : Array CpInfo := pool [(2, .class_ 4), (1, u "java/lang/Object"), (0, u "<init>"), (0, u "()V"), (17, .class_ 26), (1, u "jdk/internal/util/Preconditions"), (28, .class_ 56), (0, u "jdk/internal/util/Preconditions$4"), (57, .class_ 115), (0, u "jdk/internal/util/Preconditions$1"), (7, u "SIOOBE_FORMATTER"), (0, u "Ljava/util/function/BiFunction;"), (0, .class_ 126), (0, u "jdk/internal/util/Preconditions$2"), (3, u "AIOOBE_FORMATTER"), (0, .class_ 132), (0, u "jdk/internal/util/Preconditions$3"), (3, u "IOOBE_FORMATTER")] 57

def k11m0 : Method := { name := "<init>", desc := "()V", sig := { parameters := [], returnType := none }, accessFlags := 1, code := none }
/-- jdk/internal/util/Preconditions -/
def k11 : Class := { plain "jdk/internal/util/Preconditions" (some 0) with
  accessFlags := 33
  interfaces := #[]
  cf := some (fileOf pool11 24 #[.nestMembers #[55, 131, 125, 114]] #[{ accessFlags := 1, nameIndex := 5, descriptorIndex := 6, attributes := #[] }] 33 2 #[] #[{ accessFlags := 25, nameIndex := 123, descriptorIndex := 124, attributes := #[] }, { accessFlags := 25, nameIndex := 130, descriptorIndex := 124, attributes := #[] }, { accessFlags := 25, nameIndex := 136, descriptorIndex := 124, attributes := #[] }])
  fields := #[{ name := "SIOOBE_FORMATTER", type := (.object "java/util/function/BiFunction"), accessFlags := 25, slot := 0, constantValue := 0 }, { name := "AIOOBE_FORMATTER", type := (.object "java/util/function/BiFunction"), accessFlags := 25, slot := 1, constantValue := 0 }, { name := "IOOBE_FORMATTER", type := (.object "java/util/function/BiFunction"), accessFlags := 25, slot := 2, constantValue := 0 }]
  methods := #[k11m0]
  instanceTypes := #[]
  staticTypes := #[(.object "java/util/function/BiFunction"), (.object "java/util/function/BiFunction"), (.object "java/util/function/BiFunction")]
  resolved := Array.replicate 194 none
  statics := some 1 }

def pool12 : Array CpInfo := pool [(9, u "<init>"), (6, .class_ 18), (1, u "java/lang/Object"), (0, u "()V"), (1, .class_ 23), (1, u "jdk/internal/util/ArraysSupport"), (0, u "LOG2_ARRAY_LONG_INDEX_SCALE"), (0, u "I"), (2, u "U"), (0, u "Ljdk/internal/misc/Unsafe;"), (8, u "BIG_ENDIAN"), (0, u "Z"), (8, u "LOG2_BYTE_BIT_SIZE"), (4, u "LOG2_ARRAY_INT_INDEX_SCALE"), (54, u "JLA"), (0, u "Ljdk/internal/access/JavaLangAccess;"), (11, u "LOG2_ARRAY_BOOLEAN_INDEX_SCALE"), (9, u "LOG2_ARRAY_BYTE_INDEX_SCALE"), (5, u "LOG2_ARRAY_CHAR_INDEX_SCALE"), (5, u "LOG2_ARRAY_SHORT_INDEX_SCALE"), (18, u "LOG2_ARRAY_FLOAT_INDEX_SCALE"), (24, u "LOG2_ARRAY_DOUBLE_INDEX_SCALE"), (89, u "T_BOOLEAN"), (2, u "T_CHAR"), (1, u "T_FLOAT"), (1, u "T_DOUBLE"), (1, u "T_BYTE"), (1, u "T_SHORT"), (1, u "T_INT"), (1, u "T_LONG"), (1, u "SOFT_MAX_ARRAY_LENGTH")] 83

def k12m0 : Method := { name := "<init>", desc := "()V", sig := { parameters := [], returnType := none }, accessFlags := 2, code := none }
/-- jdk/internal/util/ArraysSupport -/
def k12 : Class := { plain "jdk/internal/util/ArraysSupport" (some 0) with
  accessFlags := 33
  interfaces := #[]
  cf := some (fileOf pool12 21 #[] #[{ accessFlags := 2, nameIndex := 9, descriptorIndex := 19, attributes := #[] }] 33 16 #[] #[{ accessFlags := 24, nameIndex := 28, descriptorIndex := 29, attributes := #[] }, { accessFlags := 26, nameIndex := 38, descriptorIndex := 39, attributes := #[] }, { accessFlags := 25, nameIndex := 121, descriptorIndex := 25, attributes := #[] }, { accessFlags := 25, nameIndex := 131, descriptorIndex := 25, attributes := #[] }, { accessFlags := 25, nameIndex := 137, descriptorIndex := 25, attributes := #[] }, { accessFlags := 25, nameIndex := 143, descriptorIndex := 25, attributes := #[] }, { accessFlags := 25, nameIndex := 53, descriptorIndex := 25, attributes := #[] }, { accessFlags := 25, nameIndex := 24, descriptorIndex := 25, attributes := #[] }, { accessFlags := 25, nameIndex := 162, descriptorIndex := 25, attributes := #[] }, { accessFlags := 25, nameIndex := 187, descriptorIndex := 25, attributes := #[] }, { accessFlags := 26, nameIndex := 48, descriptorIndex := 25, attributes := #[] }, { accessFlags := 25, nameIndex := 277, descriptorIndex := 25, attributes := #[] }, { accessFlags := 25, nameIndex := 280, descriptorIndex := 25, attributes := #[] }, { accessFlags := 25, nameIndex := 282, descriptorIndex := 25, attributes := #[] }, { accessFlags := 25, nameIndex := 284, descriptorIndex := 25, attributes := #[] }, { accessFlags := 25, nameIndex := 286, descriptorIndex := 25, attributes := #[] }, { accessFlags := 25, nameIndex := 288, descriptorIndex := 25, attributes := #[] }, { accessFlags := 25, nameIndex := 290, descriptorIndex := 25, attributes := #[] }, { accessFlags := 25, nameIndex := 292, descriptorIndex := 25, attributes := #[] }, { accessFlags := 26, nameIndex := 108, descriptorIndex := 109, attributes := #[] }, { accessFlags := 25, nameIndex := 294, descriptorIndex := 25, attributes := #[] }])
  fields := #[{ name := "U", type := (.object "jdk/internal/misc/Unsafe"), accessFlags := 24, slot := 0, constantValue := 0 }, { name := "BIG_ENDIAN", type := .boolean, accessFlags := 26, slot := 1, constantValue := 0 }, { name := "LOG2_ARRAY_BOOLEAN_INDEX_SCALE", type := .int, accessFlags := 25, slot := 2, constantValue := 0 }, { name := "LOG2_ARRAY_BYTE_INDEX_SCALE", type := .int, accessFlags := 25, slot := 3, constantValue := 0 }, { name := "LOG2_ARRAY_CHAR_INDEX_SCALE", type := .int, accessFlags := 25, slot := 4, constantValue := 0 }, { name := "LOG2_ARRAY_SHORT_INDEX_SCALE", type := .int, accessFlags := 25, slot := 5, constantValue := 0 }, { name := "LOG2_ARRAY_INT_INDEX_SCALE", type := .int, accessFlags := 25, slot := 6, constantValue := 0 }, { name := "LOG2_ARRAY_LONG_INDEX_SCALE", type := .int, accessFlags := 25, slot := 7, constantValue := 0 }, { name := "LOG2_ARRAY_FLOAT_INDEX_SCALE", type := .int, accessFlags := 25, slot := 8, constantValue := 0 }, { name := "LOG2_ARRAY_DOUBLE_INDEX_SCALE", type := .int, accessFlags := 25, slot := 9, constantValue := 0 }, { name := "LOG2_BYTE_BIT_SIZE", type := .int, accessFlags := 26, slot := 10, constantValue := 0 }, { name := "T_BOOLEAN", type := .int, accessFlags := 25, slot := 11, constantValue := 0 }, { name := "T_CHAR", type := .int, accessFlags := 25, slot := 12, constantValue := 0 }, { name := "T_FLOAT", type := .int, accessFlags := 25, slot := 13, constantValue := 0 }, { name := "T_DOUBLE", type := .int, accessFlags := 25, slot := 14, constantValue := 0 }, { name := "T_BYTE", type := .int, accessFlags := 25, slot := 15, constantValue := 0 }, { name := "T_SHORT", type := .int, accessFlags := 25, slot := 16, constantValue := 0 }, { name := "T_INT", type := .int, accessFlags := 25, slot := 17, constantValue := 0 }, { name := "T_LONG", type := .int, accessFlags := 25, slot := 18, constantValue := 0 }, { name := "JLA", type := (.object "jdk/internal/access/JavaLangAccess"), accessFlags := 26, slot := 19, constantValue := 0 }, { name := "SOFT_MAX_ARRAY_LENGTH", type := .int, accessFlags := 25, slot := 20, constantValue := 0 }]
  methods := #[k12m0]
  instanceTypes := #[]
  staticTypes := #[(.object "jdk/internal/misc/Unsafe"), .boolean, .int, .int, .int, .int, .int, .int, .int, .int, .int, .int, .int, .int, .int, .int, .int, .int, .int, (.object "jdk/internal/access/JavaLangAccess"), .int]
  resolved := Array.replicate 378 none
  statics := none }

def pool13 : Array CpInfo := pool [(1, u "java/lang/Cloneable"), (0, .class_ 1), (0, u "java/lang/Object"), (0, .class_ 3)] 3

/-- java/lang/Cloneable -/
def k13 : Class := { plain "java/lang/Cloneable" (some 0) with
  accessFlags := 1537
  interfaces := #[]
  cf := some (fileOf pool13 2 #[] #[] 1537 4 #[] #[])
  fields := #[]
  methods := #[]
  instanceTypes := #[]
  staticTypes := #[]
  resolved := Array.replicate 8 none
  statics := none }

/-- the primitive byte -/
def k14 : Class := { plain "byte" none with kind := .primitive 'B', accessFlags := 0x411 }
/-- [B -/
def k15 : Class := { plain "[B" (some 0) with kind := .array 14 .byte, interfaces := #[13, 2], accessFlags := 1041 }

/-- the primitive int -/
def k16 : Class := { plain "int" none with kind := .primitive 'I', accessFlags := 0x411 }
/-- [I -/
def k17 : Class := { plain "[I" (some 0) with kind := .array 16 .int, interfaces := #[13, 2], accessFlags := 1041 }

def heap : Heap := #[{ cls := 7, slots := #[.long 0, .int 1, .null, .int 0, .null, .int 0, .int 0], vm := .statics 7 },
  { cls := 11, slots := #[.null, .null, .null], vm := .statics 11 }]
def classes : Array Class := #[k0, k1, k2, k3, k4, k5, k6, k7, k8, k9, k10, k11, k12, k13, k14, k15, k16, k17]
def interned : List (Array UInt16 × Addr) := []
def slotsUsed : Nat := 10
def theMethod : MethodId := ⟨1, 1⟩
def args0 : Array Value := #[.int 65, .long 300, .long 7, .long 9, .int 2, .long 4]
def aboutOver (below : List Frame) : State where
  vm := { classes := classes, interned := interned.toArray }
  heap := heap
  slotsUsed := slotsUsed
  threads := #[{ frames := .invoking theMethod args0 :: below }]
def below0 : List Frame := [.native { method := ⟨0, 0⟩, args := #[] }]
def about1 : State := aboutOver below0
def p0 : Program := .bare "" "" ""
def e0 : Env := launch0.env 0 0 0
theorem w_frames : about1.frames = Frame.invoking theMethod args0 :: below0 := rfl
set_option maxRecDepth 65536 in
theorem w_args : argsFit about1.vm theMethod args0 = true := by decide +kernel
set_option maxRecDepth 65536 in
theorem w_heap : heapFits about1 = true := by decide +kernel
set_option maxRecDepth 65536 in
theorem w_runnable : about1.curStatus? = some .runnable := by decide +kernel
set_option maxRecDepth 65536 in
theorem w_alone : about1.alone = true := by decide +kernel
set_option maxRecDepth 65536 in
theorem w_named : about1.methodNamed? x = some theMethod := by decide +kernel
set_option maxRecDepth 65536 in
theorem w_hears : about1.hears theMethod below0 = true := by decide +kernel
set_option maxRecDepth 65536 in
theorem w_ripe : about1.ripe theMethod args0 below0 = true := by decide +kernel
theorem w_running : about1.status = .running := rfl
set_option maxRecDepth 65536 in
theorem w_room : about1.hasRoom e0.platform room_1 = true :=
  launch0.hasRoom_least _ room_1 (by decide +kernel) (by decide +kernel) (by decide +kernel) (by decide +kernel) (by decide +kernel) (by decide +kernel)
theorem allAtoms_all (ts : List Jvm.Cond) (a : Array Jvm.Value) (st : Jvm.State) : (allAtoms ts).before a st = ts.all (fun c => c.before a st) := by
  induction ts with
  | nil => rfl
  | cons c t ih =>
    show (Jvm.Cond.and c (allAtoms t)).before a st = _
    rw [Jvm.Cond.before_and, ih, List.all_cons]
def words1 : List Jvm.Cond := Jvm.Cond.code x code maxLocals ret :: tables_1
/-- a 'code' word, met by the world's own term for the bytes: nothing is compared byte by byte -/
theorem code_word {y : MethodName} {bytes : ByteArray} {mx : Nat} {rt : Option FieldType} {a : Array Value} {s : State} {m : MethodId} {meth : Method} {c : Code} (h1 : s.methodNamed? y = some m) (h2 : s.vm.method? m = some meth) (h3 : meth.code = some c) (h4 : c.code = bytes)
    (h5 : (c.maxLocals == mx && c.exceptionTable.isEmpty && decide (c.maxStack ≤ mostOperands) && decide (meth.sig.returnType = rt) && !meth.locks && decide (parseMethodDescriptor y.desc = some meth.sig)) = true) : (Jvm.Cond.code y bytes mx rt).before a s = true := by
  simp only [Bool.and_eq_true, beq_iff_eq, Bool.not_eq_true', decide_eq_true_eq] at h5
  obtain ⟨⟨⟨⟨⟨g1, g2⟩, g3⟩, g4⟩, g5⟩, g6⟩ := h5
  simp [Cond.before, Cond.holds, Cond.value, h1, h2, h3, h4, g1, g2, g3, g4, g5, g6]
def isCode : Jvm.Cond → Bool
  | .code _ _ _ _ => true
  | _ => false
theorem all_split {L : List Jvm.Cond} {P : Jvm.Cond → Bool} (h1 : L.all (fun c => isCode c || P c) = true) (h2 : ∀ c ∈ L.filter isCode, P c = true) : L.all P = true := by
  refine List.all_eq_true.mpr fun c hc => ?_
  have h := List.all_eq_true.mp h1 c hc
  rcases Bool.eq_false_or_eq_true (isCode c) with hi | hi
  · exact h2 c (List.mem_filter.mpr ⟨hc, hi⟩)
  · simpa [hi] using h
set_option maxRecDepth 65536 in
theorem w_c0 : (Jvm.Cond.code x code maxLocals ret).before args0 about1 = true := code_word (m := ⟨1, 1⟩) (meth := k1m1) (c := k1c1) (by decide +kernel) rfl rfl rfl (by decide +kernel)
set_option maxRecDepth 65536 in
theorem w_c1 : (Jvm.Cond.code ({ cls := "java/lang/String", name := "valueOf", desc := "(C)Ljava/lang/String;" } : Jvm.MethodName) jdk_42_method_139_code (1 : Nat) (Option.some (Jvm.ClassFile.FieldType.object "java/lang/String"))).before args0 about1 = true := code_word (m := ⟨7, 1⟩) (meth := k7m1) (c := k7c1) (by decide +kernel) rfl rfl rfl (by decide +kernel)
set_option maxRecDepth 65536 in
theorem w_c2 : (Jvm.Cond.code ({ cls := "java/lang/StringLatin1", name := "canEncode", desc := "(C)Z" } : Jvm.MethodName) jdk_43_method_3_code (1 : Nat) (Option.some Jvm.ClassFile.FieldType.boolean)).before args0 about1 = true := code_word (m := ⟨8, 1⟩) (meth := k8m1) (c := k8c1) (by decide +kernel) rfl rfl rfl (by decide +kernel)
set_option maxRecDepth 65536 in
theorem w_c3 : (Jvm.Cond.code ({ cls := "java/lang/StringLatin1", name := "toBytes", desc := "(C)[B" } : Jvm.MethodName) jdk_43_method_46_code (1 : Nat) (Option.some (Jvm.ClassFile.FieldType.array Jvm.ClassFile.FieldType.byte))).before args0 about1 = true := code_word (m := ⟨8, 2⟩) (meth := k8m2) (c := k8c2) (by decide +kernel) rfl rfl rfl (by decide +kernel)
set_option maxRecDepth 65536 in
theorem w_c4 : (Jvm.Cond.code ({ cls := "java/lang/String", name := "<init>", desc := "([BB)V" } : Jvm.MethodName) jdk_42_method_151_code (3 : Nat) (Option.none : Option Jvm.ClassFile.FieldType)).before args0 about1 = true := code_word (m := ⟨7, 2⟩) (meth := k7m2) (c := k7c2) (by decide +kernel) rfl rfl rfl (by decide +kernel)
set_option maxRecDepth 65536 in
theorem w_c5 : (Jvm.Cond.code ({ cls := "java/lang/Object", name := "<init>", desc := "()V" } : Jvm.MethodName) object_method_1_code (1 : Nat) (Option.none : Option Jvm.ClassFile.FieldType)).before args0 about1 = true := code_word (m := ⟨0, 0⟩) (meth := k0m0) (c := k0c0) (by decide +kernel) rfl rfl rfl (by decide +kernel)
set_option maxRecDepth 65536 in
theorem w_c6 : (Jvm.Cond.code ({ cls := "com/example/ferryflow/ferryflow/Message", name := "<init>", desc := "(Ljava/lang/String;JJJIJ)V" } : Jvm.MethodName) prog_32_method_1_code (11 : Nat) (Option.none : Option Jvm.ClassFile.FieldType)).before args0 about1 = true := code_word (m := ⟨10, 0⟩) (meth := k10m0) (c := k10c0) (by decide +kernel) rfl rfl rfl (by decide +kernel)
set_option maxRecDepth 65536 in
theorem w_c7 : (Jvm.Cond.code ({ cls := "java/lang/Record", name := "<init>", desc := "()V" } : Jvm.MethodName) jdk_30_method_1_code (1 : Nat) (Option.none : Option Jvm.ClassFile.FieldType)).before args0 about1 = true := code_word (m := ⟨9, 0⟩) (meth := k9m0) (c := k9c0) (by decide +kernel) rfl rfl rfl (by decide +kernel)
set_option maxRecDepth 65536 in
theorem w_c8 : (Jvm.Cond.code ({ cls := "com/example/ferryflow/ferryflow/Message", name := "weight", desc := "()J" } : Jvm.MethodName) prog_32_method_2_code (4 : Nat) (Option.some Jvm.ClassFile.FieldType.long)).before args0 about1 = true := code_word (m := ⟨10, 1⟩) (meth := k10m1) (c := k10c1) (by decide +kernel) rfl rfl rfl (by decide +kernel)
set_option maxRecDepth 65536 in
theorem w_c9 : (Jvm.Cond.code ({ cls := "com/example/ferryflow/ferryflow/MessageWeightPinLaw", name := "expected", desc := "(I)J" } : Jvm.MethodName) method_3_code (1 : Nat) (Option.some Jvm.ClassFile.FieldType.long)).before args0 about1 = true := code_word (m := ⟨1, 2⟩) (meth := k1m2) (c := k1c2) (by decide +kernel) rfl rfl rfl (by decide +kernel)
def codes1 : List Jvm.Cond := [Jvm.Cond.code x code maxLocals ret, Jvm.Cond.code ({ cls := "java/lang/String", name := "valueOf", desc := "(C)Ljava/lang/String;" } : Jvm.MethodName) jdk_42_method_139_code (1 : Nat) (Option.some (Jvm.ClassFile.FieldType.object "java/lang/String")), Jvm.Cond.code ({ cls := "java/lang/StringLatin1", name := "canEncode", desc := "(C)Z" } : Jvm.MethodName) jdk_43_method_3_code (1 : Nat) (Option.some Jvm.ClassFile.FieldType.boolean), Jvm.Cond.code ({ cls := "java/lang/StringLatin1", name := "toBytes", desc := "(C)[B" } : Jvm.MethodName) jdk_43_method_46_code (1 : Nat) (Option.some (Jvm.ClassFile.FieldType.array Jvm.ClassFile.FieldType.byte)), Jvm.Cond.code ({ cls := "java/lang/String", name := "<init>", desc := "([BB)V" } : Jvm.MethodName) jdk_42_method_151_code (3 : Nat) (Option.none : Option Jvm.ClassFile.FieldType), Jvm.Cond.code ({ cls := "java/lang/Object", name := "<init>", desc := "()V" } : Jvm.MethodName) object_method_1_code (1 : Nat) (Option.none : Option Jvm.ClassFile.FieldType), Jvm.Cond.code ({ cls := "com/example/ferryflow/ferryflow/Message", name := "<init>", desc := "(Ljava/lang/String;JJJIJ)V" } : Jvm.MethodName) prog_32_method_1_code (11 : Nat) (Option.none : Option Jvm.ClassFile.FieldType), Jvm.Cond.code ({ cls := "java/lang/Record", name := "<init>", desc := "()V" } : Jvm.MethodName) jdk_30_method_1_code (1 : Nat) (Option.none : Option Jvm.ClassFile.FieldType), Jvm.Cond.code ({ cls := "com/example/ferryflow/ferryflow/Message", name := "weight", desc := "()J" } : Jvm.MethodName) prog_32_method_2_code (4 : Nat) (Option.some Jvm.ClassFile.FieldType.long), Jvm.Cond.code ({ cls := "com/example/ferryflow/ferryflow/MessageWeightPinLaw", name := "expected", desc := "(I)J" } : Jvm.MethodName) method_3_code (1 : Nat) (Option.some Jvm.ClassFile.FieldType.long)]
set_option maxRecDepth 65536 in
theorem codes_eq : words1.filter isCode = codes1 := rfl
theorem w_codes : ∀ c ∈ words1.filter isCode, c.before args0 about1 = true := by
  rw [codes_eq]
  intro c hc
  simp only [codes1, List.mem_cons, List.not_mem_nil, or_false] at hc
  rcases hc with rfl | rfl | rfl | rfl | rfl | rfl | rfl | rfl | rfl | rfl
  · exact w_c0
  · exact w_c1
  · exact w_c2
  · exact w_c3
  · exact w_c4
  · exact w_c5
  · exact w_c6
  · exact w_c7
  · exact w_c8
  · exact w_c9
set_option maxRecDepth 65536 in
theorem w_t1 : (words1.take 24).all (fun c => isCode c || c.before args0 about1) = true := by decide +kernel
set_option maxRecDepth 65536 in
theorem w_t2 : ((words1.drop 24).take 24).all (fun c => isCode c || c.before args0 about1) = true := by decide +kernel
set_option maxRecDepth 65536 in
theorem w_t3 : ((words1.drop 24).drop 24).all (fun c => isCode c || c.before args0 about1) = true := by decide +kernel
theorem w_tables : (allAtoms (Jvm.Cond.code x code maxLocals ret :: tables_1)).before args0 about1 = true := by
  rw [allAtoms_all]
  show words1.all (fun c => c.before args0 about1) = true
  refine all_split ?_ w_codes
  rw [← List.take_append_drop 24 words1, List.all_append, w_t1, ← List.take_append_drop 24 (words1.drop 24), List.all_append, w_t2, w_t3]
  rfl
set_option maxRecDepth 65536 in
theorem w_rest : rest_1_c.before args0 about1 = true := by decide +kernel
set_option maxRecDepth 65536 in
theorem w_case : (Jvm.Cond.and given_1 narrow_1).before args0 about1 = true := by decide +kernel
theorem w_applies : (headSpec (Jvm.Cond.code x code maxLocals ret :: tables_1) room_1).applies x e0.platform about1 = true :=
  (Spec.applies_iff w_frames).mpr ⟨w_running, w_runnable, w_alone, w_named, w_hears, w_ripe, w_room, w_tables⟩
theorem atStart : AtStart classFile x code maxLocals ret World_1 tables_1 room_1 Calls_1 rest_1 Pre_1 launch0 p0 e0 about1 theMethod args0 below0 :=
  ⟨lists_1, trivial, launch0.admits_env _ _ _, launch0.least_env, fairChoices_fair.cas, fairChoices_fair.clock, w_frames, w_args, w_heap, w_applies, trivial, w_rest, w_case⟩
end start1
theorem witness_1 : WitnessClaimed_1 := ⟨start1.p0, start1.e0, start1.about1, start1.theMethod, start1.args0, start1.below0, start1.atStart⟩
end Jvm.Pilot.@@N@@
