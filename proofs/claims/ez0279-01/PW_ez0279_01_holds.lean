import PyProof.Rows.All
import Wide.All
import OpenK.AllK
import Wide.FinOn
import PySem.Challenge.RW_ez0279_01
set_option linter.all false
section
open PySem PySem.W PyProof.Rows
set_option Elab.async false
set_option maxRecDepth 100000
set_option maxHeartbeats 8000000
namespace Mine
def qa : PySem.Str := PySem.Str.ofString "q"
theorem qa_eq : qa = qa := rfl
name_quick tw17191575122626769432 for Mine.qa by Mine.qa_eq
name_quick tw14579298566041337835 for Mine.qa by Mine.qa_eq
name_quick tw6904023618060795501 for Mine.qa by Mine.qa_eq
name_quick tw2843041533407831187 for Mine.qa by Mine.qa_eq
name_quick tw2179934197727187165 for Mine.qa by Mine.qa_eq
name_quick tw990504104875123814 for Mine.qa by Mine.qa_eq
name_quick tw14842981644102349429 for Mine.qa by Mine.qa_eq
name_quick tw8770023094457601474 for Mine.qa by Mine.qa_eq
name_quick tw8899885622135869918 for Mine.qa by Mine.qa_eq
open_top hd for PySem.Challenge.rw_ez0279_01
end Mine
end
section
open PySem PySem.W PySem.Calls PyProof.Rows
set_option Elab.async false
namespace Mine

inductive Cell where
  | o (a : Addr) (x : Obj)
  | p (a : Addr) (P : Obj → Prop)
  | f (L : Addr) (ns : List Str) (vs : List (Option Value))
  | g (n : Nat) (gs : GenState)

def Cell.key : Cell → Bool × Nat
  | .o a _ => (true, a)
  | .p a _ => (true, a)
  | .f L _ _ => (true, L)
  | .g n _ => (false, n)

def locOf (ns : List Str) (vs : List (Option Value)) (y : Str) : Option Value := ((ns.zip vs).lookup y).join

def Cell.sat (b s : Shared) : Cell → Prop
  | .o a x => s.heap.get? a = some x ∧ b.heap.objs.size ≤ a
  | .p a P => (∃ x, s.heap.get? a = some x ∧ P x) ∧ b.heap.objs.size ≤ a
  | .f L ns vs => s.heap.Ns L (locOf ns vs) ∧ ns.Nodup ∧ ns.length = vs.length ∧ b.heap.objs.size ≤ L
  | .g n gs => s.gens[n]? = some gs

/-- the state: all of the base stands, and these cells stand apart -/
structure St (b s : Shared) (cs : List Cell) : Prop where
  keep : ∀ a o, b.heap.get? a = some o → s.heap.get? a = some o
  size : b.heap.objs.size ≤ s.heap.objs.size
  nod : (cs.map Cell.key).Nodup
  sat : ∀ c ∈ cs, c.sat b s
  bare : AllBare s.gens
  os : s.os = b.os

inductive At {α β : Type} : List α → List β → α → β → Prop
  | head {x : α} {v : β} {ns vs} : At (x :: ns) (v :: vs) x v
  | tail {x y : α} {v u : β} {ns vs} : At ns vs x v → At (y :: ns) (u :: vs) x v

/-- one value is put in another's place -/
inductive PutAt {α β : Type} : List α → List β → α → β → List β → Prop
  | head {x : α} {v u : β} {ns vs} : PutAt (x :: ns) (u :: vs) x v (v :: vs)
  | tail {x y : α} {v u : β} {ns vs vs'} : PutAt ns vs x v vs' → PutAt (y :: ns) (u :: vs) x v (u :: vs')

/-- one cell is put in another's place -/
inductive Sub1 (c c' : Cell) : List Cell → List Cell → Prop
  | head {r} : Sub1 c c' (c :: r) (c' :: r)
  | tail {d r r'} : Sub1 c c' r r' → Sub1 c c' (d :: r) (d :: r')

/-- the cell is there -/
inductive Has (c : Cell) : List Cell → Prop
  | head {r} : Has c (c :: r)
  | tail {d r} : Has c r → Has c (d :: r)
  | of {l} : c ∈ l → Has c l
theorem Has.mem {c : Cell} {l} (h : Has c l) : c ∈ l := by
  induction h with
  | head => exact .head _
  | tail _ ih => exact .tail _ ih
  | of h => exact h
theorem At.mem_zip {ns : List Str} {vs : List (Option Value)} {x v} (h : At ns vs x v) : x ∈ ns := by
  induction h with
  | head => exact .head _
  | tail _ ih => exact .tail _ ih
theorem At.loc {ns : List Str} {vs : List (Option Value)} {x v} (h : At ns vs x v) (hn : ns.Nodup) : locOf ns vs x = v := by
  induction h with
  | head => simp [locOf]
  | @tail x y v u ns vs h ih =>
    have hn' := List.nodup_cons.mp hn
    have : (x == y) = false := by
      rw [beq_eq_false_iff_ne]; rintro rfl; exact hn'.1 h.mem_zip
    simp only [locOf, List.zip_cons_cons, List.lookup_cons, this]
    exact ih hn'.2
theorem PutAt.length {ns : List Str} {vs vs' : List (Option Value)} {x v} (h : PutAt ns vs x v vs') : vs'.length = vs.length := by
  induction h with
  | head => rfl
  | tail _ ih => simp [ih]
theorem PutAt.mem {ns : List Str} {vs vs' : List (Option Value)} {x v} (h : PutAt ns vs x v vs') : x ∈ ns := by
  induction h with
  | head => exact .head _
  | tail _ ih => exact .tail _ ih
theorem PutAt.loc {ns : List Str} {vs vs' : List (Option Value)} {x v} (h : PutAt ns vs x v vs') (hn : ns.Nodup) (y : Str) : locOf ns vs' y = if y = x then v else locOf ns vs y := by
  induction h with
  | @head x v u ns vs =>
    by_cases q : y = x
    · subst q; simp [locOf]
    · have : (y == x) = false := by rw [beq_eq_false_iff_ne]; exact q
      simp [locOf, List.lookup_cons, this, q]
  | @tail x z v u ns vs vs' h ih =>
    have hn' := List.nodup_cons.mp hn
    by_cases q : y = z
    · subst q
      have : y ≠ x := by rintro rfl; exact hn'.1 h.mem
      simp [locOf, this]
    · have e : (y == z) = false := by rw [beq_eq_false_iff_ne]; exact q
      have := ih hn'.2
      simpa [locOf, List.lookup_cons, e] using this

theorem Sub1.split {c c' : Cell} {l l' : List Cell} (h : Sub1 c c' l l') : ∃ p r, l = p ++ c :: r ∧ l' = p ++ c' :: r := by
  induction h with
  | head => exact ⟨[], _, rfl, rfl⟩
  | tail _ ih => obtain ⟨p, r, rfl, rfl⟩ := ih; exact ⟨_ :: p, r, rfl, rfl⟩
theorem Sub1.mem {c c' : Cell} {l l' : List Cell} (h : Sub1 c c' l l') : c ∈ l := by
  obtain ⟨p, r, rfl, _⟩ := h.split; simp

section
variable {b s s' : Shared} {cs cs' : List Cell}
theorem St.mono (H : St b s cs) (hs : cs'.Sublist cs) : St b s cs' :=
  ⟨H.keep, H.size, H.nod.sublist (hs.map _), fun c hc => H.sat c (hs.subset hc), H.bare, H.os⟩
theorem St.perm (H : St b s cs) (hp : cs'.Perm cs) : St b s cs' :=
  ⟨H.keep, H.size, (hp.map Cell.key).nodup_iff.mpr H.nod, fun c hc => H.sat c (hp.subset hc), H.bare, H.os⟩
theorem St.obj {a : Addr} {x : Obj} (H : St b s cs) (h : .o a x ∈ cs) : s.heap.get? a = some x := (H.sat _ h).1
theorem St.fr {L : Addr} {ns vs} (H : St b s cs) (h : .f L ns vs ∈ cs) : Fr b.heap L s.heap (locOf ns vs) :=
  ⟨(H.sat _ h).1, H.keep, (H.sat _ h).2.2.2⟩
theorem St.nodup {L : Addr} {ns vs} (H : St b s cs) (h : .f L ns vs ∈ cs) : ns.Nodup := (H.sat _ h).2.1
/-- the heap stands where the gens, the tokens .. are others -/
theorem St.toks {t : Nat} (H : St b s cs) : St b { s with toks := t } cs := ⟨H.keep, H.size, H.nod, fun c hc => by have := H.sat c hc; cases c <;> exact this, H.bare, H.os⟩
theorem St.in_ {K : Frag} (X : K.In b.heap) (H : St b s cs) : K.In s.heap := X.keeps H.keep

/-- what a change at one address leaves: every cell of another key -/
theorem Cell.sat_but {a : Addr} {h' : Heap} {t : Nat} {c : Cell} (hc : c.sat b s) (hk : c.key ≠ (true, a)) (hs : Heap.SameBut a s.heap h') : c.sat b { s with heap := h', toks := t } := by
  cases c with
  | o a' x => exact ⟨(hs.2 a' (fun e => hk (by rw [e]; rfl))).trans hc.1, hc.2⟩
  | p a' P => obtain ⟨⟨x, h1, h2⟩, h3⟩ := hc; exact ⟨⟨x, (hs.2 a' (fun e => hk (by rw [e]; rfl))).trans h1, h2⟩, h3⟩
  | f L ns vs => exact ⟨hc.1.sameBut hs (fun e => hk (by rw [Cell.key, e])), hc.2⟩
  | g n gs => exact hc
theorem St.change {c c' : Cell} {a : Addr} {h' : Heap} {t : Nat} (H : St b s cs) (u : Sub1 c c' cs cs') (hk : c.key = (true, a)) (hk' : c'.key = (true, a)) (hb : b.heap.objs.size ≤ a) (hs : Heap.SameBut a s.heap h') (hc : c'.sat b { s with heap := h', toks := t }) : St b { s with heap := h', toks := t } cs' := by
  obtain ⟨p, r, rfl, rfl⟩ := u.split
  have nod := H.nod
  have e : (p ++ c' :: r).map Cell.key = (p ++ c :: r).map Cell.key := by simp [hk, hk']
  refine ⟨fun x o q => (hs.2 x (fun z => ?_)).trans (H.keep x o q), by have := hs.1; exact this ▸ H.size, by rw [e]; exact nod, fun d hd => ?_, H.bare, H.os⟩
  · have := Heap.lt_size q
    rw [z] at this
    exact absurd (Nat.lt_of_lt_of_le this hb) (Nat.lt_irrefl _)
  · have hne : ∀ d ∈ p ++ r, d.key ≠ (true, a) := by
      intro d hd q
      rw [List.map_append, List.map_cons, List.nodup_append] at nod
      have n2 := List.nodup_cons.mp nod.2.1
      rcases List.mem_append.mp hd with h1 | h1
      · exact nod.2.2 _ (List.mem_map_of_mem h1) _ (.head _) (by rw [q, hk])
      · exact n2.1 (by rw [hk, ← q]; exact List.mem_map_of_mem h1)
    rcases List.mem_append.mp hd with h1 | h1
    · exact Cell.sat_but (H.sat d (by simp [h1])) (hne d (by simp [h1])) hs
    · rcases List.mem_cons.mp h1 with rfl | h2
      · exact hc
      · exact Cell.sat_but (H.sat d (by simp [h2])) (hne d (by simp [h2])) hs
theorem Cell.key_lt {c : Cell} {a : Addr} (hc : c.sat b s) (hk : c.key = (true, a)) : a < s.heap.objs.size := by
  cases c with
  | o a' x => cases hk; exact Heap.lt_size hc.1
  | p a' P => obtain ⟨⟨x, h1, h2⟩, h3⟩ := hc; cases hk; exact Heap.lt_size h1
  | f L ns vs => cases hk; exact hc.1.lt
  | g n gs => cases hk
theorem Cell.base {c : Cell} {a : Addr} (hc : c.sat b s) (hk : c.key = (true, a)) : b.heap.objs.size ≤ a := by
  cases c with
  | o a' x => cases hk; exact hc.2
  | p a' P => cases hk; exact hc.2
  | f L ns vs => cases hk; exact hc.2.2.2
  | g n gs => cases hk
theorem Cell.size_of {c : Cell} (hc : c.sat b s) (h1 : c.key.1 = true) : b.heap.objs.size ≤ s.heap.objs.size := by
  have e : c.key = (true, c.key.2) := by rw [← h1]
  exact Nat.le_trans (Cell.base hc e) (Nat.le_of_lt (Cell.key_lt hc e))
/-- everything but one address stands, and more may have come -/
theorem Cell.sat_ext {a : Addr} {h' : Heap} {t : Nat} {c : Cell} (hc : c.sat b s) (hk : c.key ≠ (true, a)) (hs : ∀ x o, x ≠ a → s.heap.get? x = some o → h'.get? x = some o) : c.sat b { s with heap := h', toks := t } := by
  cases c with
  | o a' x => exact ⟨hs a' _ (fun e => hk (by rw [e]; rfl)) hc.1, hc.2⟩
  | p a' P => obtain ⟨⟨x, h1, h2⟩, h3⟩ := hc; exact ⟨⟨x, hs a' _ (fun e => hk (by rw [e]; rfl)) h1, h2⟩, h3⟩
  | f L ns vs => obtain ⟨⟨oL, a1, a2, hL, a3⟩, r⟩ := hc; exact ⟨⟨oL, a1, a2, hs _ _ (fun e => hk (by rw [e]; rfl)) hL, a3⟩, r⟩
  | g n gs => exact hc
theorem St.extBut {c : Cell} {a : Addr} {h' : Heap} {t : Nat} (H : St b s (c :: cs)) (hk : c.key = (true, a)) (hs : ∀ x o, x ≠ a → s.heap.get? x = some o → h'.get? x = some o) {d : Cell} (hd : Has d cs) (hd1 : d.key.1 = true := by rfl) : St b { s with heap := h', toks := t } cs := by
  have nod := List.nodup_cons.mp H.nod
  have hb : b.heap.objs.size ≤ a := Cell.base (H.sat c (.head _)) hk
  have key : ∀ d ∈ cs, d.sat b { s with heap := h', toks := t } := fun d hd => Cell.sat_ext (H.sat d (.tail _ hd)) (fun q => nod.1 (by rw [hk, ← q]; exact List.mem_map_of_mem hd)) hs
  refine ⟨fun x o q => hs x o (fun z => ?_) (H.keep x o q), Cell.size_of (key d hd.mem) hd1, nod.2, key, H.bare, H.os⟩
  have := Heap.lt_size q
  rw [z] at this
  exact absurd (Nat.lt_of_lt_of_le this hb) (Nat.lt_irrefl _)
  /- fun d hd => Cell.sat_ext (H.sat d (.tail _ hd)) (fun q => nod.1 ?_) hs, H.bare, H.os⟩
  · have := Heap.lt_size q
    rw [z] at this
    exact absurd (Nat.lt_of_lt_of_le this hb) (Nat.lt_irrefl _)
  · rw [hk, ← q]; exact List.mem_map_of_mem hd -/
theorem St.ext {h' : Heap} {t : Nat} (H : St b s cs) (hs : ∀ x o, s.heap.get? x = some o → h'.get? x = some o) {d : Cell} (hd : Has d cs) (hd1 : d.key.1 = true := by rfl) : St b { s with heap := h', toks := t } cs := by
  suffices key : ∀ d ∈ cs, d.sat b { s with heap := h', toks := t } from ⟨fun x o q => hs x o (H.keep x o q), Cell.size_of (key d hd.mem) hd1, H.nod, key, H.bare, H.os⟩
  clear hd hd1 d
  intro d hd
  have hc := H.sat d hd
  cases d with
  | o a' x => exact ⟨hs a' _ hc.1, hc.2⟩
  | p a' P => obtain ⟨⟨x, h1, h2⟩, h3⟩ := hc; exact ⟨⟨x, hs a' _ h1, h2⟩, h3⟩
  | f L ns vs => obtain ⟨⟨oL, a1, a2, hL, a3⟩, r⟩ := hc; exact ⟨⟨oL, a1, a2, hs _ _ hL, a3⟩, r⟩
  | g n gs => exact hc
theorem Cell.sat_push {o : Obj} {c : Cell} (hc : c.sat b s) : c.sat b { s with heap := s.heap.push o } := by
  cases c with
  | o a' x => exact ⟨Heap.get?_push_of_some _ hc.1, hc.2⟩
  | p a' P => obtain ⟨⟨x, h1, h2⟩, h3⟩ := hc; exact ⟨⟨x, Heap.get?_push_of_some _ h1, h2⟩, h3⟩
  | f L ns vs => obtain ⟨⟨oL, a1, a2, hL, a3⟩, r⟩ := hc; exact ⟨⟨oL, a1, a2, Heap.get?_push_of_some _ hL, a3⟩, r⟩
  | g n gs => exact hc
theorem St.push {o : Obj} (H : St b s cs) (hf : o.isFreed = false := by rfl) : St b { s with heap := s.heap.push o } (.o s.heap.objs.size o :: cs) := by
  refine ⟨fun x y q => Heap.get?_push_of_some _ (H.keep x y q), by rw [Heap.size_push]; exact Nat.le_succ_of_le H.size, ?_, fun d hd => ?_, H.bare, H.os⟩
  · rw [List.map_cons, List.nodup_cons]
    refine ⟨fun h => ?_, H.nod⟩
    obtain ⟨d, hd, e⟩ := List.mem_map.mp h
    exact absurd (Cell.key_lt (H.sat d hd) e) (Nat.lt_irrefl _)
  · rcases List.mem_cons.mp hd with rfl | h
    · exact ⟨Heap.get?_push_size _ hf, H.size⟩
    · exact Cell.sat_push (H.sat d h)
end

section
variable {prog : Program} {w : World} {A : Around} {E : Value → Shared → Prop} {b s : Shared} {cs cs' : List Cell} {K : Frag} {env : Env} {L : Addr} {ns : List Str} {vs vs' : List (Option Value)} {x : Str} {pos : Pos} {v : Value}

structure Base (K : Frag) (b : Shared) : Prop where
  X : K.In b.heap
  T : ∃ p loose mg mb, TopRead p loose mg mb b.heap
theorem Base.nolimit (B : Base K b) : b.heap.NoLimit := let ⟨_, _, _, _, T⟩ := B.T; T.nolimit
theorem Base.low (B : Base K b) : 3 < b.heap.objs.size := let ⟨_, _, _, _, T⟩ := B.T; T.g.lt
structure EnvIs (env : Env) (L : Addr) (names : List (Str × NameKind)) (cells : List (Str × Addr)) : Prop where
  loc : env.locals = L
  names : env.scope.names = names
  kind : env.scope.kind = .function
  globals : env.globals = mainGlobals
  builtins : env.builtins = builtinsNs
  cells : env.cells = cells
  frame : env.frame = some L
theorem EnvIs.kindOf {env : Env} {L : Addr} {names cells} (V : EnvIs env L names cells) {x : Str} {k : NameKind} (h : names.lookup x = some k) : env.kindOf x = some k := by
  unfold Env.kindOf; rw [V.names]; exact h
/-! names -/
theorem nm {nk : List (Str × NameKind)} {cl : List (Str × Addr)} {Q : Value → Shared → Prop} (V : EnvIs env L nk cl) (H : St b s cs) (hf : Has (.f L ns vs) cs) (hv : At ns vs x (some v)) (hl : nk.lookup x = some .local) (hd : (x == ("__debug__" : Str)) = false) (h : Q v s) :
    wpAny (model prog w) A (eval (.Name x pos) env) Q E s :=
  wpAny_Name (wpAny_loadName_local V.kind (V.kindOf hl) (V.loc ▸ (H.fr hf.mem).ns) (hv.loc (H.nodup hf.mem)) h) hd
theorem st_ {nk : List (Str × NameKind)} {cl : List (Str × Addr)} {Q : Unit → Shared → Prop} (V : EnvIs env L nk cl) (H : St b s cs) (hl : nk.lookup x = some .local) (u : Sub1 (.f L ns vs) (.f L ns vs') cs cs') (hv : PutAt ns vs x (some v) vs')
    (h : ∀ s', St b s' cs' → Q () s') :
    wpAny (model prog w) A (storeName env x v) Q E s := by
  have hm := u.mem
  have F := H.fr hm
  refine wpAny_storeName_local (V.kindOf hl) (V.loc.symm ▸ F.ns) (fun h' hn hs => ?_) (by rw [V.kind]; rfl)
  rw [V.loc] at hn hs
  refine h _ (H.change (t := s.toks + 1) u rfl rfl F.above hs ⟨?_, H.nodup hm, ?_, F.above⟩)
  · have e : locOf ns vs' = fun y => if y = x then some v else locOf ns vs y := funext fun y => hv.loc (H.nodup hm) y
    rw [e]; exact hn
  · rw [hv.length]; exact (H.sat _ hm).2.2.1

/-! the text's own globals: straight from what is written of the globals' dict -/
theorem glob {nk : List (Str × NameKind)} {cl : List (Str × Addr)} {Q : Value → Shared → Prop} (B : Base K b) (V : EnvIs env L nk cl) (H : St b s cs) (hx : nk.lookup x = some .globalImplicit) (e : nsIn K mainGlobals x = some (some v)) (hd : (x == ("__debug__" : Str)) = false) (h : Q v s) :
    wpAny (model prog w) A (eval (.Name x pos) env) Q E s :=
  let ⟨_, _, _, _, T⟩ := B.T
  have X := B.X
  Name_function_global V.kind (V.kindOf hx) (loadGlobal_global (env := env) (V.globals.symm ▸ T.g.keeps H.keep) (mg_of X T.g e) h) hd
theorem builtin {nk : List (Str × NameKind)} {cl : List (Str × Addr)} {Q : Value → Shared → Prop} (B : Base K b) (V : EnvIs env L nk cl) (H : St b s cs) (hx : nk.lookup x = some .globalImplicit) (e : nsIn K mainGlobals x = some none) (hv : bootBuiltins x = some v) (hn : x ≠ "__name__") (hd : (x == ("__debug__" : Str)) = false) (h : Q v s) :
    wpAny (model prog w) A (eval (.Name x pos) env) Q E s :=
  let ⟨_, _, _, _, T⟩ := B.T
  have X := B.X
  Name_function_global V.kind (V.kindOf hx) (loadGlobal_builtin (env := env) (V.globals.symm ▸ T.g.keeps H.keep) (mg_none_of X T.g e) (V.builtins.symm ▸ T.b.keeps H.keep) ((T.builtins x hn).trans hv) h) hd

/-! attributes -/
theorem inst_ {h : Heap} {x C dx : Addr} {d : Data} {sl : Array (Option Value)} {od : Obj} (e : h.get? x = some ⟨.ref C, some dx, d, sl⟩) (hn : notCls ⟨.ref C, some dx, d, sl⟩ = true) (e2 : h.get? dx = some od) : W.InstAt h x ⟨.ref C, some dx, d, sl⟩ C (some od) := ⟨e, rfl, hn, e2⟩
theorem found_data {od : Option Obj} {C : Addr} {name : Str} {a g : Value} (hc : (clsIn K C).isSome = true) (ha : findIn K (.ref C) name = some (some a)) (hg : specialIn K a "__get__" = some (some g)) (ht : takesIn K a = some true) : findObj K C od name = some (.bind g a) := by
  obtain ⟨cd, hc⟩ := Option.isSome_iff_exists.mp hc
  unfold findObj
  rw [hc, Option.bind_some, ha, Option.bind_some]
  simp [hg, ht]
/-- an attribute that a slot of the class holds -/
structure SlotOf (K : Frag) (C : Addr) (name : Str) (p : Addr) (i : Nat) : Prop where
  plain : plainGet K C name = true
  cls : isClsIn K C = true
  find : findIn K (.ref C) name = some (some (.ref p))
  get : specialIn K (.ref p) "__get__" = some (some (.builtin "member_descriptor.__get__"))
  takes : takesIn K (.ref p) = some true
  slot : slotIn K p C = some i
theorem attr_slot {name : Str} {a C p dx : Addr} {i : Nat} {d : Data} {sl : Array (Option Value)} {od : Obj} {expr : Bool} {Q : Value → Shared → Prop} (B : Base K b) (S : SlotOf K C name p i) (H : St b s cs) (hm : Has (.o a ⟨.ref C, some dx, d, sl⟩) cs) (hn : notCls ⟨.ref C, some dx, d, sl⟩ = true) (hd : Has (.o dx od) cs)
    (hv : (sl[i]?).join = some v) (hh : handedIn v = true) (h : ∀ s', St b s' cs → Q v s') :
    wpAny (model prog w) A (getAttr (.ref a) name expr) Q E s := by
  have I := inst_ (H.obj hm.mem) hn (H.obj hd.mem)
  have X' := H.in_ B.X
  exact get_bind X' I (plainGet_of S.plain).1 (found_data S.cls S.find S.get S.takes) (plainGet_of S.plain).2
    (wpAny_call (slot_get (s := { s with toks := s.toks + 1 }) X' I S.slot hv (handed_on hh (h _ H.toks))))

/-! a call of a def -/
theorem loc_binds {binds : List (Str × Value)} {rest : List Str} (h : (binds.map (·.1) ++ rest).Nodup) :
    locOf (binds.map (·.1) ++ rest) (binds.map (fun y => some y.2) ++ rest.map fun _ => none) = fun x => binds.reverse.lookup x := by
  have key : ∀ (l : List (Str × Value)) (x : Str) (rest : List Str), (l.map (·.1) ++ rest).Nodup → locOf (l.map (·.1) ++ rest) (l.map (fun y => some y.2) ++ rest.map fun _ => none) x = l.lookup x := by
    intro l
    induction l with
    | nil =>
      intro x rest _
      unfold locOf
      induction rest with
      | nil => rfl
      | cons y r ih =>
        simp only [List.map_nil, List.nil_append, List.map_cons, List.zip_cons_cons, List.lookup_cons] at ih ⊢
        split <;> simp_all
    | cons y r ih =>
      intro x rest hn
      obtain ⟨k, v⟩ := y
      have hn' := List.nodup_cons.mp hn
      have := ih x rest hn'.2
      simp only [locOf, List.map_cons, List.cons_append, List.zip_cons_cons, List.lookup_cons] at this ⊢
      split
      · rfl
      · exact this
  have rev : ∀ (l : List (Str × Value)) (x : Str), (l.map (·.1)).Nodup → l.reverse.lookup x = l.lookup x := by
    intro l x
    induction l with
    | nil => intro _; rfl
    | cons y r ih =>
      intro hn
      obtain ⟨k, v⟩ := y
      have hn' := List.nodup_cons.mp hn
      rw [List.reverse_cons, List.lookup_append, ih hn'.2]
      by_cases q : x = k
      · subst q
        have : r.lookup x = none := by
          rw [List.lookup_eq_none_iff]
          intro p hp
          rw [bne_iff_ne]
          intro e
          exact hn'.1 (List.mem_map.mpr ⟨p, hp, e.symm⟩)
        simp [this]
      · have : (x == k) = false := by rw [beq_eq_false_iff_ne]; exact q
        have e1 : List.lookup x [(k, v)] = none := by rw [List.lookup_cons, this]; rfl
        have e2 : List.lookup x ((k, v) :: r) = r.lookup x := by rw [List.lookup_cons, this]
        rw [e1, e2]
        cases r.lookup x <;> rfl
  funext x
  rw [key binds x rest h, rev]
  exact (List.nodup_append.mp h).1
def bindsOf (ns : List Str) (vs : List (Option Value)) : List (Str × Value) := (ns.zip vs).filterMap fun p => p.2.map fun v => (p.1, v)
theorem loc_bindsOf : ∀ (ns : List Str) (vs : List (Option Value)), ns.Nodup → ns.length = vs.length → (fun x => (bindsOf ns vs).reverse.lookup x) = locOf ns vs := by
  have mem : ∀ (ns : List Str) (vs : List (Option Value)) (p : Str × Value), p ∈ bindsOf ns vs → p.1 ∈ ns := by
    intro ns vs p hp
    obtain ⟨q, hq, e⟩ := List.mem_filterMap.mp hp
    obtain ⟨u, _, rfl⟩ := Option.map_eq_some_iff.mp e
    exact (List.of_mem_zip hq).1
  intro ns
  induction ns with
  | nil => intro vs _ _; funext x; rfl
  | cons k ns ih =>
    intro vs hn hl
    cases vs with
    | nil => cases hl
    | cons ov vs =>
      have hn' := List.nodup_cons.mp hn
      have := ih vs hn'.2 (Nat.succ.inj hl)
      funext x
      have ix := congrFun this x
      cases ov with
      | none =>
        have e : bindsOf (k :: ns) (none :: vs) = bindsOf ns vs := rfl
        rw [e, ix]
        by_cases q : x = k
        · subst q
          have : (bindsOf ns vs).reverse.lookup x = none := by
            rw [List.lookup_eq_none_iff]
            intro p hp
            rw [bne_iff_ne]
            rintro rfl
            exact hn'.1 (mem _ _ _ (List.mem_reverse.mp hp))
          rw [← ix, this]
          simp [locOf]
        · have e1 : (x == k) = false := by rw [beq_eq_false_iff_ne]; exact q
          simp [locOf, List.lookup_cons, e1]
      | some v =>
        have e : bindsOf (k :: ns) (some v :: vs) = (k, v) :: bindsOf ns vs := rfl
        rw [e, List.reverse_cons, List.lookup_append, ix]
        by_cases q : x = k
        · subst q
          have : locOf ns vs x = none := by
            rw [← ix, List.lookup_eq_none_iff]
            intro p hp
            rw [bne_iff_ne]
            rintro rfl
            exact hn'.1 (mem _ _ _ (List.mem_reverse.mp hp))
          rw [this]
          simp [locOf]
        · have e1 : (x == k) = false := by rw [beq_eq_false_iff_ne]; exact q
          have e2 : List.lookup x [(k, v)] = none := by rw [List.lookup_cons, e1]; rfl
          rw [e2]
          simp [locOf, List.lookup_cons, e1]
theorem locsN {nk : List (Str × NameKind)} {binds : List (Str × Value)} (h : (binds.all fun x => nk.lookup x.1 == some NameKind.local) = true) : ∀ x ∈ binds, nk.lookup x.1 = some .local := fun x hx => beq_iff_eq.mp (List.all_eq_true.mp h x hx)
/-- what is written of a def -/
structure FnAt (K : Frag) (f : Addr) (fd : FuncData) (body : List Stmt) : Prop where
  look : ∃ oc od osl, K.lookup f = some ⟨oc, od, .func fd, osl⟩
  code : codeIn K fd.code fd.qualname = true
  body : fd.body = .stmts body
  kind : fd.scope.kind = .function
  co : fd.scope.isCoroutine = false
  globals : fd.globals = mainGlobals
  builtins : fd.builtins = builtinsNs
  closure : fd.closure = []
theorem enter {R : Result → Shared → Prop} {fd : FuncData} {body : List Stmt} {f : Addr} {args : Args} {nk : List (Str × NameKind)} (Fn : FnAt K f fd body) (hnk : fd.scope.names = nk) (ns : List Str) (vs : List (Option Value))
    (B : Base K b) (H : St b s cs) (hr : A.depth < recursionLimit) (hbind : BindsTo s fd args (bindsOf ns vs))
    (hcell : ∀ x ∈ nk, x.2 ≠ .cell) (hloc : ∀ x ∈ bindsOf ns vs, nk.lookup x.1 = some .local) (hnd : ns.Nodup) (hlen : ns.length = vs.length) (hgen : fd.scope.isGenerator = false)
    (h : ∀ s' L env, EnvIs env L nk [] → St b s' (.f L ns vs :: cs) →
      wpAny (model prog w) (A.deeper env) (execs body env) (fun fl s' => R (.ok (.ret (match fl with | .ret v => v | _ => .none))) s')
        (fun e s' => wpAny (model prog w) (A.deeper env) (leaving env e) (fun _ s'' => R (.error e) s'') (fun e' s'' => R (.error e') s'') s') s') :
    codeAny (model prog w) A (.call (.ref f) args) R s := by
  have X' := H.in_ B.X
  obtain ⟨oc, od, osl, ho⟩ := Fn.look
  subst hnk
  refine codeAny_call_def hr (X' _ _ ho) rfl (B.nolimit.keeps H.keep) (codeRec_of X' Fn.code) Fn.body hbind hcell hloc (fun h₁ hns hk₁ => h _ s.heap.objs.size _ ⟨rfl, rfl, Fn.kind, Fn.globals, Fn.builtins, Fn.closure, rfl⟩ ?_) Fn.co hgen Fn.kind
  have below : ∀ c ∈ cs, c.key ≠ (true, s.heap.objs.size) := fun c hc q => absurd (Cell.key_lt (H.sat c hc) q) (Nat.lt_irrefl _)
  refine ⟨fun a o q => hk₁ _ _ (H.keep a o q), Nat.le_of_lt (Nat.lt_of_le_of_lt H.size hns.lt), ?_, fun c hc => ?_, H.bare, H.os⟩
  · rw [List.map_cons, List.nodup_cons]
    exact ⟨fun q => let ⟨c, hc, e⟩ := List.mem_map.mp q; below c hc e, H.nod⟩
  · rcases List.mem_cons.mp hc with rfl | hc
    · exact ⟨by rw [← loc_bindsOf ns vs hnd hlen]; exact hns, hnd, hlen, H.size⟩
    · have hs := H.sat c hc
      cases c with
      | o a x => exact ⟨hk₁ _ _ hs.1, hs.2⟩
      | p a P => obtain ⟨⟨x, h1, h2⟩, h3⟩ := hs; exact ⟨⟨x, hk₁ _ _ h1, h2⟩, h3⟩
      | f L ns vs => obtain ⟨⟨oL, a1, a2, hL, a3⟩, r⟩ := hs; exact ⟨⟨oL, a1, a2, hk₁ _ _ hL, a3⟩, r⟩
      | g n gs => exact hs
/-- where nothing is raised -/
theorem enterN {R : Result → Shared → Prop} {fd : FuncData} {body : List Stmt} {f : Addr} {args : Args} {nk : List (Str × NameKind)} (Fn : FnAt K f fd body) (hnk : fd.scope.names = nk) (ns : List Str) (vs : List (Option Value))
    (B : Base K b) (H : St b s cs) (hr : A.depth < recursionLimit) (hbind : BindsTo s fd args (bindsOf ns vs))
    (hcell : ∀ x ∈ nk, x.2 ≠ .cell) (hloc : ∀ x ∈ bindsOf ns vs, nk.lookup x.1 = some .local) (hnd : ns.Nodup) (hlen : ns.length = vs.length) (hgen : fd.scope.isGenerator = false)
    (h : ∀ s' L env, EnvIs env L nk [] → St b s' (.f L ns vs :: cs) →
      wpAny (model prog w) (A.deeper env) (execs body env) (fun fl s' => R (.ok (.ret (match fl with | .ret v => v | _ => .none))) s') (fun _ _ => False) s') :
    codeAny (model prog w) A (.call (.ref f) args) R s :=
  enter Fn hnk ns vs B H hr hbind hcell hloc hnd hlen hgen fun s' L env V H' => wpAny_mono (h s' L env V H') (fun _ _ x => x) fun _ _ x => x.elim
/-- cells are taken out of the list, in another order; some are left -/
inductive Rem (c : Cell) : List Cell → List Cell → Prop
  | head {r} : Rem c (c :: r) r
  | tail {d r r'} : Rem c r r' → Rem c (d :: r) (d :: r')
theorem Rem.perm {c : Cell} {l l'} (h : Rem c l l') : l.Perm (c :: l') := by
  induction h with
  | head => exact .refl _
  | tail _ ih => exact (ih.cons _).trans (.swap ..)
inductive Pick : List Cell → List Cell → Prop
  | all {l} : Pick l l
  | take {c l l' r} : Rem c l l' → Pick l' r → Pick l (c :: r)
  | skip {c l r} : Pick l r → Pick (c :: l) r
theorem St.pick {b s : Shared} {l r : List Cell} (h : Pick l r) (H : St b s l) : St b s r := by
  have key : ∀ {l r : List Cell}, Pick l r → ∃ m : List Cell, m.Perm l ∧ r.Sublist m := by
    intro l r h
    induction h with
    | @all l => exact ⟨l, .refl _, .refl _⟩
    | @take c l l' r hr _ ih =>
      obtain ⟨m, hm, hs⟩ := ih
      exact ⟨c :: m, (hm.cons c).trans hr.perm.symm, hs.cons₂ c⟩
    | @skip c l r _ ih =>
      obtain ⟨m, hm, hs⟩ := ih
      exact ⟨c :: m, hm.cons c, hs.cons c⟩
  obtain ⟨m, hm, hs⟩ := key h
  exact (H.perm hm).mono hs
end
end Mine
end
section
open PySem PySem.W PySem.Calls PyProof.Rows
set_option Elab.async false
namespace Mine
section
variable {prog : Program} {w : World} {A : Around} {E : Value → Shared → Prop} {b s : Shared} {cs cs' : List Cell} {K : Frag} {env : Env} {L : Addr} {ns : List Str} {vs vs' : List (Option Value)} {x : Str} {pos : Pos} {v : Value}

/-! loops -/
theorem forName {R : Result → Shared → Prop} {xp : Pos} {it : Value} {body : List Stmt} (I : Nat → Shared → Prop)
    (turn : ∀ n s, I n s → wpAny (model prog w) A (pyNext it) (fun r s₁ => match r with
      | none => R (.ok .next) s₁
      | some v => wpAny (model prog w) A (storeName env x v) (fun _ s₂ => wpAny (model prog w) A (execs body env) (fun f s₃ => match f with
            | .next | .cont => ∃ m, m < n ∧ I m s₃
            | .brk => R (.ok .next) s₃
            | .ret v => R (.ok (.ret v)) s₃) (fun _ _ => False) s₂) (fun _ _ => False) s₁) (fun _ _ => False) s)
    (n : Nat) (h : I n s) : codeAny (model prog w) A (.forLoop (.Name x xp) it body [] env) R s := by
  refine codeAny_forLoop_any I (fun n s hI => wpAny_mono (turn n s hI) (fun r s₁ h₁ => ?_) fun _ _ z => z.elim) n h
  cases r with
  | none => exact wpAny_execs_nil h₁
  | some v =>
    refine wpAny_of_eq (rfl : letOwnedTupleGo (.Name x xp) it v = pure ()) ?_
    exact PyProof.Rows.assign_Name (wpAny_mono h₁ (fun _ s₂ h₂ => wpAny_mono h₂ (fun f s₃ h₃ => by cases f <;> exact h₃) fun _ _ z => z.elim) fun _ _ z => z.elim)

/-! a text, sign by sign -/
abbrev StrIt (x : Str) (t : Tok) (i : Nat) (o : Obj) : Prop := o.cls = .type "str_ascii_iterator" ∧ o.data = .fields #[.str x t, .int i 0]
theorem iterStr {t : Tok} {Q : Value → Shared → Prop} {x : Str} (H : St b s cs) (ha : (x.cps.all fun c => decide (c < 128)) = true) (h : ∀ s' it, St b s' (.p it (StrIt x t 0) :: cs) → Q (.ref it) s') :
    wpAny (model prog w) A (pyIter (.str x t)) Q E s := by
  refine wpAny_pyIter_ascii ha (h _ s.heap.objs.size ?_)
  have := H.push (o := { cls := .type "str_ascii_iterator", data := .fields #[.str x t, .int 0 0] })
  refine ⟨this.keep, this.size, this.nod, fun c hc => ?_, this.bare, this.os⟩
  rcases List.mem_cons.mp hc with rfl | h
  · have := this.sat _ (.head _); exact ⟨⟨_, this.1, rfl, rfl⟩, this.2⟩
  · exact this.sat _ (.tail _ h)
theorem nextStr {t : Tok} {it : Addr} {i c : Nat} {x : Str} {Q : Option Value → Shared → Prop} (H : St b s cs) (u : Sub1 (.p it (StrIt x t i)) (.p it (StrIt x t (i + 1))) cs cs') (hx : x.cps[i]? = some c)
    (h : ∀ s' tk, St b s' cs' → Q (some (.str ⟨#[c]⟩ tk)) s') : wpAny (model prog w) A (pyNext (.ref it)) Q E s := by
  have hs := H.sat _ u.mem
  obtain ⟨⟨o, ho, h1, h2⟩, hb⟩ := hs
  exact wpAny_pyNext_ascii_item ⟨o, ho, h1, h2⟩ hx fun h' hi hsb => h _ _ (H.change u rfl rfl hb hsb ⟨let ⟨o, a, b, c⟩ := hi; ⟨o, a, b, c⟩, hb⟩)
theorem endStr {t : Tok} {it : Addr} {i : Nat} {x : Str} {Q : Option Value → Shared → Prop} (hh : A.handled = none) (H : St b s (.p it (StrIt x t i) :: cs)) (hx : x.cps[i]? = none) {d : Cell} (hd : Has d cs) (hd1 : d.key.1 = true)
    (h : ∀ s', St b s' cs → Q none s') : wpAny (model prog w) A (pyNext (.ref it)) Q E s := by
  obtain ⟨⟨o, ho, h1, h2⟩, hb⟩ := H.sat _ (.head _)
  exact wpAny_pyNext_ascii_end hh ⟨o, ho, h1, h2⟩ hx fun h' hsb => h _ (H.extBut (t := s.toks) rfl hsb hd hd1)

/-! methods -/
/-- a def, or a built-in's method, that a class holds under a name -/
structure MethOf (K : Frag) (C : Addr) (name : Str) (f : Value) (gid : String) (t : Value) : Prop where
  ga : findIn K (.ref C) "__getattribute__" = some (some (.builtin gid))
  canon : (Manifest.canonical gid != "object.__getattribute__") = false
  hook : findIn K (.ref C) "__getattr__" = some none
  find : findIn K (.ref C) name = some (some f)
  ty : typeIn K f = some t
  bare : (t != .type "function" && t != .type "method_descriptor" && t != .type "wrapper_descriptor") = false
theorem meth_ {name : Str} {a C : Addr} {f t : Value} {gid : String} {ox od : Obj} {pl : Sem Bool} {Q : Value × List Value → Shared → Prop} (X : K.In s.heap) (S : MethOf K C name f gid t) (I : W.InstAt s.heap a ox C (some od)) (hs : lookIn name od = some none)
    (h : Q (f, [.ref a]) s) : wpAny (model prog w) A (getMethod (.ref a) name pl) Q E s := by
  unfold getMethod specialOf
  refine wpAny_bind (wpAny_bind (I.type.here ((looks_findIn X S.ga).here ?_)))
  dsimp only
  rw [S.canon, if_neg (by decide)]
  refine wpAny_bind (wpAny_bind (I.type.here ((looks_findIn X S.hook).here ?_)))
  refine wpAny_bind (wpAny_bind (I.type.here ((looks_findIn X S.find).here (wpAny_bind ((looks_typeIn X S.ty).here ?_)))))
  rw [S.bare, if_neg (by decide)]
  refine wpAny_bind (wpAny_loadPart I.at_ ?_)
  have hd := I.dict
  cases e : ox.dict with
  | none => exact wpAny_bind (wpAny_rule (wpAny_pure h))
  | some dx =>
    rw [e] at hd
    refine wpAny_bind (wpAny_bind (wpAny_loadPart hd ?_))
    rw [nsLook_of hs]
    exact wpAny_pure (wpAny_bind (wpAny_rule (wpAny_pure h)))
theorem meth {name : Str} {a C dx : Addr} {f t : Value} {gid : String} {d : Data} {sl : Array (Option Value)} {od : Obj} {pl : Sem Bool} {Q : Value × List Value → Shared → Prop} (B : Base K b) (S : MethOf K C name f gid t) (H : St b s cs) (hm : Has (.o a ⟨.ref C, some dx, d, sl⟩) cs)
    (hn : notCls ⟨.ref C, some dx, d, sl⟩ = true) (hd : Has (.o dx od) cs) (hs : lookIn name od = some none) (h : Q (f, [.ref a]) s) : wpAny (model prog w) A (getMethod (.ref a) name pl) Q E s :=
  meth_ (H.in_ B.X) S (inst_ (H.obj hm.mem) hn (H.obj hd.mem)) hs h
/-- the same of an object that the text's top has laid -/
theorem methTop {name : Str} {a C dx : Addr} {f t : Value} {gid : String} {d : Data} {sl : Array (Option Value)} {od : Obj} {pl : Sem Bool} {Q : Value × List Value → Shared → Prop} (B : Base K b) (S : MethOf K C name f gid t) (H : St b s cs) (hm : K.lookup a = some ⟨.ref C, some dx, d, sl⟩)
    (hn : notCls ⟨.ref C, some dx, d, sl⟩ = true) (hd : K.lookup dx = some od) (hs : lookIn name od = some none) (h : Q (f, [.ref a]) s) : wpAny (model prog w) A (getMethod (.ref a) name pl) Q E s :=
  meth_ (H.in_ B.X) S (inst_ (H.in_ B.X _ _ hm) hn (H.in_ B.X _ _ hd)) hs h

/-- an attribute that the object's own dict holds -/
structure OwnOf (K : Frag) (C : Addr) (name : Str) : Prop where
  plain : plainGet K C name = true
  dict : hasDictIn K C = true
  find : findIn K (.ref C) name = some none
theorem attr_own {name : Str} {a C dx : Addr} {sl : Array (Option Value)} {es : List DictEntry} {n : Nat} {v : Value} {expr : Bool} {Q : Value → Shared → Prop} (B : Base K b) (S : OwnOf K C name) (H : St b s cs) (hm : Has (.o a ⟨.ref C, some dx, .plain, sl⟩) cs) (hd : Has (.o dx (dictOf es n)) cs)
    (hv : getL name es = some (some v)) (hh : handedIn v = true) (h : ∀ s', St b s' cs → Q v s') : wpAny (model prog w) A (getAttr (.ref a) name expr) Q E s := by
  have X' := H.in_ B.X
  have I := inst_ (H.obj hm.mem) rfl (H.obj hd.mem)
  exact get_value X' I (plainGet_of S.plain).1 (findObj_own S.dict S.find rfl hv) hh (h _ H.toks)

/-- «in» of an object whose class has a def for it -/
theorem in_own {a C f dx : Addr} {sl : Array (Option Value)} {d : Data} {od : Obj} {v : Value} {Q : Value → Shared → Prop} (B : Base K b) (S : findIn K (.ref C) "__contains__" = some (some (.ref f))) (S2 : isFn K (.ref f) = true) (H : St b s cs) {ns vs} (hf : Has (.f L ns vs) cs) (hm : Has (.o a ⟨.ref C, some dx, d, sl⟩) cs) (hn : notCls ⟨.ref C, some dx, d, sl⟩ = true) (hd : Has (.o dx od) cs)
    (h : wpAny (model prog w) A (call (.ref f) [.ref a, v]) (fun r s' => wpAny (model prog w) A (truthy r) (fun b => Q (.bool b)) E s') E s) : wpAny (model prog w) A (compareOp .In v (.ref a)) Q E s :=
  in_K (H.fr hf.mem) B.X (inst_ (H.obj hm.mem) hn (H.obj hd.mem)) S S2 h
theorem notIn_own {a C f dx : Addr} {sl : Array (Option Value)} {d : Data} {od : Obj} {v : Value} {Q : Value → Shared → Prop} (B : Base K b) (S : findIn K (.ref C) "__contains__" = some (some (.ref f))) (S2 : isFn K (.ref f) = true) (H : St b s cs) {ns vs} (hf : Has (.f L ns vs) cs) (hm : Has (.o a ⟨.ref C, some dx, d, sl⟩) cs) (hn : notCls ⟨.ref C, some dx, d, sl⟩ = true) (hd : Has (.o dx od) cs)
    (h : wpAny (model prog w) A (call (.ref f) [.ref a, v]) (fun r s' => wpAny (model prog w) A (truthy r) (fun b => Q (.bool !b)) E s') E s) : wpAny (model prog w) A (compareOp .NotIn v (.ref a)) Q E s :=
  notIn_K (H.fr hf.mem) B.X (inst_ (H.obj hm.mem) hn (H.obj hd.mem)) S S2 h

/-! calls of what the top has laid -/
theorem callK0 {f : Value} {first : List Value} {Q : Value → Shared → Prop} (B : Base K b) (H : St b s cs) (hk : keepIn K f = true) (h : wpAny (model prog w) A (call f (first ++ [])) Q E s) :
    wpAny (model prog w) A (callWith pos f first (backTo pos (starEach [] env)) []) Q E s := callWith_K0 (H.in_ B.X) hk h
theorem callK {f : Value} {first : List Value} {e : Expr} {rest : List Expr} {Q : Value → Shared → Prop} (B : Base K b) (H : St b s cs) (hk : keepIn K f = true)
    (he : starEach (e :: rest) env = (false, eval e env) :: starEach rest env) (hplain : (backTo pos (starEach rest env)).any (·.1) = false)
    (h : wpAny (model prog w) A (spliced (backTo pos (starEach (e :: rest) env))) (fun vs s₁ => (∃ cs', St b s₁ cs') ∧ wpAny (model prog w) A (call f (first ++ vs)) Q E s₁) E s) :
    wpAny (model prog w) A (callWith pos f first (backTo pos (starEach (e :: rest) env)) []) Q E s :=
  callWith_K (H.in_ B.X) hk (wpAny_mono h (fun _ _ ⟨⟨_, H'⟩, z⟩ => ⟨H'.in_ B.X, z⟩) fun _ _ z => z) he hplain

/-! constants -/
theorem kInt {i : Int} {k : Nat} {Q : Value → Shared → Prop} (H : St b s cs) (h : ∀ s' t, St b s' cs → Q (.int i t) s') : wpAny (model prog w) A (eval (.Constant (.int i) k pos) env) Q E s := wpAny_Constant_int (h _ _ H.toks)
theorem kStr {i : Str} {k : Nat} {Q : Value → Shared → Prop} (H : St b s cs) (h : ∀ s' t, St b s' cs → Q (.str i t) s') : wpAny (model prog w) A (eval (.Constant (.str i) k pos) env) Q E s := Calls.Constant_str (h _ _ H.toks)

/-! is -/
theorem isSelf {a : Addr} {Q : Value → Shared → Prop} (h : Q (.bool true) s) : wpAny (model prog w) A (compareOp .Is (.ref a) (.ref a)) Q E s := wpAny_is_ref_self h
theorem isntSelf {a : Addr} {Q : Value → Shared → Prop} (h : Q (.bool false) s) : wpAny (model prog w) A (compareOp .IsNot (.ref a) (.ref a)) Q E s := wpAny_isNot_ref_self h
end
end Mine
end
section
open PySem PySem.W PySem.Calls PyProof.Rows
set_option Elab.async false
namespace Mine
/-- the addresses that the text's own top has laid -/
structure Adr where
  nc : Addr
  noval : Addr
  cNode : Addr
  cOne : Addr
  cMany : Addr
/-- how a node holds its children -/
inductive Kd where
  | no
  | one (a dx : Addr)
  | many (a dx : Addr) (ep : Nat)
/-- the children of a node: letter, the key's token, the child's address, its value, its own children -/
inductive Fo where
  | nil
  | cons (k : Nat) (tk : Tok) (a dx : Addr) (v : Value) (kd : Kd) (ch : Fo) (rest : Fo)
structure Nd where
  a : Addr
  dx : Addr
  v : Value
  kd : Kd
  ch : Fo

abbrev letter (k : Nat) : Str := ⟨#[k]⟩
def Fo.ents : Fo → List (Nat × Tok × Addr)
  | .nil => []
  | .cons k tk a _ _ _ _ r => (k, tk, a) :: r.ents
def Fo.keys : Fo → List Nat
  | .nil => []
  | .cons k _ _ _ _ _ _ r => k :: r.keys
theorem Fo.keys_eq : ∀ f : Fo, f.keys = f.ents.map (·.1)
  | .nil => rfl
  | .cons k tk a dx v kd ch r => by simp [Fo.keys, Fo.ents, r.keys_eq]
def Fo.look (x : Nat) : Fo → Option Nd
  | .nil => none
  | .cons k _ a dx v kd ch r => if k = x then some ⟨a, dx, v, kd, ch⟩ else r.look x
def Nd.find (n : Nd) : List Nat → Option Nd
  | [] => some n
  | x :: w => (n.ch.look x).bind (Nd.find · w)

section
variable (P : Params) (D : Adr)
def chVal : Kd → Value
  | .no => .ref D.nc
  | .one a _ => .ref a
  | .many a _ _ => .ref a
abbrev nodeObj (dx : Addr) (c v : Value) : Obj := ⟨.ref D.cNode, some dx, .plain, #[some c, some v]⟩
abbrev oneObj (dx : Addr) (nd st : Value) : Obj := ⟨.ref D.cOne, some dx, .plain, #[some nd, some st]⟩
abbrev manyObj (dx : Addr) (es : List DictEntry) (ep : Nat) : Obj := ⟨.ref D.cMany, some dx, .dict es.toArray ep, #[]⟩
abbrev noDict : Obj := ⟨.type "dict", none, .dict #[] 0, #[]⟩
def entOf (e : Nat × Tok × Addr) : DictEntry := ⟨PyData.keyHash P (letter e.1), .str (letter e.1) e.2.1, .ref e.2.2⟩
def chCells : Kd → List (Nat × Tok × Addr) → List Cell
  | .one c dx, (k, tk, a) :: _ => [.o c (oneObj D dx (.ref a) (.str (letter k) tk)), .o dx noDict]
  | .many c dx ep, es => [.o c (manyObj D dx (es.map (entOf P)) ep), .o dx noDict]
  | _, _ => []
def Fo.cells : Fo → List Cell
  | .nil => []
  | .cons _ _ a dx v kd ch r => .o a (nodeObj D dx (chVal D kd) v) :: .o dx noDict :: (chCells P D kd ch.ents ++ (ch.cells ++ r.cells))
def Nd.cells (n : Nd) : List Cell := .o n.a (nodeObj D n.dx (chVal D n.kd) n.v) :: .o n.dx noDict :: (chCells P D n.kd n.ch.ents ++ n.ch.cells P D)
end
/-- the kind fits, the letters are unlike and ascii -/
def kdOk : Kd → List Nat → Prop
  | .no, ks => ks = []
  | .one _ _, ks => ∃ k, ks = [k]
  | .many _ _ _, ks => 2 ≤ ks.length
inductive VOk (D : Adr) : Value → Prop
  | no : VOk D (.ref D.noval)
  | int (i : Int) (t : Tok) : VOk D (.int i t)
  | bool (x : Bool) : VOk D (.bool x)
def isSet (D : Adr) (v : Value) : Bool := !(v == .ref D.noval)
theorem VOk.handed {D : Adr} {v : Value} (h : VOk D v) : handedIn v = true := by cases h <;> rfl
def Fo.ok (D : Adr) : Fo → Prop
  | .nil => True
  | .cons k _ _ _ v kd ch r => k < 128 ∧ k ∉ r.keys ∧ VOk D v ∧ kdOk kd ch.keys ∧ ch.ok D ∧ r.ok D
def Nd.ok (D : Adr) (n : Nd) : Prop := VOk D n.v ∧ kdOk n.kd n.ch.keys ∧ n.ch.ok D

theorem Fo.look_cells {P D} {x : Nat} {n : Nd} : ∀ {f : Fo}, f.look x = some n → ∀ c ∈ n.cells P D, c ∈ f.cells P D
  | .cons k tk a dx v kd ch r, h, c, hc => by
    unfold Fo.look at h
    split at h
    · cases h
      simp only [Nd.cells, Fo.cells, List.mem_cons, List.mem_append] at hc ⊢
      rcases hc with h | h | h | h <;> simp [h]
    · have := look_cells h c hc
      simp only [Fo.cells, List.mem_cons, List.mem_append]; simp [this]
theorem Fo.look_ok {D : Adr} {x : Nat} {n : Nd} : ∀ {f : Fo}, f.look x = some n → f.ok D → n.ok D
  | .cons k tk a dx v kd ch r, h, ho => by
    unfold Fo.look at h
    split at h
    · cases h; exact ⟨ho.2.2.1, ho.2.2.2.1, ho.2.2.2.2.1⟩
    · exact look_ok h ho.2.2.2.2.2
theorem Fo.look_ent {x : Nat} : ∀ {f : Fo}, (f.look x).map (·.a) = (f.ents.find? (·.1 == x)).map (·.2.2)
  | .nil => rfl
  | .cons k tk a dx v kd ch r => by
    unfold Fo.look Fo.ents
    rw [List.find?_cons]
    by_cases h : k = x
    · simp [h]
    · have : (k == x) = false := by simp [h]
      simp only [h, if_false, this]; exact look_ent
theorem Nd.find_append (n : Nd) (u w : List Nat) : n.find (u ++ w) = (n.find u).bind (Nd.find · w) := by
  induction u generalizing n with
  | nil => rfl
  | cons x u ih =>
    simp only [List.cons_append, Nd.find]
    cases n.ch.look x with
    | none => rfl
    | some m => exact ih m
theorem Nd.find_cells {P D} {n m : Nd} {w : List Nat} (h : n.find w = some m) : ∀ c ∈ m.cells P D, c ∈ n.cells P D := by
  induction w generalizing n with
  | nil => cases h; exact fun _ h => h
  | cons x w ih =>
    simp only [Nd.find] at h
    obtain ⟨k, h1, h2⟩ := Option.bind_eq_some_iff.mp h
    intro c hc
    have := Fo.look_cells (P := P) (D := D) h1 c (ih h2 c hc)
    simp only [Nd.cells, List.mem_cons, List.mem_append]; simp [this]
theorem Nd.find_ok {D : Adr} {n m : Nd} {w : List Nat} (h : n.find w = some m) (ho : n.ok D) : m.ok D := by
  induction w generalizing n with
  | nil => cases h; exact ho
  | cons x w ih =>
    simp only [Nd.find] at h
    obtain ⟨k, h1, h2⟩ := Option.bind_eq_some_iff.mp h
    exact ih h2 (Fo.look_ok h1 ho.2.2)
section
variable {prog : Program} {w : World} {A : Around} {E : Value → Shared → Prop} {s : Shared} {D : Adr} {v : Value} {Q : Value → Shared → Prop}
theorem isnt_noval (hv : VOk D v) (h : Q (.bool (isSet D v)) s) : wpAny (model prog w) A (compareOp .IsNot v (.ref D.noval)) Q E s := by
  cases hv with
  | no => exact isntSelf (by simpa [isSet] using h)
  | int i t => exact wpAny_isNot_plain rfl h
  | bool x => exact wpAny_isNot_plain rfl h
theorem is_noval (hv : VOk D v) (h : Q (.bool (!isSet D v)) s) : wpAny (model prog w) A (compareOp .Is v (.ref D.noval)) Q E s := by
  cases hv with
  | no => exact isSelf (by simpa [isSet] using h)
  | int i t => exact wpAny_is_plain rfl (by simpa [isSet] using h)
  | bool x => exact wpAny_is_plain rfl (by simpa [isSet] using h)
end
end Mine
end
section
open PySem PySem.W PySem.Calls PyProof.Rows
set_option Elab.async false
namespace Mine
section
variable {prog : Program} {w : World} {A : Around} {E : Value → Shared → Prop} {b s : Shared} {cs cs' : List Cell} {K : Frag} {env : Env} {L : Addr} {ns : List Str} {vs vs' : List (Option Value)} {x : Str} {pos : Pos} {v : Value}

theorem keysOf_ents (l : List (Nat × Tok × Addr)) : PySem.KeysOf (PySem.strKind prog w) (l.map (entOf w.params)).toArray := by
  intro e he
  obtain ⟨p, _, rfl⟩ := List.mem_map.mp (by simpa using he : e ∈ l.map (entOf w.params))
  exact ⟨letter p.1, strKind_is prog w _ _, rfl⟩
theorem isStrOf_letter (x k : Nat) (t : Tok) : (PySem.strKind prog w).is (letter x) (.str (letter k) t) = (k == x) := by
  show Value.isStrOf (letter x) (.str (letter k) t) = _
  unfold Value.isStrOf
  by_cases h : k = x
  · subst h; simp
  · have : (letter k == letter x) = false := by
      rw [beq_eq_false_iff_ne]; intro e; injection e with e; simp at e; exact h e
    have e2 : (k == x) = false := by simp [h]
    rw [e2]
    first | exact this | (simp only [this]) | (simp [this])
theorem findIdx_ents (l : List (Nat × Tok × Addr)) (x : Nat) :
    Array.findIdx? (fun e => (PySem.strKind prog w).is (letter x) e.key) (l.map (entOf w.params)).toArray = l.findIdx? (·.1 == x) := by
  rw [List.findIdx?_toArray]
  induction l with
  | nil => rfl
  | cons p l ih =>
    simp only [List.map_cons, List.findIdx?_cons]
    rw [show (PySem.strKind prog w).is (letter x) (entOf w.params p).key = (p.1 == x) from isStrOf_letter x p.1 p.2.1, ih]
theorem wp_dictGet {d : Addr} {o : Obj} {l : List (Nat × Tok × Addr)} {ep x : Nat} {tk : Tok} {Q : Option Value → Shared → Prop} (ho : s.heap.get? d = some o) (hd : o.data = .dict (l.map (entOf w.params)).toArray ep)
    (h : Q ((l.find? (·.1 == x)).map fun e => .ref e.2.2) { s with toks := s.toks + 1 }) : wpAny (model prog w) A (dictGet d (.str (letter x) tk)) Q E s := by
  unfold dictGet
  refine wpAny_holding (wpAny_bind ((PySem.strKind prog w).pyHash (strKind_is prog w _ _) (wpAny_bind (wpAny_dictFind_of (strKind_is prog w _ _) ho hd (keysOf_ents l) ?_))))
  rw [findIdx_ents]
  cases e : l.findIdx? (·.1 == x) with
  | none =>
    have : l.find? (·.1 == x) = none := by
      rw [List.find?_eq_none]; intro p hp
      have := List.findIdx?_eq_none_iff.mp e p hp
      simpa using this
    rw [this] at h; exact wpAny_pure h
  | some i =>
    obtain ⟨hi, h1, h2⟩ := List.findIdx?_eq_some_iff_getElem.mp e
    have hf : l.find? (·.1 == x) = some l[i] := by
      rw [List.find?_eq_some_iff_getElem]
      exact ⟨h1, i, hi, rfl, fun j hj => by have := h2 j hj; simpa using this⟩
    rw [hf] at h
    refine wpAny_bind (wpAny_dictEntries (o := o) ho hd (wpAny_pure ?_))
    have : (l.map (entOf w.params)).toArray[i]? = some (entOf w.params l[i]) := by simp [hi]
    rw [this]; exact h

theorem check_any {M : Model} {i owner n : String} {self : Value} {rest : List Value} {kw : List (Str × Value)} {Q : Unit → Shared → Prop}
    (hk : builtinKind i = some .slot ∨ builtinKind i = some .method) (hs : splitId i = some (owner, n)) (hi : Looks M s.heap (isInstance self (.type owner)) true) (ha : argsOk i ⟨self :: rest, kw⟩) (q : Q () s) :
    wpAny M A (checkBuiltinCall i ⟨self :: rest, kw⟩) Q E s := by
  rcases hk with hk | hk <;>
  · simp only [checkBuiltinCall, hk, hs]
    refine wpAny_bind (hi.here ?_)
    simp only [Bool.not_true, Bool.false_eq_true, if_false]
    cases hsig : Manifest.signature? i with
    | none => exact wpAny_pure q
    | some sig =>
      simp only [argsOk, hsig] at ha
      have h2 : Bind.checkArgs i sig ⟨self :: rest, kw⟩ = pure () := ha
      show wpAny M A (Bind.checkArgs i sig ⟨self :: rest, kw⟩) Q E s
      rw [h2]; exact wpAny_pure q
/-- a built-in's method upon an object of an own class -/
theorem call_sub {id owner n : String} {bt : Builtin} {x C : Addr} {ox : Obj} {od : Option Obj} {rest : List Value} {R : Result → Shared → Prop} (B : Base K b) (H : St b s cs) (I : W.InstAt s.heap x ox C od) (hm : mroIn K C (.type owner) = some true)
    (plain : plainId id = true) (entry : entryFor table id = some bt) (hk : builtinKind id = some .slot ∨ builtinKind id = some .method) (hs : splitId id = some (owner, n)) (ha : argsOk id ⟨.ref x :: rest, []⟩)
    (h : wpAny (model prog w) A.in1 (bt ⟨.ref x :: rest, []⟩) (fun fin s' => match fin with | .done f => R (.ok f) s' | .again c' => c'.quiet = true ∧ codeAny (model prog w) A c' R s') (fun e s' => R (.error e) s') s) :
    codeAny (model prog w) A (.call (.builtin id) ⟨.ref x :: rest, []⟩) R s :=
  codeAny_call_builtin plain entry (check_any hk hs (I.type.andThen (looks_mroIn (H.in_ B.X) hm)) ha h)
end
end Mine
end
section
open PySem PySem.W PySem.Calls PyProof.Rows
set_option Elab.async false
namespace Mine
/-- the tree without addresses -/
inductive Tf where
  | nil
  | cons (k : Nat) (v : Option Value) (ch : Tf) (r : Tf)
structure Tn where
  v : Option Value
  ch : Tf
def Tn.empty : Tn := ⟨none, .nil⟩
def Tf.look (x : Nat) : Tf → Option Tn
  | .nil => none
  | .cons k v ch r => if k = x then some ⟨v, ch⟩ else r.look x
def Tf.set (x : Nat) (t : Tn) : Tf → Tf
  | .nil => .cons x t.v t.ch .nil
  | .cons k v ch r => if k = x then .cons k t.v t.ch r else .cons k v ch (r.set x t)
def Tn.ins (t : Tn) : List Nat → Value → Tn
  | [], v => { t with v := some v }
  | x :: w, v => { t with ch := t.ch.set x (Tn.ins ((t.ch.look x).getD .empty) w v) }
def Tn.sub (t : Tn) : List Nat → Option Tn
  | [] => some t
  | x :: w => (t.ch.look x).bind (Tn.sub · w)
def Tn.get (t : Tn) (w : List Nat) : Option Value := (t.sub w).bind (·.v)

def valOf (D : Adr) (v : Value) : Option Value := if isSet D v then some v else none
def Fo.er (D : Adr) : Fo → Tf
  | .nil => .nil
  | .cons k _ _ _ v _ ch r => .cons k (valOf D v) (ch.er D) (r.er D)
def Nd.er (D : Adr) (n : Nd) : Tn := ⟨valOf D n.v, n.ch.er D⟩
theorem Fo.look_er (D : Adr) (x : Nat) : ∀ f : Fo, (f.er D).look x = (f.look x).map (Nd.er D)
  | .nil => rfl
  | .cons k tk a dx v kd ch r => by
    simp only [Fo.er, Tf.look, Fo.look]
    split
    · rfl
    · exact look_er D x r
theorem Nd.find_er (D : Adr) (n : Nd) (w : List Nat) : (n.er D).sub w = (n.find w).map (Nd.er D) := by
  induction w generalizing n with
  | nil => rfl
  | cons x w ih =>
    simp only [Tn.sub, Nd.find, Nd.er, Fo.look_er]
    cases n.ch.look x with
    | none => rfl
    | some m => exact ih m

def Fo.setAt (x : Nat) (c : Nd) : Fo → Fo
  | .nil => .nil
  | .cons k tk a dx v kd ch r => if k = x then .cons k tk c.a c.dx c.v c.kd c.ch r else .cons k tk a dx v kd ch (r.setAt x c)
def Fo.snoc (x : Nat) (tk : Tok) (c : Nd) : Fo → Fo
  | .nil => .cons x tk c.a c.dx c.v c.kd c.ch .nil
  | .cons k tk' a dx v kd ch r => .cons k tk' a dx v kd ch (r.snoc x tk c)
theorem Fo.snoc_ents (x : Nat) (tk : Tok) (c : Nd) : ∀ f : Fo, (f.snoc x tk c).ents = f.ents ++ [(x, tk, c.a)]
  | .nil => rfl
  | .cons k tk' a dx v kd ch r => by simp [Fo.snoc, Fo.ents, snoc_ents x tk c r]
theorem Fo.snoc_keys (x : Nat) (tk : Tok) (c : Nd) (f : Fo) : (f.snoc x tk c).keys = f.keys ++ [x] := by
  rw [Fo.keys_eq, Fo.keys_eq, Fo.snoc_ents]; simp
theorem Fo.snoc_look_self (x : Nat) (tk : Tok) (c : Nd) : ∀ f : Fo, f.look x = none → (f.snoc x tk c).look x = some c
  | .nil, _ => by simp [Fo.snoc, Fo.look]
  | .cons k tk' a dx v kd ch r, h => by
    simp only [Fo.look, Fo.snoc] at h ⊢
    split at h
    · cases h
    · rename_i hk; rw [if_neg hk]; exact snoc_look_self x tk c r h
theorem Fo.look_none {x : Nat} : ∀ {f : Fo}, f.look x = none ↔ x ∉ f.keys
  | .nil => by simp [Fo.look, Fo.keys]
  | .cons k tk' a dx v kd ch r => by
    simp only [Fo.look, Fo.keys, List.mem_cons, not_or]
    by_cases h : k = x
    · subst h; simp
    · simp only [h, if_false, look_none (f := r)]
      exact ⟨fun q => ⟨fun e => h e.symm, q⟩, fun q => q.2⟩
theorem Fo.snoc_er (D : Adr) (x : Nat) (tk : Tok) (c : Nd) : ∀ f : Fo, f.look x = none → (f.snoc x tk c).er D = (f.er D).set x (c.er D)
  | .nil, _ => rfl
  | .cons k tk' a dx v kd ch r, h => by
    simp only [Fo.look] at h
    split at h
    · cases h
    · rename_i hk; simp only [Fo.snoc, Fo.er, Tf.set, if_neg hk, snoc_er D x tk c r h]
theorem Fo.setAt_er (D : Adr) (x : Nat) (c : Nd) : ∀ f : Fo, (f.look x).isSome = true → (f.setAt x c).er D = (f.er D).set x (c.er D)
  | .nil, h => by cases h
  | .cons k tk' a dx v kd ch r, h => by
    simp only [Fo.look] at h
    by_cases hk : k = x
    · simp only [Fo.setAt, Fo.er, Tf.set, if_pos hk]; rfl
    · rw [if_neg hk] at h; simp only [Fo.setAt, Fo.er, Tf.set, if_neg hk, setAt_er D x c r h]
theorem Fo.setAt_ents {x : Nat} {c c' : Nd} (h : c'.a = c.a) : ∀ {f : Fo}, f.look x = some c → (f.setAt x c').ents = f.ents
  | .cons k tk' a dx v kd ch r, hl => by
    simp only [Fo.look] at hl
    by_cases hk : k = x
    · rw [if_pos hk] at hl; cases hl; simp only [Fo.setAt, if_pos hk, Fo.ents, h]
    · rw [if_neg hk] at hl; simp only [Fo.setAt, if_neg hk, Fo.ents, setAt_ents h hl]
theorem Fo.setAt_keys (x : Nat) (c : Nd) : ∀ f : Fo, (f.setAt x c).keys = f.keys
  | .nil => rfl
  | .cons k tk' a dx v kd ch r => by
    by_cases hk : k = x
    · simp only [Fo.setAt, if_pos hk, Fo.keys]
    · simp only [Fo.setAt, if_neg hk, Fo.keys, setAt_keys x c r]
theorem Fo.setAt_look (x : Nat) (c : Nd) : ∀ f : Fo, (f.look x).isSome = true → (f.setAt x c).look x = some c
  | .nil, h => by cases h
  | .cons k tk' a dx v kd ch r, h => by
    simp only [Fo.look] at h
    by_cases hk : k = x
    · simp only [Fo.setAt, if_pos hk, Fo.look]
    · rw [if_neg hk] at h; simp only [Fo.setAt, if_neg hk, Fo.look, setAt_look x c r h]
theorem Fo.setAt_ok {D : Adr} {x : Nat} {c : Nd} (hc : c.ok D) : ∀ {f : Fo}, f.ok D → (f.setAt x c).ok D
  | .nil, _ => trivial
  | .cons k tk' a dx v kd ch r, h => by
    by_cases hk : k = x
    · simp only [Fo.setAt, if_pos hk]; exact ⟨h.1, h.2.1, hc.1, hc.2.1, hc.2.2, h.2.2.2.2.2⟩
    · simp only [Fo.setAt, if_neg hk]; exact ⟨h.1, by rw [Fo.setAt_keys]; exact h.2.1, h.2.2.1, h.2.2.2.1, h.2.2.2.2.1, setAt_ok hc h.2.2.2.2.2⟩
theorem Fo.snoc_ok {D : Adr} {x : Nat} {tk : Tok} {c : Nd} (hx : x < 128) (hc : c.ok D) : ∀ {f : Fo}, f.ok D → f.look x = none → (f.snoc x tk c).ok D
  | .nil, _, _ => ⟨hx, by simp [Fo.keys], hc.1, hc.2.1, hc.2.2, trivial⟩
  | .cons k tk' a dx v kd ch r, h, hn => by
    simp only [Fo.look] at hn
    split at hn
    · cases hn
    · rename_i hk
      refine ⟨h.1, ?_, h.2.2.1, h.2.2.2.1, h.2.2.2.2.1, snoc_ok hx hc h.2.2.2.2.2 hn⟩
      rw [Fo.snoc_keys]; simp only [List.mem_append, List.mem_singleton, not_or]; exact ⟨h.2.1, hk⟩
/-- one child's cells, and the others' -/
theorem Fo.split {P : Params} {D : Adr} {x : Nat} {c : Nd} : ∀ {f : Fo}, f.look x = some c → ∃ pre post, f.cells P D = pre ++ (c.cells P D ++ post) ∧ ∀ c' : Nd, (f.setAt x c').cells P D = pre ++ (c'.cells P D ++ post)
  | .cons k tk a dx v kd ch r, h => by
    simp only [Fo.look] at h
    by_cases hk : k = x
    · rw [if_pos hk] at h; cases h
      refine ⟨[], r.cells P D, ?_, fun c' => ?_⟩
      · simp only [Fo.cells, Nd.cells, List.cons_append, List.append_assoc, List.nil_append]
      · simp only [Fo.setAt, if_pos hk, Fo.cells, Nd.cells, List.cons_append, List.append_assoc, List.nil_append]
    · rw [if_neg hk] at h
      obtain ⟨pre, post, h1, h2⟩ := split (P := P) (D := D) h
      refine ⟨.o a (nodeObj D dx (chVal D kd) v) :: .o dx noDict :: (chCells P D kd ch.ents ++ (ch.cells P D ++ pre)), post, ?_, fun c' => ?_⟩
      · simp only [Fo.cells, h1, List.cons_append, List.append_assoc]
      · simp only [Fo.setAt, if_neg hk, Fo.cells, h2, List.cons_append, List.append_assoc]
theorem Fo.snoc_cells {P : Params} {D : Adr} (x : Nat) (tk : Tok) (c : Nd) : ∀ f : Fo, (f.snoc x tk c).cells P D = f.cells P D ++ c.cells P D
  | .nil => by simp [Fo.snoc, Fo.cells, Nd.cells]
  | .cons k tk' a dx v kd ch r => by simp [Fo.snoc, Fo.cells, snoc_cells x tk c r]
end Mine
end
section
open PySem PySem.W PySem.Calls PyProof.Rows
set_option Elab.async false
namespace Mine
section
variable {prog : Program} {w : World} {A : Around} {E : Value → Shared → Prop} {b s : Shared} {cs cs' : List Cell} {K : Frag} {env : Env} {L : Addr} {ns : List Str} {vs vs' : List (Option Value)} {x : Str} {pos : Pos} {v : Value}

def heapOf (s : Shared) (L : Addr) (c : Cell) : Option (Addr × Obj) := match c.key with
  | (true, a) => if a = L then none else (s.heap.get? a).map fun o => (a, o)
  | (false, _) => none
theorem Cell.obj_of {c : Cell} {a : Addr} (hc : c.sat b s) (hk : c.key = (true, a)) : ∃ o, s.heap.get? a = some o := by
  cases c with
  | o a' x => cases hk; exact ⟨_, hc.1⟩
  | p a' P => cases hk; exact let ⟨⟨x, h, _⟩, _⟩ := hc; ⟨x, h⟩
  | f L ns vs => cases hk; exact let ⟨⟨oL, _, _, hL, _⟩, _⟩ := hc; ⟨oL, hL⟩
  | g n gs => cases hk
theorem Cell.sat_same {c : Cell} {h' : Heap} {t : Nat} (hc : c.sat b s) (hs : ∀ a o, c.key = (true, a) → s.heap.get? a = some o → h'.get? a = some o) : c.sat b { s with heap := h', toks := t } := by
  cases c with
  | o a x => exact ⟨hs a _ rfl hc.1, hc.2⟩
  | p a P => obtain ⟨⟨x, h1, h2⟩, h3⟩ := hc; exact ⟨⟨x, hs a _ rfl h1, h2⟩, h3⟩
  | f L ns vs => obtain ⟨⟨oL, a1, a2, hL, a3⟩, r⟩ := hc; exact ⟨⟨oL, a1, a2, hs _ _ rfl hL, a3⟩, r⟩
  | g n gs => exact hc
/-- the library's ledger of the cells, and back: one object is another one -/
theorem St.bridge {x : Addr} {ox ox' : Obj} (H : St b s cs) (hf : Has (.f L ns vs) cs) (u : Sub1 (.o x ox) (.o x ox') cs cs') :
    ∃ news, News b.heap L s.heap ([] ++ (x, ox) :: news) ∧ (∀ p ∈ news, p.1 ≠ x) ∧ ∀ h' t, Fr b.heap L h' (locOf ns vs) → News b.heap L h' ([] ++ (x, ox') :: news) → St b { s with heap := h', toks := t } cs' := by
  obtain ⟨p, r, rfl, rfl⟩ := u.split
  have nod := H.nod
  rw [List.map_append, List.map_cons, List.nodup_append] at nod
  have n2 := List.nodup_cons.mp nod.2.1
  have hne : ∀ d ∈ p ++ r, d.key ≠ (true, x) := by
    intro d hd q
    rcases List.mem_append.mp hd with h1 | h1
    · exact nod.2.2 _ (List.mem_map_of_mem h1) _ (.head _) (by rw [q]; rfl)
    · exact n2.1 (by show (true, x) ∈ _; rw [← q]; exact List.mem_map_of_mem h1)
  have hLx : x ≠ L := by
    rintro rfl
    have := hf.mem
    rcases List.mem_append.mp this with h1 | h1
    · exact hne _ (List.mem_append_left _ h1) rfl
    · rcases List.mem_cons.mp h1 with h2 | h2
      · cases h2
      · exact hne _ (List.mem_append_right _ h2) rfl
  have hsx := H.sat (.o x ox) (by simp)
  have none_of : ∀ a, b.heap.objs.size ≤ a → b.heap.get? a = none := fun a ha => by
    cases q : b.heap.get? a with
    | none => rfl
    | some o => exact absurd (Nat.lt_of_lt_of_le (Heap.lt_size q) ha) (Nat.lt_irrefl _)
  refine ⟨(p ++ r).filterMap (heapOf s L), ?_, ?_, ?_⟩
  · intro q hq
    rcases List.mem_cons.mp hq with rfl | hq
    · exact ⟨hsx.1, hLx, none_of _ hsx.2⟩
    · obtain ⟨c, hc, e⟩ := List.mem_filterMap.mp hq
      unfold heapOf at e
      split at e
      · rename_i a ha
        split at e
        · cases e
        · rename_i hL
          obtain ⟨o, ho, rfl⟩ := Option.map_eq_some_iff.mp e
          exact ⟨ho, hL, none_of _ (Cell.base (H.sat c (by simp only [List.mem_append, List.mem_cons] at hc ⊢; rcases hc with h | h <;> simp [h])) ha)⟩
      · cases e
  · intro q hq
    obtain ⟨c, hc, e⟩ := List.mem_filterMap.mp hq
    unfold heapOf at e
    split at e
    · rename_i a ha
      split at e
      · cases e
      · obtain ⟨o, ho, rfl⟩ := Option.map_eq_some_iff.mp e
        intro z; dsimp only at z; subst z; exact hne c hc ha
    · cases e
  · intro h' t F N
    have key : ∀ d ∈ p ++ r, d.sat b { s with heap := h', toks := t } := by
      intro d hd
      have hds := H.sat d (by simp only [List.mem_append, List.mem_cons] at hd ⊢; rcases hd with h | h <;> simp [h])
      by_cases hdL : d.key = (true, L)
      · have hfm := hf.mem
        have : d = .f L ns vs := by
          have hfm' : Cell.f L ns vs ∈ p ++ r := by
            simp only [List.mem_append, List.mem_cons] at hfm ⊢
            rcases hfm with h | h | h
            · exact .inl h
            · cases h
            · exact .inr h
          have nn : ((p ++ r).map Cell.key).Nodup := by
            rw [List.map_append, List.nodup_append]
            exact ⟨nod.1, n2.2, fun a ha b hb => nod.2.2 a ha b (.tail _ hb)⟩
          have inj : ∀ (l : List Cell), (l.map Cell.key).Nodup → ∀ c ∈ l, ∀ d ∈ l, c.key = d.key → c = d := by
            intro l
            induction l with
            | nil => intro _ c hc; cases hc
            | cons e l ih =>
              intro hn c hc d hd q
              have hn' := List.nodup_cons.mp hn
              rcases List.mem_cons.mp hc with e1 | hc1
              · rcases List.mem_cons.mp hd with e2 | hd1
                · rw [e1, e2]
                · exact absurd (by rw [← e1, q]; exact List.mem_map_of_mem hd1) hn'.1
              · rcases List.mem_cons.mp hd with e2 | hd1
                · exact absurd (by rw [← e2, ← q]; exact List.mem_map_of_mem hc1) hn'.1
                · exact ih hn'.2 c hc1 d hd1 q
          exact inj _ nn d hd _ hfm' hdL
        subst this
        exact ⟨F.ns, hds.2⟩
      · refine Cell.sat_same hds fun a o ha ho => ?_
        have : (a, o) ∈ (p ++ r).filterMap (heapOf s L) := by
          refine List.mem_filterMap.mpr ⟨d, hd, ?_⟩
          unfold heapOf
          rw [ha]
          have : a ≠ L := by rintro rfl; exact hdL ha
          simp [this, ho]
        exact (N _ (.tail _ this)).1
    refine ⟨F.keep, ?_, ?_, ?_, H.bare, H.os⟩
    · exact Nat.le_trans F.above (Nat.le_of_lt F.ns.lt)
    · rw [List.map_append, List.map_cons, List.nodup_append]
      exact ⟨nod.1, List.nodup_cons.mpr ⟨n2.1, n2.2⟩, nod.2.2⟩
    · intro d hd
      rcases List.mem_append.mp hd with h1 | h1
      · exact key d (by simp [h1])
      · rcases List.mem_cons.mp h1 with rfl | h2
        · exact ⟨(N _ (.head _)).1, hsx.2⟩
        · exact key d (by simp [h2])

/-- a slot is stored -/
structure SlotSet (K : Frag) (C : Addr) (name : Str) (p : Addr) (i : Nat) : Prop where
  sa : findIn K (.ref C) "__setattr__" = some (some (.builtin "object.__setattr__"))
  plain : plainOver K C = true
  taker : takerIn K C name = some (some (.ref p))
  ty : typeIn K (.ref p) = some (.type "member_descriptor")
  slot : slotIn K p C = some i
theorem set_slot_ {name : Str} {a C p dx : Addr} {i : Nat} {d : Data} {sl sl' : Array (Option Value)} {od : Obj} {Q : Unit → Shared → Prop} (B : Base K b) (S : SlotSet K C name p i) (H : St b s cs) (hf : Has (.f L ns vs) cs) (u : Sub1 (.o a ⟨.ref C, some dx, d, sl⟩) (.o a ⟨.ref C, some dx, d, sl'⟩) cs cs') (hn : notCls ⟨.ref C, some dx, d, sl⟩ = true) (hd : Has (.o dx od) cs)
    (hz : i < 1000) (e : (sl ++ Array.replicate (i + 1 - sl.size) none).setIfInBounds i (some v) = sl') (hfr : (⟨.ref C, some dx, d, sl'⟩ : Obj).isFreed = false)
    (h : ∀ s', St b s' cs' → Q () s') : wpAny (model prog w) A (setAttr (.ref a) name v) Q E s := by
  obtain ⟨news, N, hne, back⟩ := H.bridge hf u
  have F := H.fr hf.mem
  exact set_slot F B.X N (inst_ (H.obj u.mem) hn (H.obj hd.mem)) S.sa S.plain S.taker S.ty S.slot hz (by rw [← e]) hfr (.head hne) fun h' F' N' => h _ (back h' (s.toks + 1) F' N')

/-- an object of an own class is made -/
theorem make {C fI : Addr} {rest : List Value} {kw : List (Str × Value)} {R : Result → Shared → Prop} (B : Base K b) (H : St b s cs) (hm : makesIn K C = true) (hi : findIn K (.ref C) "__init__" = some (some (.ref fI))) (hf : typeIn K (.ref fI) = some (.type "function"))
    (h : ∀ s' x dx, St b s' (.o x ⟨.ref C, some dx, .plain, #[]⟩ :: .o dx noDict :: cs) → codeAny (model prog w) (A.under (.builtin "type.__call__" ⟨.ref C :: rest, kw⟩)) (.call (.ref fI) ⟨.ref x :: rest, kw⟩) (InitBack x R) s') :
    codeAny (model prog w) A (.call (.ref C) ⟨rest, kw⟩) R s := by
  have H' : St b { s with heap := (s.heap.push emptyDict).push (instObj C s.heap.objs.size) } (.o (s.heap.objs.size + 1) ⟨.ref C, some s.heap.objs.size, .plain, #[]⟩ :: .o s.heap.objs.size noDict :: cs) := by
    have := (H.push (o := emptyDict)).push (o := instObj C s.heap.objs.size)
    simpa only [Heap.size_push] using this
  obtain ⟨hh, g, d, t, os⟩ := s
  have X := H.in_ B.X
  exact make_core (makes_of X hm) (looks_findIn X hi) (fun self => bind_fn X self hf) (.inl rfl) (h _ (hh.objs.size + 1) hh.objs.size H')
end
end Mine
end
section
open PySem PySem.W PySem.Calls PyProof.Rows
set_option Elab.async false
namespace Mine
section
variable {prog : Program} {w : World} {A : Around} {E : Value → Shared → Prop} {b s : Shared} {cs cs' : List Cell} {K : Frag} {env : Env} {L : Addr} {ns : List Str} {vs vs' : List (Option Value)} {x : Str} {pos : Pos} {v : Value}
theorem ents_absent {l : List (Nat × Tok × Addr)} {x : Nat} (h : l.find? (·.1 == x) = none) : l.findIdx? (·.1 == x) = none := by
  rw [List.findIdx?_eq_none_iff]; intro p hp
  have := (List.find?_eq_none.mp h) p hp
  simpa using this
theorem ents_here {l : List (Nat × Tok × Addr)} {x : Nat} {p} (h : l.find? (·.1 == x) = some p) : ∃ i, ∃ hi : i < l.length, l.findIdx? (·.1 == x) = some i ∧ l[i] = p := by
  cases e : l.findIdx? (·.1 == x) with
  | none =>
    rw [List.findIdx?_eq_none_iff] at e
    obtain ⟨h1, h2⟩ := List.find?_eq_some_iff_append.mp h
    obtain ⟨as, bs, rfl, _⟩ := h2
    have := e p (by simp); rw [this] at h1; cases h1
  | some i =>
    obtain ⟨hi, h1, h2⟩ := List.findIdx?_eq_some_iff_getElem.mp e
    have hf : l.find? (·.1 == x) = some l[i] := by
      rw [List.find?_eq_some_iff_getElem]
      exact ⟨h1, i, hi, rfl, fun j hj => by have := h2 j hj; simpa using this⟩
    rw [hf] at h; cases h
    exact ⟨i, hi, rfl, rfl⟩
abbrev dObj (P : Params) (C : Value) (dx : Option Addr) (sl : Array (Option Value)) (l : List (Nat × Tok × Addr)) (ep : Nat) : Obj := ⟨C, dx, .dict (l.map (entOf P)).toArray ep, sl⟩
/-- a new key at the end -/
theorem push_ent {d : Addr} {C : Value} {dx : Option Addr} {sl : Array (Option Value)} {l : List (Nat × Tok × Addr)} {ep x a : Nat} {tk : Tok} {part : Option Value} {Q : Unit → Shared → Prop}
    (H : St b s cs) (u : Sub1 (.o d (dObj w.params C dx sl l ep)) (.o d (dObj w.params C dx sl (l ++ [(x, tk, a)]) (ep + 1))) cs cs') (hz : l.length ≤ 1000) (h : ∀ s', St b s' cs' → Q () s') :
    wpAny (model prog w) A (updateDictKeys d (·.push ⟨PyData.keyHash w.params (letter x), .str (letter x) tk, .ref a⟩) part) Q E s := by
  have hs := H.sat _ u.mem
  have hz1 : ((l.map (entOf w.params)).toArray).size ≤ sizeLine := by
    rw [List.size_toArray, List.length_map]; exact Nat.le_trans hz (by decide)
  refine wpAny_updateDictKeys hs.1 rfl (h _ ?_) hz1 (by simp)
  refine H.change (t := s.toks) u rfl rfl hs.2 (Heap.SameBut.update ..) ⟨?_, hs.2⟩
  rw [Heap.get?_update_self _ hs.1 (by rfl)]
  simp [Obj.mapDictKeys, dObj, entOf]
theorem wp_setdefault {d : Addr} {C : Value} {dx : Option Addr} {sl : Array (Option Value)} {l : List (Nat × Tok × Addr)} {ep x n : Nat} {tk : Tok} {Q : Value → Shared → Prop}
    (H : St b s cs) (u : Sub1 (.o d (dObj w.params C dx sl l ep)) (.o d (dObj w.params C dx sl (l ++ [(x, tk, n)]) (ep + 1))) cs cs') (hz : l.length ≤ 1000)
    (h : (∀ s' p, l.find? (·.1 == x) = some p → St b s' cs → Q (.ref p.2.2) s') ∧ (∀ s', l.find? (·.1 == x) = none → St b s' cs' → Q (.ref n) s')) :
    wpAny (model prog w) A (dictSetDefault d (.str (letter x) tk) (.ref n)) Q E s := by
  have ho := H.obj u.mem
  unfold dictSetDefault
  refine wpAny_holding (wpAny_bind ((PySem.strKind prog w).pyHash (strKind_is prog w _ _) (wpAny_bind (wpAny_dictFind_of (strKind_is prog w _ _) ho rfl (keysOf_ents l) ?_))))
  rw [findIdx_ents]
  cases e : l.find? (·.1 == x) with
  | none =>
    rw [ents_absent e]
    refine wpAny_bind (wpAny_rule (wpAny_bind (push_ent (H.toks (t := s.toks + 1)) u hz fun s' H' => wpAny_pure (h.2 s' e H'))))
  | some p =>
    obtain ⟨i, hi, e1, e2⟩ := ents_here e
    rw [e1]
    refine wpAny_bind (wpAny_dictEntries (o := dObj w.params C dx sl l ep) ho rfl ?_)
    have : (l.map (entOf w.params)).toArray[i]? = some (entOf w.params l[i]) := by simp [hi]
    rw [this]
    refine wpAny_bind (wpAny_rule (wpAny_pure ?_))
    have z := h.1 _ p e (H.toks (t := s.toks + 1))
    rw [← e2] at z; exact z
theorem wp_setHashed {d : Addr} {C : Value} {dx : Option Addr} {sl : Array (Option Value)} {l : List (Nat × Tok × Addr)} {ep x n : Nat} {tk : Tok} {Q : Unit → Shared → Prop}
    (H : St b s cs) (u : Sub1 (.o d (dObj w.params C dx sl l ep)) (.o d (dObj w.params C dx sl (l ++ [(x, tk, n)]) (ep + 1))) cs cs') (hz : l.length ≤ 1000) (hn : l.find? (·.1 == x) = none) (h : ∀ s', St b s' cs' → Q () s') :
    wpAny (model prog w) A (dictSetHashed d (.str (letter x) tk) (PyData.keyHash w.params (letter x)) (.ref n)) Q E s := by
  have ho := H.obj u.mem
  unfold dictSetHashed
  refine wpAny_holding (wpAny_bind (wpAny_dictFind_of (knd := PySem.strKind prog w) (k := letter x) (strKind_is prog w _ _) ho rfl (keysOf_ents l) ?_))
  rw [findIdx_ents, ents_absent hn]
  exact wpAny_bind (wpAny_rule (push_ent H u hz h))
theorem notOrdered_sub {name : String} {args : Args} {c C : Addr} {Q : Unit → Shared → Prop} {M : Model} (hs : args.pos.headD .none = .ref c) (L0 : Looks M s.heap (typeOf (.ref c)) (.ref C)) (L1 : Looks M s.heap (isInstance (.ref c) (.type "collections.OrderedDict")) false)
    (h : Q () s) : wpAny M A (Builtin.Dict.notOrdered name args) Q E s := by
  unfold Builtin.Dict.notOrdered
  split
  · dsimp only
    rw [hs]
    refine wpAny_bind (L0.here ?_)
    rw [if_pos (by rfl)]
    refine wpAny_bind (L1.here ?_)
    exact wpAny_pure h
  · exact wpAny_pure h
end
end Mine
end
section
open PySem PySem.W PySem.Calls PyProof.Rows
set_option Elab.async false
namespace Mine
section
variable {prog : Program} {w : World} {A : Around} {E : Value → Shared → Prop} {b s : Shared} {cs cs' : List Cell} {K : Frag} {env : Env} {L : Addr} {ns : List Str} {vs vs' : List (Option Value)} {x : Str} {pos : Pos} {v : Value}
abbrev pDict (P : Params) (l : List (Nat × Tok × Addr)) (ep : Nat) : Obj := dObj P (.type "dict") none #[] l ep
theorem dict2 {k1e k2e v1e v2e : Expr} {Q : Value → Shared → Prop} (H : St b s cs)
  (h : ∀ s₀ d, St b s₀ (.o d emptyDict :: cs) → wpAny (model prog w) A (eval k1e env) (fun k1 s1 => wpAny (model prog w) A (eval v1e env) (fun v1 s2 => wpAny (model prog w) A (eval k2e env) (fun k2 s3 => wpAny (model prog w) A (eval v2e env) (fun v2 s4 =>
     ∃ x1 t1 a1 x2 t2 a2 cs4, k1 = .str (letter x1) t1 ∧ v1 = .ref a1 ∧ k2 = .str (letter x2) t2 ∧ v2 = .ref a2 ∧ x1 ≠ x2 ∧ St b s4 (.o d emptyDict :: cs4) ∧
       ∀ s' t1 t2 ep, St b s' (.o d (pDict w.params [(x1, t1, a1), (x2, t2, a2)] ep) :: cs4) → Q (.ref d) s') E s3) E s2) E s1) E s₀) :
  wpAny (model prog w) A (eval (.Dict [some k1e, some k2e] [v1e, v2e] pos) env) Q E s := by
  refine wpAny_Dict_pairs (knd := PySem.strKind prog w) (pairs := [(eval k1e env, do let x ← eval v1e env; standAt pos; pure x), (eval k2e env, do let x ← eval v2e env; standAt pos; pure x)]) rfl (by simp) (by simp) ?_
  have H0 := H.push (o := emptyDict)
  refine wpAny_bind (wpAny_mono (h _ s.heap.objs.size H0) (fun k1 s1 h1 => ?_) fun _ _ z => z)
  refine wpAny_bind (wpAny_holding (wpAny_bind (wpAny_mono h1 (fun v1 s2 h2 => ?_) fun _ _ z => z)))
  refine wpAny_bind (wpAny_standAt (wpAny_pure ?_))
  refine wpAny_bind (wpAny_holding ?_)
  refine wpAny_bind (wpAny_mono h2 (fun k2 s3 h3 => ?_) fun _ _ z => z)
  refine wpAny_bind (wpAny_holding (wpAny_bind (wpAny_mono h3 (fun v2 s4 h4 => ?_) fun _ _ z => z)))
  refine wpAny_bind (wpAny_standAt (wpAny_pure ?_))
  refine wpAny_bind (wpAny_holding (wpAny_pure (wpAny_pure (wpAny_pure ?_))))
  obtain ⟨x1, t1, a1, x2, t2, a2, cs4, rfl, rfl, rfl, rfl, hne, H4, hq⟩ := h4
  have hd := H4.sat _ (.head _)
  have hne' : letter x1 ≠ letter x2 := by intro e; injection e with e; simp at e; exact hne e
  refine ⟨[(letter x1, .ref a1), (letter x2, .ref a2)], ⟨strKind_is prog w _ _, rfl, strKind_is prog w _ _, rfl, trivial⟩, ⟨_, _, _, hd.1, ⟨rfl, rfl, rfl⟩, rfl, ?_, ?_, by simp⟩, fun h' hD hS => ?_⟩
  · intro e he; simp at he
  · exact .nil
  · have hm : merged [] [(letter x1, Value.ref a1), (letter x2, Value.ref a2)] = [(letter x1, Value.ref a1), (letter x2, Value.ref a2)] := by
      have e1 : stored ([] : List (Str × Value)) (letter x1) (.ref a1) = [(letter x1, Value.ref a1)] := by simp [stored, valueAt]
      have e2 : stored [(letter x1, Value.ref a1)] (letter x2) (.ref a2) = [(letter x1, Value.ref a1), (letter x2, Value.ref a2)] := by simp [stored, valueAt, hne']
      show stored (stored [] (letter x1) (.ref a1)) (letter x2) (.ref a2) = _
      rw [e1, e2]
    rw [hm] at hD
    obtain ⟨o, es, ep, ho, ⟨c1, c2, c3⟩, hdt, hk, hp, _⟩ := hD
    obtain ⟨oc, od, odt, osl⟩ := o
    dsimp only at c1 c2 c3 hdt
    subst c1 c2 c3 hdt
    obtain ⟨es⟩ := es
    cases hp with
    | @cons e1 _ es1 _ i1 v1 hp1 => cases hp1 with
      | @cons e2 _ es2 _ i2 v2 hp2 =>
        cases hp2
        obtain ⟨u1, hu1⟩ := Value.isStrOf_shape i1
        obtain ⟨u2, hu2⟩ := Value.isStrOf_shape i2
        obtain ⟨y1, j1, q1⟩ := hk e1 (by simp)
        obtain ⟨y2, j2, q2⟩ := hk e2 (by simp)
        have z1 := (PySem.strKind prog w).inj _ _ _ i1 j1
        have z2 := (PySem.strKind prog w).inj _ _ _ i2 j2
        obtain ⟨eh1, ek1, ev1⟩ := e1
        obtain ⟨eh2, ek2, ev2⟩ := e2
        dsimp only at hu1 hu2 q1 q2 v1 v2 z1 z2
        subst hu1 hu2 v1 v2
        rw [← z1] at q1
        rw [← z2] at q2
        subst q1 q2
        refine hq _ u1 u2 ep (H4.change (t := s4.toks + 2) .head rfl rfl hd.2 hS ⟨ho, hd.2⟩)
end
end Mine
end
section
open PySem PySem.W PySem.Calls PyProof.Rows Builtin
set_option Elab.async false
set_option maxRecDepth 100000
set_option maxHeartbeats 4000000
namespace Mine
def dictMade : List String := ["dict", "object", "collections.defaultdict", "collections.OrderedDict"]
structure DMk (K : Frag) (C : Addr) : Prop where
  look : ∃ oc od cd sl, List.lookup C K = some ⟨oc, od, .cls cd, sl⟩ ∧ cd.hasDel = false ∧ (sl.toList[4]?).join = some (.builtin "dict.__new__") ∧ cd.mro.isEmpty = false ∧ cd.mro.contains (.ref C) = true ∧ cd.mro.contains (.type "dict") = true ∧
      (cd.mro.any fun | .type n => !dictMade.contains n | _ => false) = false
  call : specialIn K (.ref C) "__call__" = some (some (.builtin "type.__call__"))
  typ : instIn K (.ref C) (.type "type") = some true
structure DMakes (M : Model) (h : Heap) (C : Addr) : Prop where
  obj : ∃ oc od cd sl, h.get? C = some ⟨oc, od, .cls cd, sl⟩ ∧ cd.hasDel = false ∧ cd.mro.isEmpty = false ∧ (cd.mro.any fun | .type n => !dictMade.contains n | _ => false) = false
  made : Looks M h (Bind.madeBy (.ref C)) (some "dict.__new__")
  base : Looks M h (Bind.staticBase (.ref C)) (.ref C)
  self : Looks M h (isSubtype (.ref C) (.ref C)) true
  dict : Looks M h (isSubtype (.ref C) (.type "dict")) true
  call : Looks M h (specialOf (.ref C) "__call__") (some (.builtin "type.__call__"))
  typ : Looks M h (isInstance (.ref C) (.type "type")) true
theorem dmakes_of {K : Frag} {M : Model} {h : Heap} (X : K.In h) {C : Addr} (e : DMk K C) : DMakes M h C := by
  obtain ⟨⟨oc, od, cd, sl, ho, e2, e3, e4, e5, e6, e9⟩, e7, e8⟩ := e
  have hc : clsIn K C = some cd := by unfold clsIn; rw [show K.lookup C = _ from ho]
  have hm : Looks M h (mroOf (.ref C)) cd.mro := (looks_clsIn X hc).andThen .now
  obtain ⟨c, l, hl⟩ : ∃ c l, cd.mro = c :: l := by cases q : cd.mro with | nil => rw [q] at e4; cases e4 | cons c l => exact ⟨c, l, rfl⟩
  have made : Looks M h (Bind.madeBy (.ref C)) (some "dict.__new__") := by
    intro A Q E s k q
    unfold Bind.madeBy
    refine wpAny_bind (hm A _ E s k ?_)
    rw [hl, List.forIn_cons]
    refine wpAny_bind (wpAny_bind (wpAny_bind (wpAny_bind (wpAny_loadPart (k _ _ (X _ _ ho)) (wpAny_pure ?_)))))
    dsimp only
    rw [← Array.getElem?_toList, e3]
    exact wpAny_pure (wpAny_pure (wpAny_pure q))
  refine ⟨⟨oc, od, cd, sl, X _ _ ho, e2, e4, e9⟩, made, ?_, looks_mroIn X ?_, looks_mroIn X ?_, looks_specialIn X e7, looks_instIn X e8⟩
  · intro A Q E s k q
    unfold Bind.staticBase
    refine wpAny_bind (hm A _ E s k ?_)
    rw [hl, List.forIn_cons]
    exact wpAny_bind (wpAny_bind (wpAny_bind (made A _ E s k (wpAny_pure (wpAny_pure (wpAny_pure q))))))
  · unfold mroIn; rw [hc, Option.bind_some, if_neg (by rw [e4]; decide), e5]
  · unfold mroIn; rw [hc, Option.bind_some, if_neg (by rw [e4]; decide), e6]
theorem dn_split : splitId "dict.__new__" = some ("dict", "__new__") := by decide +kernel
theorem dn_kind : builtinKind "dict.__new__" = some .builtinFn := by decide +kernel
theorem dn_quiet : ("dict.__new__" : String).startsWith "lifetime." = false := by decide +kernel
theorem dn_entry : entryFor table "dict.__new__" = some Builtin.«dict.__new__» := entryFor_of_tree (by kernel_rfl)
section
variable {prog : Program} {w : World} {A : Around} {K : Frag} {C : Addr} {R : Result → Shared → Prop} {h : Heap} {g : Array GenState} {d : Drawn} {t : Nat} {os : OsState}
abbrev instD (C dx : Addr) : Obj := { cls := .ref C, dict := some dx, data := .dict #[] }
theorem dnew_K {rest : List Value} (Y : DMakes (model prog w) h C)
    (hq : R (.ok (.ret (.ref (h.objs.size + 1)))) ⟨(h.push emptyDict).push (instD C h.objs.size), g, d, t, os⟩) :
    codeAny (model prog w) A (.call (.builtin "dict.__new__") ⟨.ref C :: rest, []⟩) R ⟨h, g, d, t, os⟩ := by
  obtain ⟨⟨oc, od, cd, sl, hC, e2, e4, e9⟩, made, base, self, dict, call, typ⟩ := Y
  refine codeAny_call_builtin_code (Code.quiet_builtin _ dn_quiet) ?_
  simp only [checkBuiltinCall, dn_kind, dn_split]
  have here : Looks (model prog w) h (Bind.madeHere "dict.__new__" (.ref C)) () := base.andThen (made.andThen (Looks.of_pure (by simp only [Option.map_some, bne_self_eq_false, Bool.false_eq_true, if_false])))
  have row : Manifest.signature? "dict.__new__" = some ⟨.any, "dict", "dict", .cls, [⟨"args", .varPos, false⟩, ⟨"kwargs", .varKw, false⟩]⟩ := by kernel_rfl
  have args : Bind.checkArgs "dict.__new__" ⟨.any, "dict", "dict", .cls, [⟨"args", .varPos, false⟩, ⟨"kwargs", .varKw, false⟩]⟩ ⟨.ref C :: rest, []⟩ = pure () := by kernel_rfl
  rw [row]
  simp only [args]
  repeat (first | simp only [bne_self_eq_false, Bool.false_eq_true, if_false] | lk)
  refine codeAny_builtin dn_entry ?_
  unfold Builtin.«dict.__new__»
  have hm : Looks (model prog w) h (mroOf (.ref C)) cd.mro := ((Looks.ld (part := none) hC).andThen .now).andThen .now
  repeat (first | simp only [Bool.false_eq_true, if_false, Bool.not_true] | lk)
  split
  · rename_i q; exact absurd (e9.symm.trans q) (by decide)
  refine wpAny_bind (wpAny_alloc (wpAny_bind ?_))
  show wpAny _ _ (newObjAsIs _ _ _) _ _ _
  unfold newObjAsIs classHasDel
  refine wpAny_bind (wpAny_alloc (wpAny_bind (wpAny_bind (wpAny_load (Heap.get?_push_of_some _ (Heap.get?_push_of_some _ hC)) (wpAny_pure ?_)))))
  rw [e2]
  refine wpAny_pure (wpAny_pure ?_)
  show R _ _
  rw [Heap.size_push]
  exact hq
theorem di_bind (self : Value) : bindSpecial (.builtin "dict.__init__") self = pure (.builtin "dict.__init__", [self]) := PySem.F.slot_dict_init.bind self
theorem dmake_core {rest : List Value} (Y : DMakes (model prog w) h C) (hi : Looks (model prog w) h (typeLookup (.ref C) "__init__") (some (.builtin "dict.__init__")))
    (hq : codeAny (model prog w) (A.under (.builtin "type.__call__" ⟨.ref C :: rest, []⟩)) (.call (.builtin "dict.__init__") ⟨.ref (h.objs.size + 1) :: rest, []⟩) (InitBack (h.objs.size + 1) R) ⟨(h.push emptyDict).push (instD C h.objs.size), g, d, t, os⟩) :
    codeAny (model prog w) A (.call (.ref C) ⟨rest, []⟩) R ⟨h, g, d, t, os⟩ := by
  have Y' := Y
  obtain ⟨⟨oc, od, cd, sl, hC, e2, e4, e9⟩, made, base, self, dict, call, typ⟩ := Y
  refine codeAny_of_tree ?_
  show wpAny _ _ (callAny (.ref C) _) _ _ _
  refine nd_load hC ?_
  show wpAny _ _ (callAny.viaDunder (.ref C) _) _ _ _
  unfold callAny.viaDunder
  refine wpAny_bind (call.at ?_)
  dsimp only
  rw [tc_bind]
  refine wpAny_bind (wpAny_pure (wpAny_bind (wpAny_pure ?_)))
  refine wpAny_pure (a := Fin.again (.call (.builtin "type.__call__") ⟨.ref C :: rest, []⟩)) (And.intro rfl ?_)
  refine codeAny_call_builtin_at (Code.quiet_builtin _ (by decide +kernel)) entry_typeCall (check_slot tc_kind tc_split typ (tc_args _ _ _) ?_)
  unfold Builtin.«type.__call__»
  have hm : Looks (model prog w) h (mroOf (.ref C)) cd.mro := ((Looks.ld (part := none) hC).andThen .now).andThen .now
  repeat (first | simp only [e4, Bool.false_eq_true, if_false] | with_reducible refine wpAny_call ?_ | lk)
  refine dnew_K Y' ?_
  have k : ∀ b o, h.get? b = some o → ((h.push emptyDict).push (instD C h.objs.size)).get? b = some o := fun b o e => Heap.get?_push_of_some _ (Heap.get?_push_of_some _ e)
  have hx : ((h.push emptyDict).push (instD C h.objs.size)).get? (h.objs.size + 1) = some (instD C h.objs.size) := by heap_get
  have t1 : Looks (model prog w) ((h.push emptyDict).push (instD C h.objs.size)) (typeOf (.ref (h.objs.size + 1))) (.ref C) := (Looks.ld hx).andThen .now
  have s1 := self.keeps k
  have i1 := hi.keeps k
  have b1 : Looks (model prog w) ((h.push emptyDict).push (instD C h.objs.size)) (bindSpecial (.builtin "dict.__init__") (.ref (h.objs.size + 1))) (.builtin "dict.__init__", [.ref (h.objs.size + 1)]) := Looks.of_pure (di_bind _)
  unfold isInstance callSpecial? specialOf
  repeat (first | with_reducible refine wpAny_call ?_ | lk)
  refine codeAny_mono hq fun r s' z => ?_
  rcases r with e | (v | _ | _ | _) <;> first | exact z | exact z.elim | skip
  obtain ⟨rfl, z⟩ := z
  exact wpAny_pure (wpAny_pure z)
end
end Mine
end
section
open PySem PySem.W PySem.Calls PyProof.Rows
set_option Elab.async false
set_option maxRecDepth 100000
set_option maxHeartbeats 4000000
namespace Mine
section
variable {prog : Program} {w : World} {A : Around} {E : Value → Shared → Prop} {b s : Shared} {cs cs' : List Cell} {K : Frag} {env : Env} {L : Addr} {ns : List Str} {vs vs' : List (Option Value)} {x : Str} {pos : Pos} {v : Value} {R : Result → Shared → Prop}
theorem wp_merge2 {id : String} {x d C cdx : Addr} {x1 a1 x2 a2 ep : Nat} {t1 t2 : Tok} {Q : Unit → Shared → Prop} (hlow : (d == sysModules) = false) (hne : x1 ≠ x2)
    (H : St b s (.o x (dObj w.params (.ref C) (some cdx) #[] [] 0) :: .o cdx emptyDict :: .o d (pDict w.params [(x1, t1, a1), (x2, t2, a2)] ep) :: cs))
    (h : ∀ s' ep', St b s' (.o x (dObj w.params (.ref C) (some cdx) #[] [(x1, t1, a1), (x2, t2, a2)] ep') :: .o cdx emptyDict :: .o d (pDict w.params [(x1, t1, a1), (x2, t2, a2)] ep) :: cs) → Q () s') :
    wpAny (model prog w) A (Builtin.Dict.mergeDict id x d) Q E s := by
  have hxd : (x == d) = false := by
    rw [beq_eq_false_iff_ne]; rintro rfl
    have := H.nod
    simp [Cell.key] at this
  have ho := fun {s'} {y : Cell} {z : Cell} (H : St b s' (y :: z :: .o d (pDict w.params [(x1, t1, a1), (x2, t2, a2)] ep) :: cs)) => H.obj (.tail _ (.tail _ (.head _)))
  unfold Builtin.Dict.mergeDict
  rw [if_neg (by rw [hxd]; decide)]
  unfold Builtin.Dict.showsAll
  rw [if_neg (by rw [hlow]; decide)]
  refine wpAny_bind (wpAny_pure ?_)
  refine wpAny_bind (wpAny_dictEntries (ho H) rfl ?_)
  have hfew : (decide ((List.map (entOf w.params) [(x1, t1, a1), (x2, t2, a2)]).toArray.size ≤ 8) && (List.map (entOf w.params) [(x1, t1, a1), (x2, t2, a2)]).toArray.all fun e => (keyPart e.key).isSome) = true := by simp [entOf, keyPart]
  rw [hfew, if_neg (by decide)]
  refine wpAny_bind (wpAny_dictEpoch (ho H) rfl ?_)
  refine wpAny_bind (wpAny_dictEntries (ho H) rfl ?_)
  refine wpAny_bind ?_
  rw [Std.Legacy.Range.forIn_eq_forIn_range']
  have hr : List.range' [:(List.map (entOf w.params) [(x1, t1, a1), (x2, t2, a2)]).toArray.size].start [:(List.map (entOf w.params) [(x1, t1, a1), (x2, t2, a2)]).toArray.size].size [:(List.map (entOf w.params) [(x1, t1, a1), (x2, t2, a2)]).toArray.size].step = [0, 1] := by
    simp [Std.Legacy.Range.size]; rfl
  rw [hr, List.forIn_cons]
  refine wpAny_bind (wpAny_bind (wpAny_dictEntries (ho H) rfl ?_))
  refine wpAny_bind (wpAny_holding (wp_setHashed (l := []) (ep := 0) (C := .ref C) (dx := some cdx) (sl := #[]) H .head (by decide) rfl ?_))
  clear H; intro s H
  refine wpAny_bind (wpAny_dictEpoch (ho H) rfl ?_)
  rw [if_neg (by simp)]
  refine wpAny_pure ?_
  dsimp only
  rw [List.forIn_cons]
  refine wpAny_bind (wpAny_bind (wpAny_dictEntries (ho H) rfl ?_))
  refine wpAny_bind (wpAny_holding (wp_setHashed (l := [(x1, t1, a1)]) (ep := 1) (C := .ref C) (dx := some cdx) (sl := #[]) H .head (by simp) (by simp [hne]) ?_))
  clear H; intro s H
  refine wpAny_bind (wpAny_dictEpoch (ho H) rfl ?_)
  rw [if_neg (by simp)]
  refine wpAny_pure ?_
  dsimp only
  rw [List.forIn_nil]
  exact wpAny_pure (wpAny_pure (h _ _ H))
/-- a class of dict's sort is made of a plain dict with two keys -/
theorem make_dict {d C : Addr} {x1 a1 x2 a2 ep : Nat} {t1 t2 : Tok} (B : Base K b) (hm : DMk K C) (hi : findIn K (.ref C) "__init__" = some (some (.builtin "dict.__init__"))) (hord : mroIn K C (.type "collections.OrderedDict") = some false) (hne : x1 ≠ x2)
    (H : St b s (.o d (pDict w.params [(x1, t1, a1), (x2, t2, a2)] ep) :: cs))
    (h : ∀ s' x cdx ep', St b s' (.o x (dObj w.params (.ref C) (some cdx) #[] [(x1, t1, a1), (x2, t2, a2)] ep') :: .o cdx emptyDict :: .o d (pDict w.params [(x1, t1, a1), (x2, t2, a2)] ep) :: cs) → R (.ok (.ret (.ref x))) s') :
    codeAny (model prog w) A (.call (.ref C) ⟨[.ref d], []⟩) R s := by
  have H' : St b { s with heap := (s.heap.push emptyDict).push (instD C s.heap.objs.size) } (.o (s.heap.objs.size + 1) (dObj w.params (.ref C) (some s.heap.objs.size) #[] [] 0) :: .o s.heap.objs.size emptyDict :: .o d (pDict w.params [(x1, t1, a1), (x2, t2, a2)] ep) :: cs) := by
    have := (H.push (o := emptyDict)).push (o := instD C s.heap.objs.size)
    rw [Heap.size_push] at this; exact this
  obtain ⟨hh, g, dr, t, os⟩ := s
  have X := H.in_ B.X
  have Y := dmakes_of (M := model prog w) X hm
  refine dmake_core Y (looks_findIn X hi) ?_
  have X' := H'.in_ B.X
  have I := inst_ (H'.obj (.head _)) rfl (H'.obj (.tail _ (.head _)))
  have hlow : (d == sysModules) = false := by
    have h1 := Cell.base (H.sat _ (.head _)) rfl
    have h2 := B.low
    rw [beq_eq_false_iff_ne]
    intro e; rw [e] at h1; exact absurd (Nat.lt_of_lt_of_le h2 h1) (by decide)
  have L0 := I.type (M := model prog w)
  have hd : mroIn K C (.type "dict") = some true := by
    obtain ⟨⟨oc, od, cd, sl, ho, e2, e3, e4, e5, e6, e9⟩, e7, e8⟩ := hm
    have hc : clsIn K C = some cd := by unfold clsIn; rw [show K.lookup C = _ from ho]
    unfold mroIn; rw [hc, Option.bind_some, if_neg (by rw [e4]; decide), e6]
  refine call_sub (owner := "dict") (n := "__init__") B H' I hd (by decide +kernel) F.entry_dict_init (.inl (by decide +kernel)) (by decide +kernel) (F.args_dict_init_2 _ _) ?_
  unfold Builtin.«dict.__init__»
  refine wpAny_bind ?_
  unfold Builtin.Dict.selfAndRest
  refine wpAny_bind (notOrdered_sub rfl L0 (L0.andThen (looks_mroIn X' hord)) ?_)
  show wpAny _ _ (pure (hh.objs.size + 1, [Value.ref d])) _ _ _
  refine wpAny_pure ?_
  show wpAny _ _ (Builtin.Dict.updateFrom "dict.__init__" (hh.objs.size + 1) (.ref d) [] .none) _ _ _
  unfold Builtin.Dict.updateFrom
  have T : Shared.TypeIs ⟨(hh.push emptyDict).push (instD C hh.objs.size), g, dr, t, os⟩ (.ref d) "dict" := ⟨_, H'.obj (.tail _ (.tail _ (.head _))), rfl⟩
  refine wpAny_bind (wpAny_typeOf T ?_)
  rw [if_neg (by decide)]
  refine wpAny_bind ?_
  unfold Builtin.Dict.merge
  refine wpAny_bind ?_
  unfold Builtin.Dict.readDirectly
  refine wpAny_bind (wpAny_isInstance T isSubtype_dict_dict ?_)
  simp only [Bool.not_true, Bool.false_eq_true, if_false]
  refine wpAny_bind (wpAny_specialOf T F.slot_dict_iter.lookup (wpAny_pure ?_))
  simp only [beq_self_eq_true, if_true]
  refine wpAny_bind (wpAny_pure ?_)
  refine wp_merge2 hlow hne H' fun s' ep' H2 => ?_
  show wpAny _ _ (Builtin.Dict.addKeywords (hh.objs.size + 1) [] >>= _) _ _ _
  exact wpAny_bind (wpAny_pure (wpAny_pure ⟨rfl, h _ _ _ _ H2⟩))
end
end Mine
end
section
open PySem PySem.W PySem.Calls PyProof.Rows
set_option Elab.async false
namespace Mine
theorem St.move2 {b s : Shared} {p X cs : List Cell} {c d : Cell} (H : St b s (p ++ c :: d :: (X ++ cs))) : St b s (p ++ (X ++ c :: d :: cs)) := by
  refine H.perm (List.Perm.append_left p ?_)
  exact (List.perm_middle (l₁ := X) (a := c) (l₂ := d :: cs)).trans (List.Perm.cons c List.perm_middle)
theorem nodup_lt : ∀ {l : List Nat} {n : Nat}, l.Nodup → (∀ x ∈ l, x < n) → l.length ≤ n := by
  intro l n hn hb
  induction n generalizing l with
  | zero => cases l with
    | nil => exact Nat.le_refl _
    | cons x l => exact absurd (hb x (.head _)) (Nat.not_lt_zero _)
  | succ n ih =>
    have := ih (l := l.erase n) (hn.erase n) fun x hx => by
      have h := (List.Nodup.mem_erase_iff hn).mp hx
      have := hb x h.2
      omega
    have h2 : l.length - 1 ≤ (l.erase n).length := by
      rw [List.length_erase]; split <;> omega
    omega
theorem Fo.ok_keys {D : Adr} : ∀ {f : Fo}, f.ok D → f.keys.Nodup ∧ ∀ x ∈ f.keys, x < 128
  | .nil, _ => ⟨.nil, by simp [Fo.keys]⟩
  | .cons k tk a dx v kd ch r, h => by
    have := ok_keys h.2.2.2.2.2
    refine ⟨List.nodup_cons.mpr ⟨h.2.1, this.1⟩, ?_⟩
    intro x hx
    rcases List.mem_cons.mp hx with rfl | hx
    · exact h.1
    · exact this.2 x hx
theorem Fo.ok_len {D : Adr} {f : Fo} (h : f.ok D) : f.ents.length ≤ 1000 := by
  have := nodup_lt (Fo.ok_keys h).1 (Fo.ok_keys h).2
  rw [Fo.keys_eq, List.length_map] at this
  omega
def newNd (D : Adr) (n dx : Addr) : Nd := ⟨n, dx, .ref D.noval, .no, .nil⟩
theorem newNd_ok {D : Adr} {n dx} : (newNd D n dx).ok D := ⟨.no, rfl, trivial⟩
theorem newNd_er {D : Adr} {n dx} : (newNd D n dx).er D = .empty := by simp [newNd, Nd.er, valOf, isSet, Fo.er, Tn.empty]
/-- a node put in another's place -/
def Nd.put (n : Nd) : List Nat → Nd → Nd
  | [], m => m
  | x :: u, m => match n.ch.look x with
    | some c => { n with ch := n.ch.setAt x (c.put u m) }
    | none => n
theorem Nd.put_a {n m m' : Nd} {u : List Nat} (h : n.find u = some m) (ha : m'.a = m.a) : (n.put u m').a = n.a := by
  cases u with
  | nil => cases h; exact ha
  | cons x u => simp only [Nd.put]; split <;> rfl
theorem Nd.put_find {n m m' : Nd} {u w : List Nat} (h : n.find u = some m) : (n.put u m').find (u ++ w) = m'.find w := by
  induction u generalizing n with
  | nil => rfl
  | cons x u ih =>
    simp only [Nd.find] at h
    obtain ⟨c, h1, h2⟩ := Option.bind_eq_some_iff.mp h
    simp only [Nd.put, h1, List.cons_append, Nd.find]
    rw [Fo.setAt_look x _ _ (by rw [h1]; rfl)]
    exact ih h2
theorem Nd.put_ok {D : Adr} {n m m' : Nd} {u : List Nat} (h : n.find u = some m) (ho : n.ok D) (ho' : m'.ok D) : (n.put u m').ok D := by
  induction u generalizing n with
  | nil => exact ho'
  | cons x u ih =>
    simp only [Nd.find] at h
    obtain ⟨c, h1, h2⟩ := Option.bind_eq_some_iff.mp h
    simp only [Nd.put, h1]
    exact ⟨ho.1, by show kdOk n.kd (n.ch.setAt x _).keys; rw [Fo.setAt_keys]; exact ho.2.1, Fo.setAt_ok (ih h2 (Fo.look_ok h1 ho.2.2)) ho.2.2⟩
def Tn.put (t : Tn) : List Nat → Tn → Tn
  | [], m => m
  | x :: u, m => match t.ch.look x with
    | some c => { t with ch := t.ch.set x (c.put u m) }
    | none => t
theorem Nd.put_er {D : Adr} {n m m' : Nd} {u : List Nat} (h : n.find u = some m) : (n.put u m').er D = (n.er D).put u (m'.er D) := by
  induction u generalizing n with
  | nil => rfl
  | cons x u ih =>
    simp only [Nd.find] at h
    obtain ⟨c, h1, h2⟩ := Option.bind_eq_some_iff.mp h
    have e : (n.er D).ch.look x = some (c.er D) := by show (n.ch.er D).look x = _; rw [Fo.look_er, h1]; rfl
    simp only [Nd.put, h1, Tn.put, e]
    rw [← ih h2]
    simp only [Nd.er]
    rw [Fo.setAt_er D x _ _ (by rw [h1]; rfl)]
    rfl
theorem Nd.split {P : Params} {D : Adr} {n m : Nd} {u : List Nat} (h : n.find u = some m) :
    ∃ pre post, n.cells P D = pre ++ (m.cells P D ++ post) ∧ ∀ m' : Nd, m'.a = m.a → (n.put u m').cells P D = pre ++ (m'.cells P D ++ post) := by
  induction u generalizing n with
  | nil => cases h; exact ⟨[], [], by simp, fun m' _ => by simp [Nd.put]⟩
  | cons x u ih =>
    simp only [Nd.find] at h
    obtain ⟨c, h1, h2⟩ := Option.bind_eq_some_iff.mp h
    obtain ⟨p1, q1, e1, e2⟩ := ih h2
    obtain ⟨p2, q2, e3, e4⟩ := Fo.split (P := P) (D := D) h1
    refine ⟨.o n.a (nodeObj D n.dx (chVal D n.kd) n.v) :: .o n.dx noDict :: (chCells P D n.kd n.ch.ents ++ (p2 ++ p1)), q1 ++ q2, ?_, fun m' ha => ?_⟩
    · rw [Nd.cells, e3, e1]; simp only [List.cons_append, List.append_assoc]
    · simp only [Nd.put, h1]; rw [Nd.cells, e4, e2 m' ha, Fo.setAt_ents (Nd.put_a h2 ha) h1]; simp only [List.cons_append, List.append_assoc]
/-! the erased tree -/
theorem Tf.set_look (x : Nat) (c : Tn) : ∀ f : Tf, (f.set x c).look x = some c
  | .nil => by simp [Tf.set, Tf.look]
  | .cons k v ch r => by
    by_cases hk : k = x
    · simp [Tf.set, Tf.look, hk]
    · simp [Tf.set, Tf.look, hk, set_look x c r]
theorem Tf.set_set (x : Nat) (c d : Tn) : ∀ f : Tf, (f.set x c).set x d = f.set x d
  | .nil => by simp [Tf.set]
  | .cons k v ch r => by
    by_cases hk : k = x
    · simp [Tf.set, hk]
    · simp [Tf.set, hk, set_set x c d r]
theorem Tn.ins_put_new {t m : Tn} {u w : List Nat} {x : Nat} {v : Value} (h : t.sub u = some m) (hx : m.ch.look x = none) :
    (t.put u { m with ch := m.ch.set x .empty }).ins (u ++ x :: w) v = t.ins (u ++ x :: w) v := by
  induction u generalizing t with
  | nil => cases h; simp only [Tn.put, List.nil_append, Tn.ins, Tf.set_look, Tf.set_set, hx]; rfl
  | cons y u ih =>
    simp only [Tn.sub] at h
    obtain ⟨c, h1, h2⟩ := Option.bind_eq_some_iff.mp h
    simp only [Tn.put, h1, List.cons_append, Tn.ins, Tf.set_look, Tf.set_set, Option.getD_some, ih h2]
theorem Tn.put_val {t m : Tn} {u : List Nat} {v : Value} (h : t.sub u = some m) : t.put u { m with v := some v } = t.ins u v := by
  induction u generalizing t with
  | nil => cases h; rfl
  | cons y u ih =>
    simp only [Tn.sub] at h
    obtain ⟨c, h1, h2⟩ := Option.bind_eq_some_iff.mp h
    simp only [Tn.put, h1, Tn.ins, Option.getD_some, ih h2]
end Mine
end
section
open PySem PySem.W PySem.Calls PyProof.Rows
set_option Elab.async false
namespace Mine
section
variable {prog : Program} {w : World} {A : Around} {E : Value → Shared → Prop} {b s : Shared} {cs cs' : List Cell} {K : Frag} {env : Env} {L : Addr} {ns : List Str} {vs vs' : List (Option Value)} {x : Str} {pos : Pos} {v : Value}
abbrev tupObj (items : Array Value) : Obj := { cls := .type "tuple", data := .seq items }
theorem St.extNew {h' : Heap} {t : Nat} (H : St b s cs) (hs : Heap.ExtBut s.heap.objs.size s.heap h') {d : Cell} (hd : Has d cs) (hd1 : d.key.1 = true := by rfl) : St b { s with heap := h', toks := t } cs :=
  H.ext (fun a o e => hs a o (Nat.ne_of_lt (Heap.lt_size e)) e) hd hd1
theorem unpackT {elts : List Expr} {x1} {t : Addr} {items : Array Value} {Q : Unit → Shared → Prop} (hh : A.handled = none) (H : St b s cs) (ht : Has (.o t (tupObj items)) cs)
    (hn : (assignEach elts env).length = items.size) (hstar : (assignEach elts env).findIdx? (·.1) = none)
    (h : ∀ s', St b s' cs → wpAny (model prog w) A (assignInOrder ((assignEach elts env).map (·.2)) items.toList) Q E s') :
    wpAny (model prog w) A (assign (.Tuple elts x1 pos) env (.ref t)) Q E s :=
  wpAny_assign_Tuple hh ⟨_, H.obj ht.mem, rfl, _, rfl⟩ hn hstar fun h' he => h _ (H.extNew (t := s.toks) he ht)
theorem tuple_ {elts : List Expr} {x1} {Q : Value → Shared → Prop}
    (h : wpAny (model prog w) A (spliced (backTo pos (starEach elts env))) (fun vs s₁ => vs.length ≤ 1000 ∧ ∃ cs, St b s₁ cs ∧ ∀ s' t, St b s' (.o t (tupObj vs.toArray) :: cs) → Q (.ref t) s') E s) :
    wpAny (model prog w) A (eval (.Tuple elts x1 pos) env) Q E s :=
  wpAny_Tuple_spliced (wpAny_mono h (fun vs s₁ ⟨h1, cs, H, hq⟩ => ⟨Nat.le_trans h1 (by decide), hq _ _ (H.push (o := tupObj vs.toArray))⟩) fun _ _ z => z)
/-- a static method upon an object -/
structure StatOf (K : Frag) (C : Addr) (name : Str) (p : Addr) (f : Value) : Prop where
  plain : plainGet K C name = true
  dict : hasDictIn K C = true
  find : findIn K (.ref C) name = some (some (.ref p))
  ty : typeIn K (.ref p) = some (.type "staticmethod")
  get : specialIn K (.ref p) "__get__" = some (some (.builtin "staticmethod.__get__"))
  takes : takesIn K (.ref p) = some false
  copied : copiedNames.contains name = false
  recI : ∃ rest, recIn K p "staticmethod" = some (f :: rest)
  handed : handedIn f = true
theorem method_stat {name : Str} {a C p dx : Addr} {f : Value} {sl : Array (Option Value)} {d : Data} {es : List DictEntry} {n : Nat} {pl : Sem Bool} {Q : Value × List Value → Shared → Prop} (B : Base K b) (S : StatOf K C name p f) (H : St b s cs) (hm : Has (.o a ⟨.ref C, some dx, d, sl⟩) cs)
    (hn : notCls ⟨.ref C, some dx, d, sl⟩ = true) (hd : Has (.o dx (dictOf es n)) cs) (hs : getL name es = some none) (h : ∀ s', St b s' cs → Q (f, []) s') : wpAny (model prog w) A (getMethod (.ref a) name pl) Q E s := by
  obtain ⟨S1, S2, S3, S4, S5, S6, S7, ⟨rest, S8⟩, S9⟩ := S
  have X := H.in_ B.X
  have I := inst_ (H.obj hm.mem) hn (H.obj hd.mem)
  exact method_usual (r := some (.ref p)) X I (plainGet_of S1).1 (plainGet_of S1).2 S3 (by simp only [Option.all_some, S4, Option.any_some]; decide +kernel)
    (get_bind X I (plainGet_of S1).1 (findObj_fn S2 S3 S5 S6 S7 (by show lookIn name (dictOf es n) = _; rw [lookIn_dict, hs])) (plainGet_of S1).2
      (wpAny_call (sm_get (s := { s with toks := s.toks + 1 }) X S8 (handed_on S9 (h _ H.toks)))))
/-- a[i] = v by the class's own def -/
theorem setItem_own {a C f dx : Addr} {sl : Array (Option Value)} {d : Data} {od : Obj} {i v : Value} {Q : Unit → Shared → Prop} (B : Base K b) (hq : noSeq K C = true) (S : findIn K (.ref C) "__setitem__" = some (some (.ref f))) (S2 : isFn K (.ref f) = true) (H : St b s cs) {ns vs} (hf : Has (.f L ns vs) cs) (hm : Has (.o a ⟨.ref C, some dx, d, sl⟩) cs) (hn : notCls ⟨.ref C, some dx, d, sl⟩ = true) (hd : Has (.o dx od) cs)
    (h : wpAny (model prog w) A (call (.ref f) [.ref a, i, v]) (fun _ s' => Q () s') E s) : wpAny (model prog w) A (setItem (.ref a) i v) Q E s :=
  ksp_setItem (H.fr hf.mem) B.X (inst_ (H.obj hm.mem) hn (H.obj hd.mem)) hq S S2 h
end
end Mine
end
section
open PySem PySem.W PySem.Calls PyProof.Rows
set_option Elab.async false
set_option maxRecDepth 100000
set_option maxHeartbeats 4000000
namespace Mine
section
variable {prog : Program} {w : World} {A : Around} {E : Value → Shared → Prop} {b s : Shared} {cs cs' : List Cell} {K : Frag} {env : Env} {L : Addr} {ns : List Str} {vs vs' : List (Option Value)} {x : Str} {pos : Pos} {v : Value}
theorem Cell.notSys {a : Addr} {o : Obj} (B : Base K b) (H : St b s cs) (h : Has (.o a o) cs) : (a == sysModules) = false := by
  have h1 := Cell.base (H.sat _ h.mem) rfl
  have h2 := B.low
  rw [beq_eq_false_iff_ne]
  intro e; rw [e] at h1; exact absurd (Nat.lt_of_lt_of_le h2 h1) (by decide)
theorem mergeEmpty {d e : Addr} {Q : Unit → Shared → Prop} (B : Base K b) (H : St b s cs) (hd : Has (.o d noDict) cs) (he : Has (.o e noDict) cs) (h : Q () s) : wpAny (model prog w) A (mergeMapping d (.ref e) true) Q E s := by
  unfold mergeMapping
  have T : Shared.TypeIs s (.ref e) "dict" := ⟨_, H.obj he.mem, rfl⟩
  refine wpAny_bind (wpAny_isInstance T isSubtype_dict_dict ?_)
  dsimp only
  rw [if_pos rfl]
  refine wpAny_bind (wpAny_specialOf T F.slot_dict_iter.lookup ?_)
  refine wpAny_bind (wpAny_pure ?_)
  rw [show ((some (Value.builtin "dict.__iter__")) == some (Value.builtin "dict.__iter__")) = true from by decide]
  dsimp only
  rw [if_neg (by rw [Cell.notSys B H he]; decide)]
  refine wpAny_bind (wpAny_dictEntries (H.obj hd.mem) rfl ?_)
  rw [if_pos (show (#[] : Array DictEntry).isEmpty = true from rfl)]
  refine wpAny_bind (wpAny_dictEntries (H.obj he.mem) rfl ?_)
  rw [← Array.forIn_toList]
  simp only [List.forIn_nil]
  refine wpAny_bind (wpAny_pure ?_)
  refine wpAny_bind (wpAny_dictEntries (H.obj he.mem) rfl ?_)
  refine wpAny_bind (wpAny_dictEpoch (H.obj he.mem) rfl ?_)
  show wpAny _ _ (forIn (List.range 0) _ _ >>= _) _ _ _
  simp only [List.range_zero, List.forIn_nil]
  exact wpAny_pure h
theorem mergedKw {f : Value} {kwx : Sem Value} {Q : Addr → Shared → Prop} (B : Base K b) (H : St b s cs)
  (h : ∀ s₁ d, St b s₁ (.o d noDict :: cs) → wpAny (model prog w) A kwx (fun m s₂ => ∃ e cs₂, m = .ref e ∧ St b s₂ cs₂ ∧ Has (.o d noDict) cs₂ ∧ Has (.o e noDict) cs₂ ∧ Q d s₂) E s₁) :
  wpAny (model prog w) A (mergedKeywords f [(none, kwx)]) Q E s := by
  unfold mergedKeywords
  refine wpAny_bind (wpAny_alloc ?_)
  refine wpAny_bind (wpAny_holding ?_)
  dsimp only
  rw [List.forIn_cons]
  refine wpAny_bind (wpAny_bind (wpAny_bind ?_))
  rw [if_pos (show ([] : List (Str × Sem Value)).isEmpty = true from rfl)]
  refine wpAny_pure ?_
  refine wpAny_bind (wpAny_mono (h _ _ (H.push (o := noDict))) (fun m s₂ ⟨e, cs₂, hm, H₂, h1, h2, hq⟩ => ?_) fun _ _ z => z)
  subst hm
  refine wpAny_bind (wpAny_onRaise (wpAny_holding (wpAny_tryCatch (wpAny_onRaise ?_))))
  refine mergeEmpty B H₂ h1 h2 ?_
  refine wpAny_pure (show wpAny _ _ (forIn ([] : List (Option Str × Sem Value)) _ _) _ _ _ from ?_)
  rw [List.forIn_nil]
  refine wpAny_pure ?_
  rw [if_pos (show ([] : List (Str × Sem Value)).isEmpty = true from rfl)]
  exact wpAny_pure (wpAny_pure hq)
theorem kwIn {f : Value} {d : Addr} {Q : List (Str × Value) → Shared → Prop} (H : St b s cs) (hd : Has (.o d noDict) cs) (h : Q [] s) : wpAny (model prog w) A (keywordsIn f d) Q E s := by
  unfold keywordsIn
  refine wpAny_bind (wpAny_dictEntries (H.obj hd.mem) rfl ?_)
  rw [← Array.forIn_toList]
  simp only [List.forIn_nil]
  exact wpAny_bind (wpAny_pure (wpAny_pure h))
/-- f(first.., e.., **kw) where kw is empty -/
theorem callStar0 {f : Value} {first : List Value} {x0 : Sem Value} {rest : List (Bool × Sem Value)} {kwx : Sem Value} {Q : Value → Shared → Prop} (B : Base K b)
  (h : wpAny (model prog w) A (spliced ((false, x0) :: rest)) (fun vs s₀ => ∃ cs₀, St b s₀ cs₀ ∧ ∀ s₁ d, St b s₁ (.o d noDict :: cs₀) → wpAny (model prog w) A kwx (fun m s₂ => ∃ e cs₂, m = .ref e ∧ St b s₂ cs₂ ∧ Has (.o d noDict) cs₂ ∧ Has (.o e noDict) cs₂ ∧
     (∃ k, (k = Keeper.frame ∨ k = Keeper.boundFrame) ∧ Looks (model prog w) s₂.heap (keeperOf f) k) ∧ wpAny (model prog w) A (call f (first ++ vs)) Q E s₂) E s₁) E s) :
  wpAny (model prog w) A (callWith pos f first ((false, x0) :: rest) [(none, kwx)]) Q E s := by
  unfold callWith
  have ev : wpAny (model prog w) A (evalArgs f true ((false, x0) :: rest) [(none, kwx)]) (fun a s₁ => (∃ k, (k = Keeper.frame ∨ k = Keeper.boundFrame) ∧ Looks (model prog w) s₁.heap (keeperOf f) k) ∧ a.kw = [] ∧ wpAny (model prog w) A (call f (first ++ a.pos)) Q E s₁) E s := by
    unfold evalArgs
    show wpAny _ _ (spliced ((false, x0) :: rest) >>= _) _ _ _
    refine wpAny_bind (wpAny_mono h (fun vs s₀ ⟨cs₀, H₀, h₀⟩ => wpAny_bind (wpAny_pure ?_)) fun _ _ z => z)
    refine wpAny_holding ?_
    rw [if_neg (by simp)]
    refine wpAny_bind (mergedKw B H₀ fun s₁ d H₁ => wpAny_mono (h₀ s₁ d H₁) (fun m s₂ ⟨e, cs₂, hm, H₂, h1, h2, hk, hq⟩ => ⟨e, cs₂, hm, H₂, h1, h2, ?_⟩) fun _ _ z => z)
    refine wpAny_bind (wpAny_pure ?_)
    exact wpAny_bind (wpAny_holding (kwIn H₂ h1 (wpAny_pure ⟨hk, rfl, hq⟩)))
  refine wpAny_bind (wpAny_holding (wpAny_mono ev (fun a s₁ h₁ => wpAny_bind (wpAny_standAt ?_)) fun _ _ x => x))
  obtain ⟨⟨k, hk', L⟩, ha, h₁⟩ := h₁
  refine wpAny_bind (L.here ?_)
  have tail : ∀ {t : Sem Value}, wpAny (model prog w) A t Q E s₁ → wpAny (model prog w) A (t >>= fun r => holding [r] point >>= fun _ => pure r) Q E s₁ :=
    fun ht => wpAny_bind (wpAny_mono ht (fun r s₂ hr => wpAny_bind (wpAny_holding (wpAny_point (wpAny_pure hr)))) fun _ _ x => x)
  have marked (mk : Value) : wpAny (model prog w) A (callMarked mk f (first ++ a.pos) a.kw) Q E s₁ := by unfold callMarked; rw [ha]; exact Calls.wpAny_keep h₁
  have hst : (((false, x0) :: rest).any (·.1) || ([(none, kwx)] : List (Option Str × Sem Value)).any (·.1.isNone)) = true := by simp
  rw [hst]
  rcases hk' with rfl | rfl
  · exact tail (marked _)
  · exact tail (wpAny_operateT (by rw [ha]; exact h₁))
end
end Mine
end
section
open PySem PySem.W PySem.Calls PyProof.Rows
set_option Elab.async false
set_option maxRecDepth 100000
set_option maxHeartbeats 4000000
namespace Mine
section
variable {prog : Program} {w : World} {A : Around} {E : Value → Shared → Prop} {b s : Shared} {cs cs' : List Cell} {K : Frag} {env : Env} {L : Addr} {ns : List Str} {vs vs' : List (Option Value)} {x : Str} {pos : Pos} {v : Value}
theorem wp_peekA {α : Type} {K : Frag} {M : Model} {Q : α → Shared → Prop} {o : Obj} (X : K.In s.heap) (H : St b s cs) (hf : o.isFreed = false) :
    ∀ (t : Sem α) (g : Addr → Sem α), peekA K ⟨M.prog, M.w.params⟩ t = some (o, g) →
      (∀ s₁ d, St b s₁ (.o d o :: cs) → wpAny M A (g d) Q E s₁) → wpAny M A t Q E s := by
  intro t
  induction t with
  | rule _ k ih => intro g e q Γ p hΓ; exact ih () g e q Γ p hΓ
  | point _ k ih => intro g e q Γ p hΓ; exact ih () g e q Γ p hΓ
  | ask k ih => intro g e q Γ p hΓ; exact ih _ g e q Γ p hΓ
  | load a _ k ih =>
    intro g e q Γ p hΓ
    simp only [peekA] at e
    split at e
    · rename_i ob ho; exact ⟨ob, X _ _ ho, ih ob g e q Γ p hΓ⟩
    · cases e
  | alloc ob k _ =>
    intro g e q
    have e : some (ob, k) = some (o, g) := e
    obtain ⟨e1, e2⟩ := Prod.mk.inj (Option.some.inj e)
    subst e1
    subst e2
    show wpAny M A (alloc ob >>= k) Q E s
    exact wpAny_bind (wpAny_alloc (q _ _ (H.push hf)))
  | _ => intro g e; cases e
/-- a def with **kw that gets none -/
theorem enterD {R : Result → Shared → Prop} {fd : FuncData} {body : List Stmt} {f : Addr} {args : Args} {nk : List (Str × NameKind)} {T : Addr} {oT : Obj} (Fn : FnAt K f fd body) (hnk : fd.scope.names = nk) (hT : List.lookup T K = some oT) (ns : List Str) (vs : Addr → List (Option Value))
    (B : Base K b) (H : St b s cs) (hr : A.depth < recursionLimit) (hbind : peekA [(T, oT)] ⟨prog, w.params⟩ (bindArgs fd args) = some (noDict, fun d => pure (bindsOf ns (vs d))))
    (hcell : ∀ x ∈ nk, x.2 ≠ .cell) (hloc : ∀ d, ∀ x ∈ bindsOf ns (vs d), nk.lookup x.1 = some .local) (hnd : ns.Nodup) (hlen : ∀ d, ns.length = (vs d).length) (hgen : fd.scope.isGenerator = false)
    (h : ∀ s' L d env, EnvIs env L nk [] → St b s' (.f L ns (vs d) :: .o d noDict :: cs) →
      wpAny (model prog w) (A.deeper env) (execs body env) (fun fl s' => R (.ok (.ret (match fl with | .ret v => v | _ => .none))) s') (fun _ _ => False) s') :
    codeAny (model prog w) A (.call (.ref f) args) R s := by
  have X' := H.in_ B.X
  obtain ⟨oc, od, osl, ho⟩ := Fn.look
  subst hnk
  have XT : Frag.In [(T, oT)] s.heap := by
    intro a o e
    have e : List.lookup a [(T, oT)] = some o := e
    rw [List.lookup_cons] at e
    split at e
    · rename_i q
      cases e
      rw [beq_iff_eq.mp q]; exact X' _ _ hT
    · cases e
  refine codeAny_call_function hr (X' _ _ ho) rfl Fn.co hgen Fn.body (codeRec_of X' Fn.code) ?_
  refine wp_peekA (M := model prog w) XT H rfl _ _ hbind fun s₁ d H₁ => wpAny_pure ?_
  refine wpAny_newFunctionEnv hcell (hloc d) (fun h₀ hns₀ hsb₀ => ⟨(B.nolimit.keeps H₁.keep).fresh _ hsb₀, codeAny_func (wpAny_mono (h _ s₁.heap.objs.size d _ ⟨rfl, rfl, Fn.kind, Fn.globals, Fn.builtins, Fn.closure, rfl⟩ ?_) (fun _ _ x => x) fun _ _ x => x.elim)⟩) Fn.kind
  have hk₁ : ∀ b o, s₁.heap.get? b = some o → h₀.get? b = some o := fun b o e => hsb₀.extBut b o (Nat.ne_of_lt (Heap.lt_size e)) (Heap.get?_push_of_some _ e)
  have below : ∀ c ∈ (Cell.o d noDict :: cs), c.key ≠ (true, s₁.heap.objs.size) := fun c hc q => absurd (Cell.key_lt (H₁.sat c hc) q) (Nat.lt_irrefl _)
  refine ⟨fun a o q => hk₁ _ _ (H₁.keep a o q), Nat.le_of_lt (Nat.lt_of_le_of_lt H₁.size hns₀.lt), ?_, fun c hc => ?_, H₁.bare, H₁.os⟩
  · rw [List.map_cons, List.nodup_cons]
    exact ⟨fun q => let ⟨c, hc, e⟩ := List.mem_map.mp q; below c hc e, H₁.nod⟩
  · rcases List.mem_cons.mp hc with rfl | hc
    · exact ⟨by rw [← loc_bindsOf ns (vs d) hnd (hlen d)]; exact hns₀, hnd, hlen d, H₁.size⟩
    · have hs := H₁.sat c hc
      cases c with
      | o a x => exact ⟨hk₁ _ _ hs.1, hs.2⟩
      | p a P => obtain ⟨⟨x, h1, h2⟩, h3⟩ := hs; exact ⟨⟨x, hk₁ _ _ h1, h2⟩, h3⟩
      | f L ns vs => obtain ⟨⟨oL, a1, a2, hL, a3⟩, r⟩ := hs; exact ⟨⟨oL, a1, a2, hk₁ _ _ hL, a3⟩, r⟩
      | g n gs => exact hs
end
end Mine
end
section
open PySem PySem.W PySem.Calls PyProof.Rows
set_option Elab.async false
set_option maxRecDepth 100000
set_option maxHeartbeats 4000000
namespace Mine
section
variable {prog : Program} {w : World} {A : Around} {E : Value → Shared → Prop} {b s : Shared} {cs cs' : List Cell} {K : Frag} {env : Env} {L : Addr} {ns : List Str} {vs vs' : List (Option Value)} {x : Str} {pos : Pos} {v : Value}
structure DictSet (K : Frag) (C : Addr) (name : Str) : Prop where
  sa : findIn K (.ref C) "__setattr__" = some (some (.builtin "object.__setattr__"))
  plain : plainOver K C = true
  taker : takerIn K C name = some none
  dict : hasDictIn K C = true
theorem set_own_ {name : Str} {a C dx : Addr} {d : Data} {sl : Array (Option Value)} {es' : Tok → List DictEntry} {es0 : List DictEntry} {n n' : Nat} {Q : Unit → Shared → Prop} (B : Base K b) (S : DictSet K C name) (H : St b s cs) (hf : Has (.f L ns vs) cs) (hm : Has (.o a ⟨.ref C, some dx, d, sl⟩) cs) (hn : notCls ⟨.ref C, some dx, d, sl⟩ = true)
    (hd : Has (.o dx (dictOf es0 n)) cs) (hl : (getL name es0).isSome = true) (e : ∀ t, (putL name (PyData.keyHash w.params name) (.str name t) v es0, putN name es0 n) = (es' t, n')) (hz : ∀ t, (es' t).length ≤ 1000)
    (u : ∀ t, ∃ cs', Sub1 (.o dx (dictOf es0 n)) (.o dx (dictOf (es' t) n')) cs cs' ∧ ∀ s', St b s' cs' → Q () s') : wpAny (model prog w) A (setAttr (.ref a) name v) Q E s := by
  obtain ⟨cs', u, h⟩ := u (s.toks + 1)
  obtain ⟨news, N, hne, back⟩ := H.bridge hf u
  have F := H.fr hf.mem
  exact set_dict F B.X N (inst_ (H.obj hm.mem) hn (H.obj hd.mem)) rfl S.sa S.plain S.taker S.dict hl (e _) (.head hne) (hz _) fun h' F' N' => h _ (back h' (s.toks + 2) F' N')
structure ClsOf (K : Frag) (C : Addr) (name : Str) (v : Value) : Prop where
  plain : plainGet K C name = true
  dict : hasDictIn K C = true
  find : findIn K (.ref C) name = some (some v)
  get : specialIn K v "__get__" = some none
  handed : handedIn v = true
  copied : copiedNames.contains name = false
theorem attr_cls {name : Str} {a C dx : Addr} {d : Data} {sl : Array (Option Value)} {es : List DictEntry} {n : Nat} {expr : Bool} {Q : Value → Shared → Prop} (B : Base K b) (S : ClsOf K C name v) (H : St b s cs) (hm : Has (.o a ⟨.ref C, some dx, d, sl⟩) cs) (hn : notCls ⟨.ref C, some dx, d, sl⟩ = true) (hd : Has (.o dx (dictOf es n)) cs)
    (hl : getL name es = some none) (h : ∀ s', St b s' cs → Q v s') : wpAny (model prog w) A (getAttr (.ref a) name expr) Q E s :=
  get_value (H.in_ B.X) (inst_ (H.obj hm.mem) hn (H.obj hd.mem)) (plainGet_of S.plain).1 (findObj_cls S.dict S.find S.get S.handed S.copied hl) S.handed (h _ H.toks)
end
end Mine
end
section
open PySem PySem.W PySem.Calls PyProof.Rows
set_option Elab.async false
set_option maxRecDepth 100000
set_option maxHeartbeats 4000000
namespace Mine
section
variable {prog : Program} {w : World} {A : Around} {E : Value → Shared → Prop} {b s : Shared} {cs cs' : List Cell} {K : Frag} {env : Env} {L : Addr} {ns : List Str} {vs vs' : List (Option Value)} {x : Str} {pos : Pos} {v : Value}
/-- a list's object -/
def lstP (items : List Value) (o : Obj) : Prop := ∃ c, o = { cls := .type "list", dict := none, data := .seq items.toArray c, slots := #[] }
theorem St.isList {a : Addr} {items : List Value} (H : St b s cs) (h : Has (.p a (lstP items)) cs) : ∃ c, s.heap.get? a = some { cls := .type "list", dict := none, data := .seq items.toArray c, slots := #[] } := by
  obtain ⟨⟨o, ho, c, rfl⟩, _⟩ := H.sat _ h.mem; exact ⟨c, ho⟩
theorem St.newP {a : Addr} {P : Obj → Prop} {o : Obj} {h' : Heap} {t : Nat} (H : St b s cs) (hk : ∀ x y, s.heap.get? x = some y → h'.get? x = some y) (ha : s.heap.objs.size ≤ a) (ho : h'.get? a = some o) (hP : P o) : St b { s with heap := h', toks := t } (.p a P :: cs) := by
  refine ⟨fun x y q => hk x y (H.keep x y q), Nat.le_trans (Nat.le_trans H.size ha) (Nat.le_of_lt (Heap.lt_size ho)), ?_, fun c hc => ?_, H.bare, H.os⟩
  · rw [List.map_cons, List.nodup_cons]
    refine ⟨fun h => ?_, H.nod⟩
    obtain ⟨d, hd, e⟩ := List.mem_map.mp h
    exact absurd (Cell.key_lt (H.sat d hd) e) (Nat.not_lt.mpr ha)
  · rcases List.mem_cons.mp hc with rfl | hc
    · exact ⟨⟨o, ho, hP⟩, Nat.le_trans H.size ha⟩
    · exact Cell.sat_same (H.sat c hc) fun a o _ q => hk a o q
/-- list(of a tuple or a list) -/
theorem list_seq {it : Addr} {T : String} {o : Obj} {items : List Value} {n : Nat} {Q : Value → Shared → Prop} (H : St b s cs) (hT : T = "list" ∨ T = "tuple") (ho : s.heap.get? it = some o) (hc : o.cls = .type T) (hd : o.data = .seq items.toArray n) (hz : items.length ≤ 1000)
    (h : ∀ s' l, St b s' (.p l (lstP items) :: cs) → Q (.ref l) s') : wpAny (model prog w) A (call (.type "list") [.ref it]) Q E s :=
  call_list_seq it hT ho hc hd (fun h' c' hk hl => h _ _ (H.newP (t := s.toks) hk (Nat.le_refl _) hl ⟨c', rfl⟩)) (by rw [List.size_toArray]; exact Nat.le_trans hz (by decide))
/-- a list and another -/
theorem add_list_ {l l2 : Addr} {i1 i2 : List Value} {Q : Value → Shared → Prop} (H : St b s cs) (h1 : Has (.p l (lstP i1)) cs) (h2 : Has (.p l2 (lstP i2)) cs) (hz : i1.length + i2.length ≤ 1000)
    (h : ∀ s' l, St b s' (.p l (lstP (i1 ++ i2)) :: cs) → Q (.ref l) s') : wpAny (model prog w) A (binaryOp .Add (.ref l) (.ref l2)) Q E s := by
  obtain ⟨c1, g1⟩ := H.isList h1
  obtain ⟨c2, g2⟩ := H.isList h2
  refine PySem.P.add_list (items := i1.toArray) (items2 := i2.toArray) (n := c1) (n2 := c2) g1 g2 (h _ _ ?_) (by simp only [List.size_toArray]; exact Nat.le_trans hz (by decide))
  refine H.newP (t := s.toks) (fun x y q => Heap.get?_push_of_some _ q) (Nat.le_refl _) (Heap.get?_push_size _ rfl) ⟨0, ?_⟩
  simp
theorem hint_items {r : Addr} {Q : Bool → Shared → Prop} (hT : s.TypeIs (.ref r) "dict_items") (h : Q false s) : wpAny (model prog w) A (Builtin.List.listLengthHint (.ref r)) Q E s := by
  unfold Builtin.List.listLengthHint
  refine wpAny_bind (wpAny_specialOf (r := some (.builtin "dict_items.__len__")) hT (by rw [typeLookup_type, builtinLookup_eq_fast]; kernel_rfl) ?_)
  generalize hid : ("dict_items.__len__" : String) = id0
  wp_delta
  rw [show splitId id0 = some ("dict_items", "__len__") from by subst hid; decide +kernel]
  subst hid
  refine wpAny_bind (wpAny_isInstance (T := "dict_items") (b := true) hT (by rw [isSubtype_type]; kernel_rfl) ?_)
  refine wpAny_ite_split (fun hab => absurd hab (by decide)) (fun _ => ?_)
  refine wpAny_ite_split (fun _ => ?_) (fun hab => absurd (by decide +kernel) hab)
  refine wpAny_bind (wpAny_typeOf hT ?_)
  exact wpAny_pure h
theorem noDict_at {h : Heap} {d : Addr} (hd : h.get? d = some noDict) : h.DictAt (PySem.strKind prog w) d [] 0 :=
  ⟨_, #[], hd, ⟨rfl, rfl, rfl⟩, rfl, fun e he => by simp at he, .nil, by simp⟩
theorem src_items {r d : Addr} : KdlSrc prog w "dict_items" r d 0 (fun _ _ => True) (fun h => h.IsItemsView r d ∧ h.get? d = some noDict) where
  type := fun _ hm => hm.1.typeIs
  there := fun _ hm => ⟨let ⟨_, ho, _⟩ := hm.1; Heap.lt_size ho, Heap.lt_size hm.2⟩
  keep := fun _ _ hm hk => ⟨let ⟨o, ho, x⟩ := hm.1; ⟨o, hk r (.inl rfl) o ho, x⟩, hk d (.inr rfl) _ hm.2⟩
  notList := by decide
  notTuple := by decide
  hint := fun _ _ _ _ hm hq => hint_items hm.1.typeIs hq
  iter := fun A s hh hm => ⟨_, fun i h => IsItemIter h s.heap.objs.size d i 0 0 .none .none ∧ h.get? d = some noDict, (fun _ _ hq => wpAny_pyIter_items (knd := PySem.strKind prog w) (kvs := []) (ep := 0) hm.1 (noDict_at hm.2) hq), {
      sub := fun b hb => by simp at hb; simp [hb]
      frame := fun _ _ _ st hk => ⟨hk _ (by simp) _ st.1, hk _ (by simp) _ st.2⟩
      item := fun i s Q E hi => absurd hi (Nat.not_lt_zero _)
      done := fun s' Q E st hQ => wpAny_pyNext_items_end (knd := PySem.strKind prog w) (kvs := []) hh st.1 (noDict_at st.2) rfl fun h' he' => hQ h' s'.toks fun b o hb e => he' b o (fun h => hb (by simp [h])) e
      self := fun i s' Q E st hQ => by
        exact kcp_self st.1 hQ }, ⟨Heap.get?_push_size _ rfl, Heap.get?_push_of_some _ hm.2⟩⟩
theorem list_items0 {r d : Addr} {Q : Value → Shared → Prop} (hh : A.handled = none) (H : St b s cs) (hr : Has (.o r { cls := .type "dict_items", data := .fields #[.ref d] }) cs) (hd : Has (.o d noDict) cs)
    (h : ∀ s' l, St b s' (.p l (lstP []) :: cs) → Q (.ref l) s') : wpAny (model prog w) A (call (.type "list") [.ref r]) Q E s := by
  refine kdl_call (src_items (d := d)) hh ⟨⟨_, H.obj hr.mem, rfl, rfl⟩, H.obj hd.mem⟩ (by decide) fun h' tk acc' c' hk hl hacc => h _ _ (H.newP (t := tk) hk (Nat.le_refl _) hl ⟨c', ?_⟩)
  have : acc' = #[] := Array.eq_empty_of_size_eq_zero hacc.1
  rw [this]
theorem call_items0 {d : Addr} {Q : Value → Shared → Prop} (B : Base K b) (H : St b s cs) (hd : Has (.o d noDict) cs) (h : ∀ s' r, St b s' (.o r { cls := .type "dict_items", data := .fields #[.ref d] } :: cs) → Q (.ref r) s') :
    wpAny (model prog w) A (call (.builtin "dict.items") [.ref d]) Q E s :=
  call_meetsIn PySem.F.slot_dict_items (show Shared.TypeIs s (.ref d) "dict" from ⟨_, H.obj hd.mem, rfl⟩) PySem.F.entry_dict_items (PySem.F.args_dict_items_1 _) (meets_dict_items (PySem.strKind prog w) d (Cell.notSys B H hd))
    ⟨⟨[], (noDict_at (H.obj hd.mem)).dictOf⟩, h _ _ (H.push (o := { cls := .type "dict_items", data := .fields #[.ref d] }))⟩
end
end Mine
end
section
open PySem PySem.W PySem.Calls PyProof.Rows
set_option Elab.async false
set_option maxRecDepth 100000
set_option maxHeartbeats 4000000
namespace Mine
section
variable {prog : Program} {w : World} {A : Around} {E : Value → Shared → Prop} {b s : Shared} {cs cs' : List Cell} {K : Frag} {env : Env} {L : Addr} {ns : List Str} {vs vs' : List (Option Value)} {x : Str} {pos : Pos} {v : Value}
theorem forEmpty {R : Result → Shared → Prop} {tgt : Expr} {it : Value} {body : List Stmt} (h : wpAny (model prog w) A (pyNext it) (fun r s₁ => r = none ∧ R (.ok .next) s₁) (fun _ _ => False) s) :
    codeAny (model prog w) A (.forLoop tgt it body [] env) R s := by
  refine codeAny_forLoop_any (fun _ s' => s' = s) (fun n s' e => ?_) 0 rfl
  subst e
  refine wpAny_mono h (fun r s₁ ⟨h1, h2⟩ => ?_) fun _ _ z => z.elim
  subst h1
  exact wpAny_execs_nil h2
abbrev LIter (l : Addr) (i : Nat) (o : Obj) : Prop := o.cls = .type "list_iterator" ∧ o.data = .fields #[.ref l, .int i 0]
theorem St.list {a : Addr} {items : List Value} (H : St b s cs) (h : Has (.p a (lstP items)) cs) : s.heap.IsList a items.toArray := let ⟨_, g⟩ := H.isList h; ⟨_, g, rfl, _, rfl⟩
theorem iterList {l : Addr} {items : List Value} {Q : Value → Shared → Prop} (H : St b s cs) (h : Has (.p l (lstP items)) cs) (k : ∀ s' it, St b s' (.p it (LIter l 0) :: cs) → Q (.ref it) s') : wpAny (model prog w) A (pyIter (.ref l)) Q E s :=
  wpAny_pyIter_list (H.list h) (k _ s.heap.objs.size (H.newP (t := s.toks) (fun x y q => Heap.get?_push_of_some _ q) (Nat.le_refl _) (Heap.get?_push_size _ rfl) ⟨rfl, rfl⟩))
theorem nextList {l it : Addr} {i : Nat} {items : List Value} {y : Value} {Q : Option Value → Shared → Prop} (H : St b s cs) (h : Has (.p l (lstP items)) cs) (u : Sub1 (.p it (LIter l i)) (.p it (LIter l (i + 1))) cs cs') (hy : items[i]? = some y)
    (k : ∀ s', St b s' cs' → Q (some y) s') : wpAny (model prog w) A (pyNext (.ref it)) Q E s := by
  obtain ⟨⟨o, ho, h1, h2⟩, hb⟩ := H.sat _ u.mem
  refine wpAny_pyNext_list_item ⟨o, ho, h1, h2⟩ (H.list h) (by simpa using hy) fun h' hi hsb => k _ (H.change (t := s.toks) u rfl rfl hb hsb ⟨let ⟨o, a, b, c⟩ := hi; ⟨o, a, b, c⟩, hb⟩)
theorem endList {l it : Addr} {i : Nat} {items : List Value} {Q : Option Value → Shared → Prop} (hh : A.handled = none) (H : St b s (.p it (LIter l i) :: cs)) (h : Has (.p l (lstP items)) cs) (hy : items[i]? = none)
    (k : ∀ s', St b s' cs → Q none s') : wpAny (model prog w) A (pyNext (.ref it)) Q E s := by
  obtain ⟨⟨o, ho, h1, h2⟩, hb⟩ := H.sat _ (.head _)
  exact wpAny_pyNext_list_end hh ⟨o, ho, h1, h2⟩ (H.list (.tail h)) (by simpa using hy) fun h' he => k _ (H.extBut (t := s.toks) rfl he h rfl)
theorem meth_bi {T : String} {name : Str} {id : String} {pl : Sem Bool} {a : Addr} {o : Obj} {Q : Value × List Value → Shared → Prop} (ho : s.heap.get? a = some o) (hc : o.cls = .type T) (hd : o.dict = none) (pa : PySem.PlainAttrs T) (sl : PySem.Slot T name id) (ht : typeOf (.builtin id) = pure (.type "method_descriptor"))
    (k : Q (.builtin id, [.ref a]) s) : wpAny (model prog w) A (getMethod (.ref a) name pl) Q E s :=
  getMethod_builtin ⟨o, ho, hc⟩ pa sl ht (fun a' e => by cases e; exact ⟨o, ho, hd⟩) k
end
end Mine
end
section
open PySem PySem.W PySem.Calls PyProof.Rows
set_option Elab.async false
set_option maxRecDepth 100000
set_option maxHeartbeats 4000000
namespace Mine
section
variable {prog : Program} {w : World} {A : Around} {E : Value → Shared → Prop} {b s : Shared} {cs cs' : List Cell} {K : Frag} {env : Env} {L : Addr} {ns : List Str} {vs vs' : List (Option Value)} {pos : Pos}
theorem MethodCallStar {M : Model} {o kw : Expr} {name : Str} {apos pos kpos : Pos} {args : List Expr} {Q : Value → Shared → Prop}
  (h : wpAny M A (eval o env) (fun ov s₁ => wpAny M A (getAttr ov name true) (fun f s₂ => wpAny M A (callWith pos f [] (backTo pos (starEach args env)) (backToKw pos (keywordEach [⟨none, kw, kpos⟩] env))) Q E s₂) E s₁) E s)
  (he : eval (.Call (.Attribute o name apos) args [⟨none, kw, kpos⟩] pos) env = (do let ov ← eval o env; standAt apos.atName; let (f, first) ← holding [ov] (do pure (← getAttr ov name true, [])); let p ← (pure pos : Sem Pos); callWith p f first (backTo pos (starEach args env)) (backToKw pos (keywordEach [⟨none, kw, kpos⟩] env))) := by rfl) :
  wpAny M A (eval (.Call (.Attribute o name apos) args [⟨none, kw, kpos⟩] pos) env) Q E s := by
  rw [he]
  refine wpAny_bind (wpAny_mono h (fun ov s₁ h₁ => wpAny_bind (wpAny_standAt (wpAny_bind (wpAny_holding (wpAny_bind (wpAny_mono h₁ (fun fx s₂ h₂ => wpAny_pure ?_) fun _ _ x => x)))))) fun _ _ x => x)
  exact wpAny_bind (wpAny_pure h₂)
theorem callStar1 {f : Value} {first : List Value} {e kw : Expr} {kpos : Pos} {Q : Value → Shared → Prop} (B : Base K b)
  (he : starEach [e] env = [(false, eval e env)])
  (h : wpAny (model prog w) A (spliced (backTo pos (starEach [e] env))) (fun vs s₀ => ∃ cs₀, St b s₀ cs₀ ∧ ∀ s₁ d, St b s₁ (.o d noDict :: cs₀) → wpAny (model prog w) A (eval kw env) (fun m s₂ => ∃ e cs₂, m = .ref e ∧ St b s₂ cs₂ ∧ Has (.o d noDict) cs₂ ∧ Has (.o e noDict) cs₂ ∧
     (∃ k, (k = Keeper.frame ∨ k = Keeper.boundFrame) ∧ Looks (model prog w) s₂.heap (keeperOf f) k) ∧ wpAny (model prog w) A (call f (first ++ vs)) Q E s₂) E s₁) E s) :
  wpAny (model prog w) A (callWith pos f first (backTo pos (starEach [e] env)) (backToKw pos (keywordEach [⟨none, kw, kpos⟩] env))) Q E s := by
  rw [he] at h ⊢
  refine callStar0 (b := b) B ?_
  refine wpAny_mono h (fun vs s₀ ⟨cs₀, H₀, k⟩ => ⟨cs₀, H₀, fun s₁ d H₁ => ?_⟩) fun _ _ z => z
  exact wpAny_bind (wpAny_mono (k s₁ d H₁) (fun m s₂ z => wpAny_bind (wpAny_standAt (wpAny_pure z))) fun _ _ z => z)
/-- a def of the class as a method object of the instance -/
structure FnOf (K : Frag) (C : Addr) (name : Str) (f : Addr) : Prop where
  plain : plainGet K C name = true
  dict : hasDictIn K C = true
  find : findIn K (.ref C) name = some (some (.ref f))
  get : specialIn K (.ref f) "__get__" = some (some (.builtin "function.__get__"))
  takes : takesIn K (.ref f) = some false
  copied : copiedNames.contains name = false
  ty : typeIn K (.ref f) = some (.type "function")
  fn : fnIn K f = true
theorem attr_fn {name : Str} {a C f dx : Addr} {d : Data} {sl : Array (Option Value)} {es : List DictEntry} {n : Nat} {expr : Bool} {Q : Value → Shared → Prop} (B : Base K b) (S : FnOf K C name f) (H : St b s cs) (hm : Has (.o a ⟨.ref C, some dx, d, sl⟩) cs) (hn : notCls ⟨.ref C, some dx, d, sl⟩ = true) (hd : Has (.o dx (dictOf es n)) cs)
    (hl : getL name es = some none) (h : ∀ s' q, St b s' (.o q (methodObj (.ref f) (.ref a)) :: cs) → Q (.ref q) s') : wpAny (model prog w) A (getAttr (.ref a) name expr) Q E s := by
  have X := H.in_ B.X
  exact get_bind X (inst_ (H.obj hm.mem) hn (H.obj hd.mem)) (plainGet_of S.plain).1 (findObj_fn S.dict S.find S.get S.takes S.copied (by show lookIn name (dictOf es n) = _; rw [lookIn_dict, hl])) (plainGet_of S.plain).2
    (wpAny_call (fn_get (s := { s with toks := s.toks + 1 }) X S.ty (handed_on rfl (h _ _ ((H.toks (t := s.toks + 1)).push (o := methodObj (.ref f) (.ref a)))))))
theorem keeps_meth {q a f : Addr} (B : Base K b) (hf : fnIn K f = true) (H : St b s cs) (hq : Has (.o q (methodObj (.ref f) (.ref a))) cs) : ∃ k, (k = Keeper.frame ∨ k = Keeper.boundFrame) ∧ Looks (model prog w) s.heap (keeperOf (.ref q)) k := by
  have X := H.in_ B.X
  unfold fnIn at hf
  split at hf
  · rename_i e
    refine ⟨.boundFrame, .inr rfl, (Looks.ld (part := none) (H.obj hq.mem)).andThen ?_⟩
    exact (Looks.ld (part := none) (X _ _ e)).andThen .now
  · cases hf
/-- a tuple's place, whatever expression told the tuple -/
theorem item_tup {value slice : Expr} {t : Addr} {items : Array Value} {k : Int} {u : Tok} {j : Nat} {y : Value} {Q : Value → Shared → Prop} (ht : IsTup s.heap t items)
    (hlo : -(2 ^ 63) ≤ k) (hhi : k < 2 ^ 63) (hj : seqIndex? k items.size = some j) (hx : items[j]? = some y) (h : Q y s)
    (hs : subscripted slice false (.ref t) (.int k u) = operate [.ref t, .int k u] (getItem (.ref t) (.int k u)) := by with_unfolding_all rfl) :
    wpAny (model prog w) A (subscriptTail value slice (.ref t) (.int k u)) Q E s := by
  unfold subscriptTail
  refine wpAny_bind ?_
  rw [getitemInPython_of_ne ht.typeIs.not_modules]
  refine wpAny_bind (wpAny_specialOf ht.typeIs slot_tuple_getitem.lookup ?_)
  have fin : wpAny (model prog w) A (subscripted slice false (.ref t) (.int k u)) (fun r s₃ => wpAny (model prog w) A (letTemporaryGo value (.ref t) r >>= fun _ => pure r) Q E s₃) E s := by
    rw [hs]
    exact wpAny_operating (wpAny_mono (getItem_tuple ht hlo hhi hj hx h) (fun r s₃ h₃ => wpAny_bind (wpAny_letTemporaryGo (wpAny_pure h₃))) fun _ _ x => x)
  exact wpAny_pure (wpAny_bind fin)
theorem EnvIs.quiet {nk : List (Str × NameKind)} {cl : List (Str × Addr)} (V : EnvIs env L nk cl) : interactive env = false := by unfold interactive; rw [V.kind]; rfl
end
end Mine
end
section
open PySem PySem.W PySem.Calls PyProof.Rows
set_option Elab.async false
set_option maxRecDepth 100000
set_option maxHeartbeats 4000000
namespace Mine
/-- a generator's run up to its next stop -/
def Sg (M : Model) (A : Around) (c : Code) (t : Sem Fin) (fs : List Frame) (s : Shared) (Φ : End → Shared → Prop) : Prop := ∀ Γ p, Γ.code = c → Ctx.Woken Γ A → ∃ e s', Runs M Γ p t fs s e s' ∧ Φ e s'
section
variable {M : Model} {A : Around} {c : Code} {fs : List Frame} {s : Shared} {Φ : End → Shared → Prop}
theorem sg_wrap {α : Type} {m : Sem α} {K : α → Sem Fin} {H : Value → Sem Fin} {gd lv}
    (h : wpAny M (A.over c fs) m (fun a s' => Sg M A c (K a) fs s' Φ) (fun x s' => Sg M A c (H x) fs s' Φ) s) : Sg M A c (m.wrap K H gd lv) fs s Φ := by
  rintro Γ p rfl hΓ
  exact runs_wrap_of_wp K H gd lv m (h (Γ.over fs) p (hΓ.over fs)) (fun a p' s' h' => h' Γ p' rfl hΓ) (fun x p' s' h' => h' Γ p' rfl hΓ)
theorem sg_bind {α : Type} {m : Sem α} {K : α → Sem Fin}
    (h : wpAny M (A.over c fs) m (fun a s' => Sg M A c (K a) fs s' Φ) (fun x s' => Sg M A c (.raise x) fs s' Φ) s) : Sg M A c (m >>= K) fs s Φ := by
  rw [Sem.bind_eq_wrap']; exact sg_wrap h
theorem sg_at {p' : Pos} {k : Unit → Sem Fin} (h : Sg M A c (k ()) fs s Φ) : Sg M A c (.at p' k) fs s Φ :=
  sg_wrap (m := standAt p') (K := k) (H := .raise) (gd := id) (lv := id) (wpAny_standAt h)
theorem sg_point {l : List Value} {k : Unit → Sem Fin} (h : Sg M A c (k ()) fs s Φ) : Sg M A c (.point l k) fs s Φ :=
  sg_wrap (m := point) (K := k) (H := .raise) (gd := id) (lv := fun _ => l) (wpAny_point h)
theorem sg_call {c' : Code} {h g l} {k : Result → Sem Fin} (hc : ∀ p, Sg M A c' (M.den c') (.ret k h g l c p [] :: fs) s Φ) : Sg M A c (.call c' h g l k) fs s Φ := by
  rintro Γ p rfl hΓ
  obtain ⟨e, s', hr, he⟩ := hc p (Γ.goto c') p rfl (hΓ.goto c')
  exact ⟨e, s', runs_call_seg hr, he⟩
theorem sg_leaf {k h g l c₁ p₁ kp} (r : Result) (hk : Sg M A c₁ (k r) fs s Φ) : Sg M A c (leafOf r) (.ret k h g l c₁ p₁ kp :: fs) s Φ := by
  rintro Γ p rfl hΓ
  obtain ⟨e, s', hr, he⟩ := hk (Γ.goto c₁) p₁ rfl (hΓ.goto c₁)
  exact ⟨e, s', Runs.pop r hr, he⟩
theorem sg_again {c' : Code} (hq : c'.quiet = true) (hc : Sg M A c' (M.den c') fs s Φ) : Sg M A c (.pure (.again c')) fs s Φ := by
  rintro Γ p rfl hΓ
  obtain ⟨e, s', hr, he⟩ := hc (Γ.goto c') p rfl (hΓ.goto c')
  exact ⟨e, s', Runs.head (c₁ := c') (fun _ _ x => .again hq x) hr, he⟩
theorem sg_end (r : Result) (h : Φ (.ret r) s) : Sg M A c (leafOf r) [] s Φ := by
  rintro Γ p rfl _
  exact ⟨.ret r, s, Runs.leaf r, h⟩
/-- where a generator that stopped goes on -/
def Goes (M : Model) (A : Around) (gs : GenState) (s : Shared) (Φ : End → Shared → Prop) : Prop :=
  match gs with
  | .fresh c => Sg M A c (M.den c) [] s Φ
  | .suspended k _ c _ fs _ => Sg M A c (k (.send .none)) fs s Φ
  | _ => False
theorem sg_yield {v g l} {k : Resume → Sem Fin} (hfs : splitAtGen fs = none) (hg : g = false) (hfg : fs.any Frame.guarded = false)
    (h : ∀ gs : GenState, gs.bare = true → (∀ A' s'' Ψ, Sg M A' c (k (.send .none)) fs s'' Ψ → Goes M A' gs s'' Ψ) → ∀ e : End, e.quiet = true → e.genState = gs → e.result = .yielded v → Φ e s) : Sg M A c (.yield v g l k) fs s Φ := by
  rintro Γ p rfl _
  refine ⟨_, s, Runs.yield' fs hfs, h _ ?_ ?_ _ ?_ rfl rfl⟩
  · simp [End.genState, GenState.bare, hg, hfg]
  · intro A' s'' Ψ h; exact h
  · simp [End.quiet, hg, hfg]
variable {env : Env} {K : Flow → Sem Fin} {H : Value → Sem Fin} {gd : Bool → Bool} {lv : List Value → List Value}
theorem sg_execs_nil (h : Sg M A c (K .next) fs s Φ) : Sg M A c ((execs [] env).wrap K H gd lv) fs s Φ := h
theorem sg_execs_cons {st : Stmt} {rest : List Stmt}
    (h : Sg M A c ((exec st env).wrap (fun f => match f with | .next => (execs rest env).wrap K H gd lv | f => K f) H gd lv) fs s Φ) :
    Sg M A c ((execs (st :: rest) env).wrap K H gd lv) fs s Φ := by rw [execs_cons_wrap]; exact h
theorem sg_If {test body orelse pos} (h : wpAny M (A.over c fs) (isTrue test env (eval test env)) (fun b s' => if b = true then Sg M A c ((execs body env).wrap K H gd lv) fs s' Φ else Sg M A c ((execs orelse env).wrap K H gd lv) fs s' Φ) (fun x s' => Sg M A c (H x) fs s' Φ) s) :
    Sg M A c ((exec (.If test body orelse pos) env).wrap K H gd lv) fs s Φ := by
  rw [exec_If]
  show Sg M A c (.at pos fun _ => ((isTrue test env (eval test env) >>= fun b => if b = true then execs body env else execs orelse env)).wrap K H gd lv) fs s Φ
  refine sg_at ?_
  rw [Sem.bind_eq_wrap', Sem.wrap_wrap]
  refine sg_wrap (wpAny_mono h (fun b s' hb => ?_) fun _ _ x => x)
  cases b with
  | true => exact hb
  | false => exact hb
theorem sg_Expr_Yield {e : Expr} {ypos pos : Pos} (hfs : splitAtGen fs = none) (hgd : gd false = false) (hfg : fs.any Frame.guarded = false)
    (h : wpAny M (A.over c fs) (eval e env) (fun v s' => ∀ gs : GenState, gs.bare = true → (∀ A' s'' Ψ, Sg M A' c (K .next) fs s'' Ψ → Goes M A' gs s'' Ψ) → ∀ e : End, e.quiet = true → e.genState = gs → e.result = .yielded v → Φ e s')
      (fun x s' => Sg M A c (H x) fs s' Φ) s) (hco : env.scope.isCoroutine = false) (hi : interactive env = false) :
    Sg M A c ((exec (.Expr (.Yield (some e) ypos) pos) env).wrap K H gd lv) fs s Φ := by
  rw [exec_Expr env _ pos hi rfl]
  show Sg M A c (.at pos fun _ => ((eval e env >>= fun v => (standAt ypos >>= fun _ => yieldOut env v)) >>= fun x =>
    dropValue (.Yield (some e) ypos) pos x).wrap K H gd lv) fs s Φ
  have hy : ∀ v, yieldOut env v = yieldValue v := fun v => by simp only [yieldOut, hco, Bool.false_eq_true, if_false]
  simp only [hy]
  refine sg_at ?_
  rw [Sem.bind_eq_wrap', Sem.bind_eq_wrap', Sem.wrap_wrap, Sem.wrap_wrap]
  refine sg_wrap (wpAny_mono h (fun v s' h' => ?_) fun _ _ x => x)
  exact sg_at (sg_yield hfs hgd hfg fun gs hb hk e h1 h2 h3 => h' gs hb (fun A' s'' Ψ q => hk A' s'' Ψ q) e h1 h2 h3)
/-- «if test: yield e», and then the rest, which is shown once -/
theorem sg_yield_If {test e : Expr} {ypos p1 p2 : Pos} {Rst : Around → Shared → (End → Shared → Prop) → Prop} (hfs : splitAtGen fs = none) (hgd : gd false = false) (hfg : fs.any Frame.guarded = false) (hco : env.scope.isCoroutine = false) (hi : interactive env = false)
    (rest : ∀ A' s' Ψ, Rst A' s' Ψ → Sg M A' c (K .next) fs s' Ψ)
    (h : wpAny M (A.over c fs) (isTrue test env (eval test env)) (fun bb s' => if bb = true then wpAny M (A.over c fs) (eval e env) (fun v s'' => ∀ gs : GenState, gs.bare = true → (∀ A' s3 Ψ, Rst A' s3 Ψ → Goes M A' gs s3 Ψ) → ∀ e : End, e.quiet = true → e.genState = gs → e.result = .yielded v → Φ e s'') (fun _ _ => False) s' else Rst A s' Φ) (fun _ _ => False) s) :
    Sg M A c ((exec (.If test [.Expr (.Yield (some e) ypos) p1] [] p2) env).wrap K H gd lv) fs s Φ := by
  refine sg_If (wpAny_mono h (fun bb s' hb => ?_) fun _ _ z => z.elim)
  cases bb with
  | true =>
    rw [if_pos rfl] at hb ⊢
    refine sg_execs_cons (sg_Expr_Yield hfs hgd hfg (wpAny_mono hb (fun v s'' hv => ?_) fun _ _ z => z.elim) hco hi)
    exact fun gs h1 h2 => hv gs h1 fun A' s3 Ψ hr => h2 A' s3 Ψ (rest A' s3 Ψ hr)
  | false =>
    rw [if_neg (by decide)] at hb ⊢
    exact sg_execs_nil (rest A s' Φ hb)
theorem sg_induct {c : Code} {t : Sem Fin} {P : Around → Nat → Shared → (End → Shared → Prop) → Prop} (step : ∀ N, (∀ A N' s Φ, N' < N → P A N' s Φ → Sg M A c t fs s Φ) → ∀ A s Φ, P A N s Φ → Sg M A c t fs s Φ) : ∀ N A s Φ, P A N s Φ → Sg M A c t fs s Φ := by
  intro N
  induction N using Nat.strongRecOn with
  | ind N ih => exact fun A s Φ h => step N (fun A N' s Φ hl hp => ih N' hl A s Φ hp) A s Φ h
/-- the frame that waits for a loop -/
abbrev loopFrame (env : Env) (K : Flow → Sem Fin) (H : Value → Sem Fin) (gd : Bool → Bool) (lv : List Value → List Value) (c : Code) (p : Pos) : Frame :=
  .ret (fun r => ((match r with | .ok f => (.pure f : Sem Flow) | .error e => .raise e).onRaise fun (x : Value) => do
        if (← field x 1) == Value.none then unsupported "frame.own-activation:exception-without-traceback"
        setFlight x env.frame).wrap K H gd lv) none (gd false) (lv []) c p []
theorem sg_While {test : Expr} {body orelse : List Stmt} {pos : Pos}
    (h : ∀ p, Sg M A (.whileLoop test body orelse env) (M.den (.whileLoop test body orelse env)) (loopFrame env K H gd lv c p :: fs) s Φ) :
    Sg M A c ((exec (.While test body orelse pos) env).wrap K H gd lv) fs s Φ := sg_at (sg_call h)
theorem sg_For {target iter : Expr} {body orelse : List Stmt} {pos : Pos}
    (h : wpAny M (A.over c fs) (eval iter env) (fun x s₁ => wpAny M (A.over c fs) (pyIter x) (fun it s₂ => ∀ p, Sg M A (.forLoop target it body orelse env) (M.den (.forLoop target it body orelse env)) (loopFrame env K H gd lv c p :: fs) s₂ Φ) (fun x s' => Sg M A c (H x) fs s' Φ) s₁) (fun x s' => Sg M A c (H x) fs s' Φ) s)
    (hs : ∀ x, foldedSetIterable iter env x = pure x) :
    Sg M A c ((exec (.For target iter body orelse pos) env).wrap K H gd lv) fs s Φ := by
  rw [exec_For]
  show Sg M A c (.at pos fun _ => (eval iter env >>= fun v => (foldedSetIterable iter env v >>= fun x => (standAt iter.pos >>= fun _ => (holding [x] (pyIter x) >>= fun it => runOwn (.forLoop target it body orelse env) env)))).wrap K H gd lv) fs s Φ
  refine sg_at ?_
  simp only [hs]
  rw [Sem.bind_eq_wrap', Sem.wrap_wrap]
  refine sg_wrap (wpAny_mono h (fun v s₁ h₁ => ?_) fun _ _ x => x)
  show Sg M A c (.at iter.pos fun _ => (holding [v] (pyIter v) >>= fun it => runOwn (.forLoop target it body orelse env) env).wrap K H gd lv) fs s₁ Φ
  refine sg_at ?_
  rw [Sem.bind_eq_wrap', Sem.wrap_wrap]
  refine sg_wrap (wpAny_holding (wpAny_mono h₁ (fun it s₂ h₂ => ?_) fun _ _ x => x))
  exact sg_call h₂
end
section
variable {prog : Program} {w : World} {A : Around} {fs : List Frame} {s : Shared} {env : Env} {Φ : End → Shared → Prop}
abbrev noted (env : Env) (e : Value) : Sem Fin := (do noteFrame e env; theTreesLotGoes e : Sem Unit).wrap (fun _ => .raise e) .raise id id
theorem sg_whileLoop {test : Expr} {body orelse : List Stmt}
    (h : wpAny (model prog w) (A.over (.whileLoop test body orelse env) fs) (isTrue test env (eval test env)) (fun b s' =>
        if b = true then
          Sg (model prog w) A (.whileLoop test body orelse env) ((execs body env).wrap (fun f => match f with
            | .next | .cont => .pure (.again (.whileLoop test body orelse env))
            | .brk => .pure (.done .next)
            | .ret v => .pure (.done (.ret v))) (noted env) id id) fs s' Φ
        else Sg (model prog w) A (.whileLoop test body orelse env) ((execs orelse env).wrap (fun f => .pure (.done f)) (noted env) id id) fs s' Φ)
      (fun x s' => Sg (model prog w) A (.whileLoop test body orelse env) (noted env x) fs s' Φ) s) :
    Sg (model prog w) A (.whileLoop test body orelse env) ((model prog w).den (.whileLoop test body orelse env)) fs s Φ := by
  show Sg _ A _ ((whileTurn test body orelse env).onRaise (fun x => do noteFrame x env; theTreesLotGoes x)) fs s Φ
  unfold whileTurn
  rw [Sem.onRaise_eq_wrap, Sem.bind_eq_wrap', Sem.wrap_wrap]
  refine sg_wrap (wpAny_mono h (fun b s' hb => ?_) fun x s' hx => ?_)
  · cases b with
    | true =>
      rw [if_pos rfl] at hb
      show Sg _ A _ (Sem.wrap _ _ _ _ (if true = true then _ else _)) fs s' Φ
      rw [if_pos rfl, Sem.bind_eq_wrap', Sem.wrap_wrap]
      rw [Sem.wrap_congr (execs body env) _ _ (K' := fun f => match f with
            | .next | .cont => .pure (.again (.whileLoop test body orelse env))
            | .brk => .pure (.done .next)
            | .ret v => .pure (.done (.ret v))) (H' := noted env)
        (fun f => by cases f <;> rfl)
        (fun e => by first | exact Sem.bind_eq_wrap _ _ | (show (do noteFrame e env; theTreesLotGoes e : Sem Unit).bind (fun _ => .raise e) = _; rw [Sem.bind_eq_wrap]))]
      exact hb
    | false =>
      rw [if_neg Bool.false_ne_true] at hb
      show Sg _ A _ (Sem.wrap _ _ _ _ (if false = true then _ else _)) fs s' Φ
      rw [if_neg Bool.false_ne_true, Sem.bind_eq_wrap', Sem.wrap_wrap]
      rw [Sem.wrap_congr (execs orelse env) _ _ (K' := fun f => (.pure (.done f) : Sem Fin)) (H' := noted env)
        (fun f => by rfl)
        (fun e => by first | exact Sem.bind_eq_wrap _ _ | (show (do noteFrame e env; theTreesLotGoes e : Sem Unit).bind (fun _ => .raise e) = _; rw [Sem.bind_eq_wrap]))]
      exact hb
  · first
      | (rw [← Sem.bind_eq_wrap] at hx; exact hx)
      | (show Sg _ A _ ((do noteFrame x env; theTreesLotGoes x : Sem Unit).bind fun _ => .raise x) fs s' Φ; rw [Sem.bind_eq_wrap]; exact hx)
theorem sg_forLoop {target : Expr} {it : Value} {body : List Stmt}
    (h : wpAny (model prog w) (A.over (.forLoop target it body [] env) fs) (pyNext it) (fun r s' => match r with
        | none => Sg (model prog w) A (.forLoop target it body [] env) (.pure (.again (.block [] env))) fs s' Φ
        | some v => wpAny (model prog w) (A.over (.forLoop target it body [] env) fs) (letOwnedTupleGo target it v) (fun _ s₁ => wpAny (model prog w) (A.over (.forLoop target it body [] env) fs) (assign target env v) (fun _ s₂ =>
            Sg (model prog w) A (.forLoop target it body [] env) ((execs body env).wrap (fun f => match f with
              | .next | .cont => .pure (.again (.forLoop target it body [] env))
              | .brk => .pure (.done .next)
              | .ret v => .pure (.done (.ret v))) (noted env) id id) fs s₂ Φ) (fun _ _ => False) s₁) (fun _ _ => False) s')
      (fun _ _ => False) s) :
    Sg (model prog w) A (.forLoop target it body [] env) ((model prog w).den (.forLoop target it body [] env)) fs s Φ := by
  show Sg _ A _ ((forTurn target it body [] env).onRaise (fun x => do noteFrame x env; theTreesLotGoes x)) fs s Φ
  unfold forTurn
  rw [Sem.onRaise_eq_wrap]
  show Sg _ A _ (.at target.pos fun _ => Sem.wrap _ _ _ _ ((pyNext it).onRaise (fun _ => standAt { target.pos with line := 0 }) >>= _)) fs s Φ
  refine sg_at ?_
  rw [Sem.bind_eq_wrap', Sem.wrap_wrap]
  refine sg_wrap (wpAny_onRaise (wpAny_mono h (fun r s' hr => ?_) fun _ _ z => z.elim))
  cases r with
  | none => exact hr
  | some v =>
    dsimp only
    rw [Sem.bind_eq_wrap', Sem.wrap_wrap]
    refine sg_wrap (wpAny_mono hr (fun _ s₁ h₁ => ?_) fun _ _ z => z.elim)
    rw [Sem.bind_eq_wrap', Sem.wrap_wrap]
    refine sg_wrap (wpAny_mono h₁ (fun _ s₂ h₂ => ?_) fun _ _ z => z.elim)
    rw [Sem.bind_eq_wrap', Sem.wrap_wrap]
    rw [Sem.wrap_congr (execs body env) _ _ (K' := fun f => match f with
            | .next | .cont => .pure (.again (.forLoop target it body [] env))
            | .brk => .pure (.done .next)
            | .ret v => .pure (.done (.ret v))) (H' := noted env)
        (fun f => by cases f <;> rfl)
        (fun e => by first | exact Sem.bind_eq_wrap _ _ | (show (do noteFrame e env; theTreesLotGoes e : Sem Unit).bind (fun _ => .raise e) = _; rw [Sem.bind_eq_wrap]))]
    exact h₂
theorem sg_block {env : Env} (h : Sg (model prog w) A (.block [] env) (.pure (.done .next)) fs s Φ) : Sg (model prog w) A (.block [] env) ((model prog w).den (.block [] env)) fs s Φ := by
  exact h
theorem sg_func {body : List Stmt}
    (h : Sg (model prog w) A (.func body env) ((execs body env).wrap (fun f => .pure (.done (.ret (match f with | .ret v => v | _ => .none))))
      (fun e => (leaving env e).wrap (fun _ => .raise e) .raise id id) id id) fs s Φ) :
    Sg (model prog w) A (.func body env) ((model prog w).den (.func body env)) fs s Φ := by
  show Sg _ A _ (.point [] fun _ => ((execs body env).onRaise (leaving env)) >>= _) fs s Φ
  refine sg_point ?_
  rw [Sem.onRaise_eq_wrap, Sem.bind_eq_wrap', Sem.wrap_wrap]
  rw [Sem.wrap_congr (execs body env) _ _ (K' := fun f => .pure (.done (.ret (match f with | .ret v => v | _ => .none))))
    (H' := fun e => (leaving env e).wrap (fun _ => .raise e) .raise id id) (fun f => by cases f <;> rfl)
    (fun e => by rw [Sem.bind_eq_wrap, Sem.wrap_wrap]; rfl)]
  exact h
end
end Mine
end
section
open PySem PySem.W PySem.Calls PyProof.Rows
set_option Elab.async false
set_option maxRecDepth 100000
set_option maxHeartbeats 4000000
namespace Mine
/-- a generator stops: at a yield, or at its end -/
def Stop (N : GenState → Value → Shared → Prop) (D : Shared → Prop) (e : End) (s : Shared) : Prop := match e with
  | .ret r => (∃ f, r = .ok f ∧ (End.ret r).result = .returned .none) ∧ D s
  | .susp v g l k c p fs => (End.susp v g l k c p fs).quiet = true ∧ N (End.susp v g l k c p fs).genState v s
theorem Stop.of {N : GenState → Value → Shared → Prop} {D : Shared → Prop} {e : End} {s : Shared} {gs : GenState} {v : Value} (h1 : e.quiet = true) (h2 : e.genState = gs) (h3 : e.result = .yielded v) (h : N gs v s) : Stop N D e s := by
  cases e with
  | ret r => rcases r with x | f <;> cases h3
  | susp v' g l k c p fs =>
    cases h3
    subst h2
    exact ⟨h1, h⟩
def Stop.ready (gs : GenState) : Prop := match gs with | .fresh _ => True | .suspended .. => True | _ => False
section
variable {M : Model} {A : Around} {E : Value → Shared → Prop} {s : Shared}
theorem wp_resumeTo {g : Nat} {gs : GenState} {l : List Value} {α : Type} {k : GenResult → Sem α} {Q : α → Shared → Prop} (hg : s.gens[g]? = some gs)
    (hgo : Goes M A gs (s.setGen g .running) (fun e s₁ => e.quiet = true ∧ wpAny M A (k e.result) Q E (s₁.setGen g e.genState))) :
    wpAny M A (.resume g (.send .none) l k) Q E s := by
  intro Γ p hΓ
  rw [Sem.wp_resume]
  have hB : ∀ c, (Γ.wake c p).Woken A := fun c => hΓ.wake c p
  cases gs with
  | fresh c =>
    obtain ⟨e₁, s₁, hr, hq, he⟩ := hgo (Γ.wake c p) p rfl (hB c)
    exact ⟨_, _, by unfold Wakes; rw [hg]; exact ⟨e₁, s₁, hr, hq, rfl, rfl⟩, he Γ p hΓ⟩
  | suspended k₀ l₀ c₀ p₀ fs₀ cl =>
    obtain ⟨e₁, s₁, hr, hq, he⟩ := hgo (Γ.wake c₀ p) p₀ rfl (hB c₀)
    exact ⟨_, _, by unfold Wakes; rw [hg]; exact ⟨e₁, s₁, hr, hq, rfl, rfl⟩, he Γ p hΓ⟩
  | running => exact hgo.elim
  | finished => exact hgo.elim
theorem Goes.mono {gs : GenState} {Φ Ψ : End → Shared → Prop} (h : Goes M A gs s Φ) (hm : ∀ e s', Φ e s' → Ψ e s') : Goes M A gs s Ψ := by
  cases gs with
  | fresh c => exact fun Γ p q r => let ⟨e, s', a, b⟩ := h Γ p q r; ⟨e, s', a, hm _ _ b⟩
  | suspended k₀ l₀ c₀ p₀ fs₀ cl => exact fun Γ p q r => let ⟨e, s', a, b⟩ := h Γ p q r; ⟨e, s', a, hm _ _ b⟩
  | running => exact h
  | finished => exact h
end
section
variable {prog : Program} {w : World} {A : Around} {E : Value → Shared → Prop} {s : Shared}
theorem wp_nextGen {a : Addr} {g : Nat} {gs : GenState} {Q : Option Value → Shared → Prop} (hh : A.handled = none) (hl : s.heap.NoLimit) (hroom : A.depth < recursionLimit)
    (hg : s.heap.IsGen a g) (hgs : s.gens[g]? = some gs)
    (hgo : Goes (model prog w) A.in1 gs (s.setGen g .running) (Stop (fun gs' v s₁ => Q (some v) (s₁.setGen g gs')) (fun s₁ => ∀ h' : Heap, (∀ b o, s₁.heap.get? b = some o → h'.get? b = some o) → Q none { s₁.setGen g .finished with heap := h' }))) :
    wpAny (model prog w) A (pyNext (.ref a)) Q E s := by
  unfold pyNext
  refine wpAny_bind (wpAny_attempt (wpAny_callSpecial?_slot (name := Str.ofString "__next__") hg.typeIs slot_gen_next
    (wpAny_call_entry slot_gen_next hg.typeIs entry_gen_next ?_ (args_gen_next _))))
  show wpAny _ A.in1 (Builtin.Generator.genWake (.ref a) (.send .none)) _ _ s
  unfold Builtin.Generator.genWake
  refine wpAny_bind (wpAny_holding (wpAny_genNumber hg (wpAny_bind (wpAny_genState hgs ?_))))
  have key : ∀ {α : Type} {k : GenResult → Sem α} {Q' : α → Shared → Prop} {E' : Value → Shared → Prop} {l : List Value},
      (∀ s₁ : Shared, (∀ h' : Heap, (∀ b o, s₁.heap.get? b = some o → h'.get? b = some o) → Q none { s₁.setGen g .finished with heap := h' }) → wpAny (model prog w) A.in1 (k (.returned .none)) Q' E' (s₁.setGen g .finished)) →
      (∀ (v : Value) (s₁ : Shared) (gs' : GenState), Q (some v) (s₁.setGen g gs') → wpAny (model prog w) A.in1 (k (.yielded v)) Q' E' (s₁.setGen g gs')) → wpAny (model prog w) A.in1 (.resume g (.send .none) l k) Q' E' s := by
    intro α k Q' E' l h1 h2
    refine wp_resumeTo hgs (hgo.mono fun e s₁ he => ?_)
    cases e with
    | ret r =>
      obtain ⟨⟨f, rfl, hr⟩, hd⟩ := he
      refine ⟨rfl, ?_⟩
      rw [hr]
      exact h1 s₁ hd
    | susp v g' l' k' c p fs => exact ⟨he.1, h2 v s₁ _ he.2⟩
  cases gs with
  | running => exact hgo.elim
  | finished => exact hgo.elim
  | _ =>
    refine wpAny_bind (wpAny_roomToWake hl hroom ?_)
    show wpAny _ A.in1 (.resume g (.send .none) [] _) _ _ s
    refine key (fun s₁ hp => ?_) (fun v s₁ gs' hv => ?_)
    · show wpAny _ A.in1 (newExc (.type "StopIteration") [] >>= _) _ _ _
      refine wpAny_bind ?_
      simp only [newExc, newTuple]
      refine wpAny_bind (wpAny_newObj_type ?_ (by size_fits))
      refine wpAny_bind (m := firstArgMember _ _) (wpAny_of_eq (a := Value.none) (by first | rfl | (simp only [firstArgMember]; rfl)) ?_)
      refine wpAny_newObj_type ?_ (by size_fits)
      simp only [raiseNew]
      refine wpAny_bind (wpAny_bind (wpAny_handled ?_))
      first | rw [show A.in1.handled = none from hh] | rw [hh]
      refine wpAny_throw ?_
      refine wpAny_bind (wpAny_isInstance (T := "StopIteration") (b := true) ⟨_, Heap.get?_push_size _ rfl, rfl⟩ isSubtype_stop ?_)
      exact wpAny_pure (hp _ fun b o hb => Heap.get?_push_of_some _ (Heap.get?_push_of_some _ hb))
    · exact wpAny_pure ⟨v, rfl, wpAny_pure hv⟩
end
section
variable {prog : Program} {w : World} {A : Around} {E : Value → Shared → Prop} {b s : Shared} {cs cs' : List Cell} {K : Frag} {env : Env} {L : Addr} {ns : List Str} {vs vs' : List (Option Value)}
theorem St.newGen {gs : GenState} {t : Nat} (H : St b s cs) (hb : gs.bare = true) : St b { s with gens := s.gens.push gs, toks := t } (.g s.gens.size gs :: cs) := by
  refine ⟨H.keep, H.size, ?_, fun c hc => ?_, ?_, H.os⟩
  · rw [List.map_cons, List.nodup_cons]
    refine ⟨fun h => ?_, H.nod⟩
    obtain ⟨d, hd, e⟩ := List.mem_map.mp h
    have := H.sat d hd
    cases d with
    | g n x =>
      cases e
      have h2 : s.gens[s.gens.size]? = some x := this
      rw [Array.getElem?_size] at h2; cases h2
    | _ => cases e
  · rcases List.mem_cons.mp hc with rfl | hc
    · exact Array.getElem?_push_size ..
    · have := H.sat c hc
      cases c with
      | g n x =>
        have h2 : s.gens[n]? = some x := this
        have hn : n < s.gens.size := by
          rcases Nat.lt_or_ge n s.gens.size with h | h
          · exact h
          · rw [Array.getElem?_eq_none h] at h2; cases h2
        show (s.gens.push gs)[n]? = some x
        rw [Array.getElem?_push, if_neg (by omega)]; exact h2
      | _ => exact this
  · intro x hx
    rcases Array.mem_push.mp hx with h | h
    · exact H.bare x h
    · rw [h]; exact hb
theorem St.setGen_ {g : Nat} {gs gs' : GenState} (H : St b s cs) (u : Sub1 (.g g gs) (.g g gs') cs cs') (hb : gs'.bare = true) : St b (s.setGen g gs') cs' := by
  have hm := u.mem
  obtain ⟨p, r, rfl, rfl⟩ := u.split
  have hg : s.gens[g]? = some gs := H.sat _ hm
  have hlt : g < s.gens.size := by
    rcases Nat.lt_or_ge g s.gens.size with h | h
    · exact h
    · rw [Array.getElem?_eq_none h] at hg; cases hg
  have nod := H.nod
  have e : (p ++ .g g gs' :: r).map Cell.key = (p ++ .g g gs :: r).map Cell.key := by simp [Cell.key]
  refine ⟨H.keep, H.size, by rw [e]; exact nod, fun d hd => ?_, ?_, H.os⟩
  · have hne : ∀ d ∈ p ++ r, d.key ≠ (false, g) := by
      intro d hd q
      rw [List.map_append, List.map_cons, List.nodup_append] at nod
      have n2 := List.nodup_cons.mp nod.2.1
      rcases List.mem_append.mp hd with h1 | h1
      · exact nod.2.2 _ (List.mem_map_of_mem h1) _ (.head _) (by rw [q]; rfl)
      · exact n2.1 (by show (false, g) ∈ _; rw [← q]; exact List.mem_map_of_mem h1)
    have other : ∀ d ∈ p ++ r, d.sat b (s.setGen g gs') := by
      intro d hd
      have hs := H.sat d (by simp only [List.mem_append, List.mem_cons] at hd ⊢; rcases hd with h | h <;> simp [h])
      have hn := hne d hd
      cases d with
      | g n x =>
        show (s.gens.setIfInBounds g gs')[n]? = some x
        have : g ≠ n := fun e => hn (by rw [e]; rfl)
        rw [Array.getElem?_setIfInBounds_ne this]; exact hs
      | _ => exact hs
    rcases List.mem_append.mp hd with h1 | h1
    · exact other d (by simp [h1])
    · rcases List.mem_cons.mp h1 with rfl | h2
      · show (s.gens.setIfInBounds g gs')[g]? = some gs'
        rw [Array.getElem?_setIfInBounds_self_of_lt hlt]
      · exact other d (by simp [h2])
  · intro x hx
    obtain ⟨i, hi, rfl⟩ := Array.mem_iff_getElem.mp hx
    have hx' : (s.gens.setIfInBounds g gs')[i]? = some (s.gens.setIfInBounds g gs')[i] := Array.getElem?_eq_getElem hi
    by_cases e : g = i
    · subst e
      rw [Array.getElem?_setIfInBounds_self_of_lt hlt] at hx'
      injection hx' with hx'
      show GenState.bare (s.gens.setIfInBounds g gs')[g] = true
      rw [← hx']; exact hb
    · rw [Array.getElem?_setIfInBounds_ne e] at hx'
      exact H.bare _ (Array.mem_of_getElem? hx')
end
end Mine
end
section
open PySem PySem.W PySem.Calls PyProof.Rows
set_option Elab.async false
set_option maxRecDepth 100000
set_option maxHeartbeats 4000000
namespace Mine
structure Calm (k : Nat) (A : Around) : Prop where
  handled : A.handled = none
  room : A.depth + k < recursionLimit
/-- all running frames have their cells -/
def Fs (A : Around) (cs : List Cell) : Prop := ∃ l, A.frames = some l ∧ ∀ e ∈ l, e.scope.kind ≠ .module ∧ ∃ L ns vs, e.frame = some L ∧ Cell.f L ns vs ∈ cs
theorem Fs.mono {A : Around} {cs cs' : List Cell} (F : Fs A cs) (h : ∀ c ∈ cs, c ∈ cs') : Fs A cs' :=
  let ⟨l, a, k⟩ := F; ⟨l, a, fun e he => let ⟨q, L, ns, vs, x, y⟩ := k e he; ⟨q, L, ns, vs, x, h _ y⟩⟩
/-- a generator that stands still and will tell these, one after another -/
def Rdy (M : Model) (k : Nat) (b : Shared) (ro : List Cell) {α : Type} (O : α → Value → List Cell → List Cell → Prop) : List α → GenState → List Cell → Prop
  | [], gs, own => ∀ A s cs N D, Calm k A → (∀ c ∈ ro, c ∈ cs) → Fs A cs → St b s (own ++ cs) → (∀ s', St b s' cs → D s') → Goes M A gs s (Stop N D)
  | x :: l, gs, own => ∀ A s cs N D, Calm k A → (∀ c ∈ ro, c ∈ cs) → Fs A cs → St b s (own ++ cs) →
      (∀ gs' v vis own' s', gs'.bare = true → O x v vis own' → Rdy M k b ro O l gs' own' → St b s' (vis ++ (own' ++ cs)) → N gs' v s') → Goes M A gs s (Stop N D)
/-- what the one who asks must be able to do with the answer -/
def Cps (M : Model) (k : Nat) (b : Shared) (ro : List Cell) {α : Type} (O : α → Value → List Cell → List Cell → Prop) (N : GenState → Value → Shared → Prop) (D : Shared → Prop) (cs : List Cell) : List α → Prop
  | [] => ∀ s', St b s' cs → D s'
  | x :: l => ∀ gs' v vis own' s', gs'.bare = true → O x v vis own' → Rdy M k b ro O l gs' own' → St b s' (vis ++ (own' ++ cs)) → N gs' v s'
theorem Rdy.intro {M : Model} {k : Nat} {b : Shared} {ro : List Cell} {α : Type} {O : α → Value → List Cell → List Cell → Prop} {X : List α} {gs : GenState} {own : List Cell}
    (h : ∀ A s cs N D, Calm k A → (∀ c ∈ ro, c ∈ cs) → Fs A cs → St b s (own ++ cs) → Cps M k b ro O N D cs X → Goes M A gs s (Stop N D)) : Rdy M k b ro O X gs own := by
  cases X with
  | nil => exact fun A s cs N D a b c d e => h A s cs N D a b c d e
  | cons x l => exact fun A s cs N D a b c d e => h A s cs N D a b c d e
abbrev GenP (g : Nat) (o : Obj) : Prop := o.cls = .type "generator" ∧ (∃ nm qn, o.data = .fields #[.int g 0, nm, qn]) ∧ o.slots = #[]
section
variable {prog : Program} {w : World} {A : Around} {E : Value → Shared → Prop} {b s : Shared} {cs cs' : List Cell} {K : Frag} {env : Env} {L : Addr} {ns : List Str} {vs vs' : List (Option Value)} {ro own : List Cell} {α : Type} {O : α → Value → List Cell → List Cell → Prop}
theorem St.isGen {a : Addr} {g : Nat} (H : St b s cs) (h : Has (.p a (GenP g)) cs) : s.heap.IsGen a g := by
  obtain ⟨⟨o, ho, h1, ⟨nm, qn, h2⟩, h3⟩, _⟩ := H.sat _ h.mem
  exact ⟨o, nm, qn, ho, h1, h2, h3⟩
theorem nextCons {a : Addr} {g : Nat} {gs : GenState} {x : α} {l : List α} {k : Nat} {Q : Option Value → Shared → Prop} (B : Base K b) (hh : A.handled = none) (hroom : A.depth + k < recursionLimit)
    (H : St b s (.p a (GenP g) :: .g g gs :: (own ++ cs))) (hro : ∀ c ∈ ro, c ∈ cs) (FS : Fs A cs) (R : Rdy (model prog w) k b ro O (x :: l) gs own)
    (h : ∀ gs' v vis own' s', O x v vis own' → Rdy (model prog w) k b ro O l gs' own' → St b s' (vis ++ (.p a (GenP g) :: .g g gs' :: (own' ++ cs))) → Q (some v) s') :
    wpAny (model prog w) A (pyNext (.ref a)) Q E s := by
  refine wp_nextGen hh (B.nolimit.keeps H.keep) (by omega) (H.isGen .head) (H.sat (.g g gs) (.tail _ (.head _))) ?_
  have H1 := (H.setGen_ (gs' := .running) (.tail .head) rfl).perm (cs' := own ++ (.p a (GenP g) :: .g g .running :: cs)) (List.perm_append_comm_assoc own [.p a (GenP g), .g g .running] cs)
  refine R A.in1 _ (.p a (GenP g) :: .g g .running :: cs) _ _ ⟨hh, hroom⟩ (fun c hc => .tail _ (.tail _ (hro c hc))) (FS.mono fun c hc => .tail _ (.tail _ hc)) H1 fun gs' v vis own' s' hb hO hR H2 => ?_
  have H3 : St b s' (.g g .running :: (vis ++ (.p a (GenP g) :: (own' ++ cs)))) := by
    refine H2.perm ?_
    have e1 := List.perm_append_comm_assoc own' [Cell.p a (GenP g), .g g .running] cs
    have e2 := (List.Perm.append_left vis e1)
    have e3 := (List.perm_middle (l₁ := vis ++ [Cell.p a (GenP g)]) (l₂ := own' ++ cs) (a := Cell.g g .running)).symm
    simp only [List.append_assoc, List.cons_append, List.nil_append] at e3 e2
    exact e3.trans e2.symm
  have H4 := H3.setGen_ (gs' := gs') .head hb
  refine h gs' v vis own' _ hO hR (H4.perm ?_)
  have := (List.perm_middle (l₁ := vis ++ [.p a (GenP g)]) (l₂ := own' ++ cs) (a := .g g gs'))
  simpa only [List.append_assoc, List.cons_append, List.nil_append] using this
theorem nextNil {a : Addr} {g : Nat} {gs : GenState} {k : Nat} {Q : Option Value → Shared → Prop} (B : Base K b) (hh : A.handled = none) (hroom : A.depth + k < recursionLimit)
    (H : St b s (.p a (GenP g) :: .g g gs :: (own ++ cs))) (hro : ∀ c ∈ ro, c ∈ cs) (FS : Fs A cs) (R : Rdy (model prog w) k b ro O [] gs own)
    (h : ∀ s', St b s' (.p a (GenP g) :: .g g .finished :: cs) → Q none s') :
    wpAny (model prog w) A (pyNext (.ref a)) Q E s := by
  refine wp_nextGen hh (B.nolimit.keeps H.keep) (by omega) (H.isGen .head) (H.sat (.g g gs) (.tail _ (.head _))) ?_
  have H1 := (H.setGen_ (gs' := .running) (.tail .head) rfl).perm (cs' := own ++ (.p a (GenP g) :: .g g .running :: cs)) (List.perm_append_comm_assoc own [.p a (GenP g), .g g .running] cs)
  refine R A.in1 _ (.p a (GenP g) :: .g g .running :: cs) _ _ ⟨hh, hroom⟩ (fun c hc => .tail _ (.tail _ (hro c hc))) (FS.mono fun c hc => .tail _ (.tail _ hc)) H1 fun s₁ H2 h' hk => ?_
  have H3 := H2.setGen_ (gs' := .finished) (.tail .head) rfl
  exact h _ (H3.ext (h' := h') (t := s₁.toks) hk (d := .p a (GenP g)) .head rfl)
/-- a call of a generator's def -/
theorem enterGen {R : Result → Shared → Prop} {fd : FuncData} {body : List Stmt} {f : Addr} {args : Args} {nk : List (Str × NameKind)} (Fn : FnAt K f fd body) (hnk : fd.scope.names = nk) (ns : List Str) (vs : List (Option Value))
    (B : Base K b) (H : St b s cs) (hr : A.depth < recursionLimit) (hbind : BindsTo s fd args (bindsOf ns vs))
    (hcell : ∀ x ∈ nk, x.2 ≠ .cell) (hloc : ∀ x ∈ bindsOf ns vs, nk.lookup x.1 = some .local) (hnd : ns.Nodup) (hlen : ns.length = vs.length) (hgen : fd.scope.isGenerator = true)
    (h : ∀ s' L env a g, EnvIs env L nk [] → env.scope.isCoroutine = false → St b s' (.p a (GenP g) :: .g g (.fresh (.func body env)) :: .f L ns vs :: cs) → R (.ok (.ret (.ref a))) s') :
    codeAny (model prog w) A (.call (.ref f) args) R s := by
  have X' := H.in_ B.X
  obtain ⟨oc, od, osl, ho⟩ := Fn.look
  subst hnk
  refine codeAny_call_generator hr (X' _ _ ho) rfl Fn.co hgen Fn.body (codeRec_of X' Fn.code) (hbind _ _ _ _ ?_)
  refine wpAny_newFunctionEnv hcell hloc (fun h₁ hns hsb => ?_) Fn.kind
  have hk₁ : ∀ b o, s.heap.get? b = some o → h₁.get? b = some o := fun b o e => hsb.extBut b o (Nat.ne_of_lt (Heap.lt_size e)) (Heap.get?_push_of_some _ e)
  have below : ∀ c ∈ cs, c.key ≠ (true, s.heap.objs.size) := fun c hc q => absurd (Cell.key_lt (H.sat c hc) q) (Nat.lt_irrefl _)
  have H1 : St b { s with heap := h₁, toks := s.toks + (bindsOf ns vs).length } (.f s.heap.objs.size ns vs :: cs) := by
    refine ⟨fun a o q => hk₁ _ _ (H.keep a o q), Nat.le_of_lt (Nat.lt_of_le_of_lt H.size hns.lt), ?_, fun c hc => ?_, H.bare, H.os⟩
    · rw [List.map_cons, List.nodup_cons]
      exact ⟨fun q => let ⟨c, hc, e⟩ := List.mem_map.mp q; below c hc e, H.nod⟩
    · rcases List.mem_cons.mp hc with rfl | hc
      · exact ⟨by rw [← loc_bindsOf ns vs hnd hlen]; exact hns, hnd, hlen, H.size⟩
      · have hs := H.sat c hc
        cases c with
        | o a x => exact ⟨hk₁ _ _ hs.1, hs.2⟩
        | p a P => obtain ⟨⟨x, h1, h2⟩, h3⟩ := hs; exact ⟨⟨x, hk₁ _ _ h1, h2⟩, h3⟩
        | f L ns vs => obtain ⟨⟨oL, a1, a2, hL, a3⟩, r⟩ := hs; exact ⟨⟨oL, a1, a2, hk₁ _ _ hL, a3⟩, r⟩
        | g n gs => exact hs
  refine ⟨B.nolimit.keeps H1.keep, ?_⟩
  have H2 := H1.newGen (gs := .fresh (.func body (newEnv fd.scope s.heap.objs.size fd.globals fd.closure (fd.qualname ++ ".<locals>.") (some f) fd.code none fd.builtins))) (t := s.toks + (bindsOf ns vs).length + 1 + 1) rfl
  refine h _ s.heap.objs.size (newEnv fd.scope s.heap.objs.size fd.globals fd.closure (fd.qualname ++ ".<locals>.") (some f) fd.code none fd.builtins) h₁.objs.size s.gens.size ⟨rfl, rfl, Fn.kind, Fn.globals, Fn.builtins, Fn.closure, rfl⟩ Fn.co ?_
  exact H2.newP (P := GenP s.gens.size) (t := s.toks + (bindsOf ns vs).length + 1 + 1) (fun x y q => Heap.get?_push_of_some _ q) (Nat.le_refl _) (Heap.get?_push_size _ rfl) ⟨rfl, ⟨_, _, rfl⟩, rfl⟩
end
end Mine
end
section
open PySem PySem.W PySem.Calls PyProof.Rows
set_option Elab.async false
set_option maxRecDepth 100000
set_option maxHeartbeats 4000000
namespace Mine
section
variable {prog : Program} {w : World} {A : Around} {E : Value → Shared → Prop} {b s : Shared} {cs cs' : List Cell} {K : Frag} {env : Env} {L : Addr} {ns : List Str} {vs vs' : List (Option Value)}
theorem Sub1.same {c : Cell} : ∀ {cs : List Cell}, c ∈ cs → Sub1 c c cs cs
  | _, .head _ => .head
  | _, .tail _ h => .tail (Sub1.same h)
theorem keptBack_any {e : Env} {l : List Env} {Q : Value → Shared → Prop} (h : ∀ v, Q v s) : wpAny (model prog w) A (keptBack e false l) Q E s := by
  cases l with
  | nil => exact wpAny_keptBack_nil h
  | cons c l =>
    simp only [keptBack]
    exact wpAny_pure (h _)
theorem ready_ : ∀ {l : List Env} {s : Shared} {Q : Unit → Shared → Prop}, (∀ e ∈ l, e.scope.kind ≠ .module ∧ ∃ L ns vs, e.frame = some L ∧ Cell.f L ns vs ∈ cs) → St b s cs → (∀ s', St b s' cs → Q () s') → wpAny (model prog w) A (readyFrames l) Q E s
  | [], s, Q, _, H, h => by
    simp only [readyFrames]
    exact wpAny_pure (h s H)
  | e :: l, s, Q, hl, H, h => by
    obtain ⟨hk, L, ns, vs, hf, hm⟩ := hl e (.head _)
    obtain ⟨⟨oL, es, ep, ho, hd, hs, hn⟩, hnd, hlen, hb⟩ := H.sat _ hm
    simp only [readyFrames, hf]
    refine wpAny_bind (wpAny_load ho ?_)
    by_cases hr : ((oL.slots.getD 3 none).isSome) = true
    · rw [if_pos hr]; exact wpAny_pure (h s H)
    · rw [if_neg hr]
      refine wpAny_bind (wpAny_of_eq (a := false) (by simp [behindIsImport, hk]) ?_)
      refine wpAny_bind (keptBack_any fun back => ?_)
      refine wpAny_bind (wpAny_update ho ?_)
      refine ready_ (fun e he => hl e (.tail _ he)) (H.change (t := s.toks) (Sub1.same hm) rfl rfl hb (Heap.SameBut.update ..) ⟨⟨_, es, ep, Heap.get?_update_self _ ho ?_, hd, hs, hn⟩, hnd, hlen, hb⟩) h
      obtain ⟨c, d, dt, sl⟩ := oL
      dsimp only at hd
      subst hd
      rfl
/-- an exception, and what stands in its second field -/
abbrev ExcP (X : String) (tb : Value) (o : Obj) : Prop := o.cls = .type X ∧ ∃ vs : Array Value, o.data = .fields vs ∧ vs[1]? = some tb
abbrev TbP (fl : Value) (o : Obj) : Prop := o.cls = .type "traceback" ∧ ∃ vs : Array Value, o.data = .fields vs ∧ vs[3]? = some fl
theorem noteFrame_ {X : String} {e : Addr} {Q : Unit → Shared → Prop} (FS : Fs A (.p e (ExcP X .none) :: cs)) (hfr : env.frame = some L) (hin : ∀ l, A.frames = some l → ∃ e ∈ l, e.frame = some L) (H : St b s (.p e (ExcP X .none) :: cs))
    (h : ∀ s' tb, St b s' (.p e (ExcP X (.ref tb)) :: .p tb (TbP (rawInt L)) :: cs) → Q () s') : wpAny (model prog w) A (noteFrame (.ref e) env) Q E s := by
  obtain ⟨⟨o, ho, h1, vs, h2, h3⟩, hb⟩ := H.sat _ (.head _)
  obtain ⟨l, hA, hl⟩ := FS
  unfold noteFrame
  simp only [hfr]
  refine wpAny_bind (wpAny_field ho h2 (x := .none) h3 ?_)
  rw [if_neg (by decide)]
  unfold PySem.frameOf
  refine wpAny_bind (wpAny_bind (wpAny_frameEnvs hA ?_))
  have hdw : ∀ (l : List Env), (∃ e ∈ l, e.frame = some L) → ∃ e l', l.dropWhile (fun x => x.frame != env.frame) = e :: l' ∧ e.frame = some L ∧ ∀ x ∈ e :: l', x ∈ l := by
    intro l
    induction l with
    | nil => rintro ⟨e, he, _⟩; cases he
    | cons x l ih =>
      rintro ⟨e, he, hq⟩
      by_cases q : x.frame = some L
      · refine ⟨x, l, ?_, q, fun y hy => hy⟩
        rw [List.dropWhile_cons, if_neg (by rw [q, hfr]; simp)]
      · have hx : (x.frame != env.frame) = true := by rw [hfr]; simpa using q
        rw [List.dropWhile_cons, if_pos hx]
        rcases List.mem_cons.mp he with rfl | he
        · exact absurd hq q
        · obtain ⟨a, l', e1, e2, e3⟩ := ih ⟨e, he, hq⟩
          exact ⟨a, l', e1, e2, fun y hy => .tail _ (e3 y hy)⟩
  obtain ⟨x, l', e1, e2, e3⟩ := hdw l (hin l hA)
  rw [e1]
  unfold frameObject
  refine wpAny_bind (wpAny_bind (ready_ (fun y hy => hl y (e3 y hy)) H fun s' H' => wpAny_pure ?_))
  rw [e2]
  refine wpAny_pure ?_
  refine wpAny_bind (wpAny_entryPlaceOf fun pl hpl => ?_)
  unfold EntryCells.newEntry newFields
  refine wpAny_bind (wpAny_newObj_type ?_ (hpl.sizeOk5 _ _ _ _ _))
  have H2 := H'.newP (a := s'.heap.objs.size) (P := TbP (rawInt L)) (t := s'.toks) (fun x y q => Heap.get?_push_of_some { cls := .type "traceback", dict := none, data := .fields ([Value.none, Option.elim (some L) .none Value.ref, .none, rawInt L, .none] ++ (if pl.isEmpty then List.replicate 6 Value.none else pl)).toArray } q) (Nat.le_refl _) (Heap.get?_push_size _ rfl) ⟨rfl, _, rfl, by simp⟩
  obtain ⟨⟨o2, ho2, h12, ws, h22, h23⟩, hb2⟩ := H2.sat (.p e (ExcP X .none)) (.tail _ (.head _))
  have hsz : 1 < ws.size := (Array.getElem?_eq_some_iff.mp h23).1
  refine wpAny_setField ho2 h22 hsz ?_
  refine h _ s'.heap.objs.size ?_
  have H3 := H2.change (t := s'.toks) (c' := .p e (ExcP X (.ref s'.heap.objs.size))) (.tail .head) rfl rfl hb2 (Heap.SameBut.update (h := _) (a := e) (f := fun o => o.mapFields (·.setIfInBounds 1 (Value.ref s'.heap.objs.size)))) ⟨⟨_, Heap.get?_update_self _ ho2 (Obj.isFreed_of_fields (Obj.data_mapFields h22 _)), (Obj.cls_mapFields ..).trans h12, _, (Obj.data_mapFields h22 _), by simp [hsz]⟩, hb2⟩
  exact H3.perm (.swap ..)
theorem setFlight_ {X : String} {e tb : Addr} {fl : Value} {Q : Unit → Shared → Prop} (H : St b s cs) (he : Has (.p e (ExcP X (.ref tb))) cs) (u : Sub1 (.p tb (TbP fl)) (.p tb (TbP .none)) cs cs') (h : ∀ s', St b s' cs' → Q () s') :
    wpAny (model prog w) A (setFlight (.ref e) none) Q E s := by
  obtain ⟨⟨o, ho, h1, vs, h2, h3⟩, hb⟩ := H.sat _ he.mem
  obtain ⟨⟨o2, ho2, g1, ws, g2, g3⟩, hb2⟩ := H.sat _ u.mem
  unfold setFlight
  refine wpAny_bind (wpAny_field ho h2 (x := .ref tb) h3 ?_)
  rw [if_pos (show (Value.ref tb != Value.none) = true from by simp)]
  have hsz : 3 < ws.size := (Array.getElem?_eq_some_iff.mp g3).1
  refine wpAny_setField ho2 g2 hsz ?_
  refine h _ (H.change (t := s.toks) u rfl rfl hb2 (Heap.SameBut.update ..) ⟨⟨_, Heap.get?_update_self _ ho2 (Obj.isFreed_of_fields (Obj.data_mapFields g2 _)), (Obj.cls_mapFields ..).trans g1, _, Obj.data_mapFields g2 _, ?_⟩, hb2⟩)
  simp [hsz]
end
end Mine
end
section
open PySem PySem.W PySem.Calls PyProof.Rows
set_option Elab.async false
set_option maxRecDepth 100000
set_option maxHeartbeats 4000000
namespace Mine
section
variable {prog : Program} {w : World} {A : Around} {E : Value → Shared → Prop} {b s : Shared} {cs cs' : List Cell} {K : Frag} {env : Env} {L : Addr} {ns : List Str} {vs vs' : List (Option Value)} {pos : Pos}
theorem updList {l : Addr} {xs ys : List Value} {c : Nat} (H : St b s cs) (u : Sub1 (.p l (lstP xs)) (.p l (lstP ys)) cs cs') (hl : s.heap.get? l = some { cls := .type "list", dict := none, data := .seq xs.toArray c, slots := #[] }) (f : Array Value → Array Value) (hf : f xs.toArray = ys.toArray) :
    St b { s with heap := s.heap.update l (Obj.mapSeq f) } cs' :=
  H.change (t := s.toks) u rfl rfl (H.sat _ u.mem).2 (Heap.SameBut.update ..) ⟨⟨_, Heap.get?_update_self _ hl rfl, (if (ys.toArray.size == xs.toArray.size) = true then c else c + 1), by simp only [Obj.mapSeq, hf]⟩, (H.sat _ u.mem).2⟩
theorem append_ {l : Addr} {xs : List Value} {e : Expr} {Q : Value → Shared → Prop} (he : starEach [e] env = [(false, eval e env)])
    (h : wpAny (model prog w) A (eval e env) (fun v s₁ => ∃ cs cs', xs.length ≤ 1000 ∧ St b s₁ cs ∧ Sub1 (.p l (lstP xs)) (.p l (lstP (xs ++ [v]))) cs cs' ∧ ∀ s', St b s' cs' → Q .none s') E s) :
    wpAny (model prog w) A (callWith pos (.builtin "list.append") [.ref l] (backTo pos (starEach [e] env)) []) Q E s := by
  rw [he]
  refine PySem.P.append_list (wpAny_mono h (fun v s₁ ⟨cs, cs', hz, H, u, k⟩ => ?_) fun _ _ z => z)
  obtain ⟨c, g⟩ := H.isList (Has.of u.mem)
  exact ⟨xs.toArray, c, by rw [List.size_toArray]; exact Nat.le_trans hz (by decide), g, k _ (updList H u g _ (by simp))⟩
theorem pop_ {l : Addr} {xs : List Value} {y : Value} {Q : Value → Shared → Prop} (H : St b s cs) (u : Sub1 (.p l (lstP (xs ++ [y]))) (.p l (lstP xs)) cs cs') (hz : xs.length ≤ 1000) (h : ∀ s', St b s' cs' → Q y s') :
    wpAny (model prog w) A (callWith pos (.builtin "list.pop") [.ref l] (backTo pos (starEach [] env)) []) Q E s := by
  obtain ⟨c, g⟩ := H.isList (Has.of u.mem)
  refine PySem.P.pop_list (items := (xs ++ [y]).toArray) (n := c) g (by simp) (h _ (updList H u g _ ?_)) (by simp only [List.size_toArray, List.length_append, List.length_cons, List.length_nil]; exact Nat.le_trans (Nat.add_le_add_right hz 1) (by decide))
  simp [Array.eraseIdxIfInBounds, List.eraseIdx_append_of_length_le]
theorem last_ {l : Addr} {xs : List Value} {y : Value} {t : Tok} {Q : Value → Shared → Prop} (H : St b s cs) (hl : Has (.p l (lstP (xs ++ [y]))) cs) (h : Q y s) : wpAny (model prog w) A (getItem (.ref l) (.int (-1) t)) Q E s :=
  wpAny_getItem_list_neg (H.list hl) (by decide) (by simp only [List.size_toArray, List.length_append, List.length_cons, List.length_nil]; omega) (by decide) (by
    have : ((-1 : Int) + ((xs ++ [y]).toArray.size : Int)).toNat = xs.length := by simp only [List.size_toArray, List.length_append, List.length_cons, List.length_nil]; omega
    rw [this]; simp) h
theorem raise_new {X : String} {args : List Value} {β : Type} {Q : β → Shared → Prop} (hp : PySem.PlainExc X) (hh : A.handled = none) (H : St b s cs) (hz : args.length ≤ 10) (h : ∀ s' e, St b s' (.p e (ExcP X .none) :: cs) → E (.ref e) s') :
    wpAny (model prog w) A (newExc (.type X) args >>= fun e => (raiseNew e : Sem β)) Q E s := by
  refine wpAny_bind ?_
  unfold newExc newTuple
  refine wpAny_bind (wpAny_newObj_type ?_ (by show args.toArray.size ≤ sizeLine; rw [List.size_toArray]; exact Nat.le_trans hz (by decide)))
  refine wpAny_bind (m := firstArgMember _ _) (wpAny_of_eq (a := Value.none) (by simp only [firstArgMember, hp.first]; rfl) ?_)
  rw [hp.own]
  refine wpAny_newObj_type ?_
  refine wpAny_raiseNew_none hh (h _ _ ?_)
  have H1 := H.push (o := tupObj args.toArray)
  have H2 := H1.newP (t := s.toks) (P := ExcP X .none) (fun x y q => Heap.get?_push_of_some { cls := .type X, data := .fields #[.ref s.heap.objs.size, .none, .none, .none, .bool false, .none] } q) (Nat.le_refl _) (Heap.get?_push_size _ rfl) ⟨rfl, _, rfl, rfl⟩
  exact (H2.perm (.swap ..)).mono (List.sublist_cons_self _ _)
theorem raise_words {X msg : String} {β : Type} {Q : β → Shared → Prop} (hp : PySem.PlainExc X) (hh : A.handled = none) (H : St b s cs) (h : ∀ s' e, St b s' (.p e (ExcP X .none) :: cs) → E (.ref e) s') :
    wpAny (model prog w) A (raiseErrorWords X msg : Sem β) Q E s := by
  unfold raiseErrorWords
  exact wpAny_bind (wpAny_mkText (raise_new hp hh (H.toks (t := s.toks + 1)) (by simp) h))
theorem last_out {l : Addr} {t : Tok} {Q : Value → Shared → Prop} (hh : A.handled = none) (H : St b s cs) (hl : Has (.p l (lstP [])) cs) (h : ∀ s' e, St b s' (.p e (ExcP "IndexError" .none) :: cs) → E (.ref e) s') : wpAny (model prog w) A (getItem (.ref l) (.int (-1) t)) Q E s := by
  have hl := H.list hl
  obtain ⟨o, ho, hc, ne, hd⟩ := id hl
  unfold getItem
  try with_reducible refine wpAny_holding ?_
  first | refine wpAny_bind (wpAny_pure ?_) | skip
  refine wpAny_bind (wpAny_sequenceKey hl.typeIs (by decide) ?_)
  refine wpAny_bind (wpAny_callSpecial?_slot (name := Str.ofString "__getitem__") hl.typeIs PySem.slot_list_getitem
    (wpAny_call_entry PySem.slot_list_getitem hl.typeIs PySem.entry_list_getitem ?_ (PySem.args_list_getitem _ _)))
  show wpAny _ _ (Builtin.List.listSubscript? (.int (-1) t) >>= _) _ _ s
  refine wpAny_bind (wpAny_listSubscript_int (by decide) ?_)
  show wpAny _ _ ((Builtin.List.listItems (.ref l) >>= fun xs => pure ((seqIndex? (Int.negSucc 0) xs.size).bind fun i => xs[i]?.map (i, ·))) >>= _) _ _ s
  refine wpAny_bind (wpAny_bind ?_)
  show wpAny _ _ (seqItems? (.ref l) >>= _) _ _ s
  refine wpAny_bind (wpAny_seqItems ho hd (wpAny_pure (wpAny_pure ?_)))
  first
    | exact wpAny_bind (wpAny_rule (raise_words PySem.plainExc_IndexError hh H h))
    | exact wpAny_bind (wpAny_rule (wpAny_bind (raise_words PySem.plainExc_IndexError hh H h)))
    | exact wpAny_bind (wpAny_bind (wpAny_rule (raise_words PySem.plainExc_IndexError hh H h)))
    | exact wpAny_rule (raise_words PySem.plainExc_IndexError hh H h)
theorem setlast_ {l : Addr} {xs : List Value} {y v : Value} {t : Tok} {Q : Unit → Shared → Prop} (H : St b s cs) (u : Sub1 (.p l (lstP (xs ++ [y]))) (.p l (lstP (xs ++ [v]))) cs cs') (h : ∀ s', St b s' cs' → Q () s') : wpAny (model prog w) A (setItem (.ref l) (.int (-1) t) v) Q E s := by
  obtain ⟨c, g⟩ := H.isList (Has.of u.mem)
  have hl := H.list (Has.of u.mem)
  unfold setItem
  try with_reducible refine wpAny_holding ?_
  first | refine wpAny_bind (wpAny_pure ?_) | skip
  refine wpAny_bind (wpAny_sequenceKey hl.typeIs (by decide) ?_)
  refine wpAny_bind (wpAny_callSpecial?_slot (name := Str.ofString "__setitem__") hl.typeIs PySem.slot_list_setitem
    (wpAny_call_entry PySem.slot_list_setitem hl.typeIs PySem.entry_list_setitem ?_ (PySem.args_list_setitem _ _ _)))
  show wpAny _ _ (Builtin.List.listSubscript? (.int (-1) t) >>= _) _ _ s
  refine wpAny_bind (wpAny_listSubscript_int (by decide) ?_)
  show wpAny _ _ ((Builtin.List.listItems (.ref l) >>= fun xs => pure ((seqIndex? (Int.negSucc 0) xs.size).bind fun i => xs[i]?.map (i, ·))) >>= _) _ _ s
  refine wpAny_bind (wpAny_bind ?_)
  show wpAny _ _ (seqItems? (.ref l) >>= _) _ _ s
  refine wpAny_bind (wpAny_seqItems g rfl (wpAny_pure (wpAny_pure ?_)))
  have hi : seqIndex? (Int.negSucc 0) (xs ++ [y]).toArray.size = some xs.length := by
    have := PySem.seqIndex_neg (k := Int.negSucc 0) (n := (xs ++ [y]).toArray.size) (by decide) (by simp only [List.size_toArray, List.length_append, List.length_cons, List.length_nil]; omega)
    rw [this]; congr 1; simp only [List.size_toArray, List.length_append, List.length_cons, List.length_nil]; omega
  rw [hi, Option.bind_some, show (xs ++ [y]).toArray[xs.length]? = some y from by simp]
  show wpAny _ _ (setSeqItemAt l xs.length v >>= _) _ _ s
  refine wpAny_bind (wpAny_setSeqItemAt g rfl ?_)
  have hk := h _ (updList H u g (·.setIfInBounds xs.length v) (by simp))
  first
    | exact wpAny_bind (wpAny_pure (wpAny_pure ⟨.none, rfl, wpAny_pure hk⟩))
    | exact wpAny_pure ⟨.none, rfl, wpAny_pure hk⟩
end
end Mine
end
section
open PySem PySem.W PySem.Calls PyProof.Rows
set_option Elab.async false
set_option maxRecDepth 100000
set_option maxHeartbeats 4000000
namespace Mine
section
variable {prog : Program} {w : World} {A : Around} {E : Value → Shared → Prop} {b s : Shared} {cs cs' : List Cell} {K : Frag} {env : Env} {L : Addr} {ns : List Str} {vs vs' : List (Option Value)} {pos : Pos}
theorem entry_iter : entryFor table "iter" = some Builtin.«iter» := entryFor_of_tree (by kernel_rfl)
theorem entry_next : entryFor table "next" = some Builtin.«next» := entryFor_of_tree (by kernel_rfl)
theorem check_iter (x : Addr) : checkBuiltinCall "iter" ⟨[.ref x], []⟩ = pure () := by kernel_rfl
theorem check_next (x : Addr) : checkBuiltinCall "next" ⟨[.ref x], []⟩ = pure () := by kernel_rfl
theorem call_iter {x : Addr} {Q : Value → Shared → Prop} (h : wpAny (model prog w) A.in1 (pyIter (.ref x)) Q E s) : wpAny (model prog w) A (call (.builtin "iter") [.ref x]) Q E s := by
  refine wpAny_call (codeAny_call_builtin (by decide +kernel) entry_iter (wpAny_of_eq (check_iter x) ?_))
  show wpAny _ _ (pyIter (.ref x) >>= fun v => ret v) _ _ _
  exact wpAny_bind (wpAny_mono h (fun v s' z => wpAny_pure z) fun _ _ z => z)
theorem call_next {it : Addr} {T id : String} {Q : Value → Shared → Prop} (hT : s.TypeIs (.ref it) T) (sl : typeLookup (.type T) "__next__" = pure (some (.builtin id)))
    (h : wpAny (model prog w) A.in1 (callSpecial? (.ref it) "__next__") (fun r s' => ∃ v, r = some v ∧ Q v s') E s) : wpAny (model prog w) A (call (.builtin "next") [.ref it]) Q E s := by
  refine wpAny_call (codeAny_call_builtin (by decide +kernel) entry_next (wpAny_of_eq (check_next it) ?_))
  show wpAny _ _ (specialOf (.ref it) "__next__" >>= _) _ _ _
  refine wpAny_bind (wpAny_specialOf hT sl ?_)
  rw [if_neg (by simp)]
  refine wpAny_bind (wpAny_mono h (fun r s' ⟨v, hr, z⟩ => ?_) fun _ _ z => z)
  subst hr
  exact wpAny_pure z
/-! a tuple's iterator -/
abbrev TIter (t : Addr) (i : Nat) (o : Obj) : Prop := o.cls = .type "tuple_iterator" ∧ o.data = .fields #[.ref t, .int i 0]
theorem iterTup {t : Addr} {items : Array Value} {Q : Value → Shared → Prop} (H : St b s cs) (ht : Has (.o t (tupObj items)) cs) (h : ∀ s' it, St b s' (.p it (TIter t 0) :: cs) → Q (.ref it) s') : wpAny (model prog w) A (pyIter (.ref t)) Q E s :=
  wpAny_pyIter_tuple ⟨_, H.obj ht.mem, rfl, _, rfl⟩ (h _ s.heap.objs.size (H.newP (t := s.toks) (fun x y q => Heap.get?_push_of_some _ q) (Nat.le_refl _) (Heap.get?_push_size _ rfl) ⟨rfl, rfl⟩))
theorem nextTup {t it : Addr} {i : Nat} {items : Array Value} {y : Value} {Q : Value → Shared → Prop} (H : St b s cs) (ht : Has (.o t (tupObj items)) cs) (u : Sub1 (.p it (TIter t i)) (.p it (TIter t (i + 1))) cs cs') (hx : items[i]? = some y) (h : ∀ s', St b s' cs' → Q y s') :
    wpAny (model prog w) A (call (.builtin "next") [.ref it]) Q E s := by
  obtain ⟨⟨o, ho, hc, hd⟩, hb⟩ := H.sat _ u.mem
  have hT : s.TypeIs (.ref it) "tuple_iterator" := ⟨o, ho, hc⟩
  refine call_next hT PySem.F.slot_tuple_iterator_next.lookup ?_
  refine wpAny_callSpecial?_slot (name := Str.ofString "__next__") hT PySem.F.slot_tuple_iterator_next (wpAny_call_entry PySem.F.slot_tuple_iterator_next hT PySem.F.entry_tuple_iterator_next ?_ (PySem.F.args_tuple_iterator_next_1 _))
  show wpAny _ _ (field (.ref it) 0 >>= _) _ _ s
  refine wpAny_bind (wpAny_field ho hd (x := .ref t) rfl ?_)
  show wpAny _ _ (if (Value.ref t == Value.none) = true then _ else _) _ _ s
  rw [if_neg (show ¬ ((Value.ref t == Value.none) = true) from Bool.false_ne_true)]
  show wpAny _ _ (field (.ref it) 1 >>= _) _ _ s
  refine wpAny_bind (wpAny_field ho hd (x := .int i 0) rfl ?_)
  show wpAny _ _ (seqItems? (.ref t) >>= _) _ _ s
  refine wpAny_bind (wpAny_seqItems (H.obj ht.mem) rfl ?_)
  simp only [Int.toNat_natCast, hx]
  refine wpAny_bind (wpAny_setField ho hd (by simp) (wpAny_pure ⟨y, rfl, ?_⟩))
  refine ⟨y, rfl, h _ (H.change (t := s.toks) u rfl rfl hb (Heap.SameBut.update ..) ⟨⟨_, Heap.get?_update_self _ ho (Obj.isFreed_of_fields (Obj.data_mapFields hd _)), (Obj.cls_mapFields ..).trans hc, ?_⟩, hb⟩)⟩
  rw [Obj.data_mapFields hd]; simp [rawInt]
theorem raise_stop {β : Type} {Q : β → Shared → Prop} (hh : A.handled = none) (H : St b s cs) (h : ∀ s' e, St b s' (.p e (ExcP "StopIteration" .none) :: cs) → E (.ref e) s') :
    wpAny (model prog w) A (newExc (.type "StopIteration") [] >>= fun e => (raiseNew e : Sem β)) Q E s := by
  refine wpAny_bind ?_
  simp only [newExc, newTuple]
  refine wpAny_bind (wpAny_newObj_type ?_ (by size_fits))
  refine wpAny_bind (m := firstArgMember _ _) (wpAny_of_eq (a := Value.none) (by first | rfl | (simp only [firstArgMember]; rfl)) ?_)
  refine wpAny_newObj_type ?_ (by size_fits)
  refine wpAny_raiseNew_none hh (h _ _ ?_)
  have H1 := H.push (o := tupObj #[])
  refine St.mono (H1.newP (t := s.toks) (P := ExcP "StopIteration" .none) ?_ (Nat.le_refl _) (Heap.get?_push_size _ ?_) ⟨?_, #[Value.ref s.heap.objs.size, Value.none, Value.none, Value.none, Value.bool false, Value.none] ++ ownMembersOf (Value.type "StopIteration") [], ?_, ?_⟩) (List.Sublist.cons₂ _ (List.sublist_cons_self _ _))
  · exact fun x y q => Heap.get?_push_of_some _ q
  · rfl
  · rfl
  · rfl
  · rw [Array.getElem?_append_left (by simp)]; rfl
theorem stopTup {t it : Addr} {i : Nat} {items : Array Value} {Q : Value → Shared → Prop} (hh : A.handled = none) (H : St b s (.p it (TIter t i) :: cs)) (ht : Has (.o t (tupObj items)) cs) (hx : items[i]? = none)
    (h : ∀ s' e, St b s' (.p e (ExcP "StopIteration" .none) :: cs) → E (.ref e) s') :
    wpAny (model prog w) A (call (.builtin "next") [.ref it]) Q E s := by
  obtain ⟨⟨o, ho, hc, hd⟩, hb⟩ := H.sat _ (.head _)
  have hT : s.TypeIs (.ref it) "tuple_iterator" := ⟨o, ho, hc⟩
  refine call_next hT PySem.F.slot_tuple_iterator_next.lookup ?_
  refine wpAny_callSpecial?_slot (name := Str.ofString "__next__") hT PySem.F.slot_tuple_iterator_next (wpAny_call_entry PySem.F.slot_tuple_iterator_next hT PySem.F.entry_tuple_iterator_next ?_ (PySem.F.args_tuple_iterator_next_1 _))
  show wpAny _ _ (field (.ref it) 0 >>= _) _ _ s
  refine wpAny_bind (wpAny_field ho hd (x := .ref t) rfl ?_)
  show wpAny _ _ (if (Value.ref t == Value.none) = true then _ else _) _ _ s
  rw [if_neg (show ¬ ((Value.ref t == Value.none) = true) from Bool.false_ne_true)]
  show wpAny _ _ (field (.ref it) 1 >>= _) _ _ s
  refine wpAny_bind (wpAny_field ho hd (x := .int i 0) rfl ?_)
  show wpAny _ _ (seqItems? (.ref t) >>= _) _ _ s
  refine wpAny_bind (wpAny_seqItems (H.obj (Has.tail ht).mem) rfl ?_)
  simp only [Int.toNat_natCast, hx]
  refine wpAny_bind (wpAny_rule (wpAny_bind (wpAny_setField ho hd (by simp) ?_)))
  refine raise_stop hh (H.extBut (t := s.toks) rfl (fun x o hne q => (Heap.SameBut.update ..).extBut x o hne q) ht rfl) h
end
end Mine
end
section
open PySem PySem.W PySem.Calls PyProof.Rows
set_option Elab.async false
set_option maxRecDepth 100000
set_option maxHeartbeats 4000000
namespace Mine
section
variable {prog : Program} {w : World} {A : Around} {E : Value → Shared → Prop} {b s : Shared} {cs cs' : List Cell} {K : Frag} {env : Env} {L : Addr} {ns : List Str} {vs vs' : List (Option Value)} {pos : Pos}
abbrev viewObj (d : Addr) : Obj := { cls := .type "dict_items", data := .fields #[.ref d] }
/-- an iterator over a dict's items: which tuple it last lent out does not matter -/
def DItP (d : Addr) (i n ep : Nat) (o : Obj) : Prop := ∃ f0 f1 f6 f7, o = { cls := .type "dict_itemiterator", dict := none, data := .fields #[f0, f1, .ref d, .int i 0, .int n 0, .int ep 0, f6, f7], slots := #[] } ∧ (f0 = .none ∨ ∃ a t, f0 = .int a t)
theorem iterView {v d : Addr} {o : Obj} {es : Array DictEntry} {ep : Nat} {Q : Value → Shared → Prop} (H : St b s cs) (hv : Has (.o v (viewObj d)) cs) (hd : Has (.o d o) cs) (hdat : o.data = .dict es ep) (hz : es.size ≤ 1000)
    (h : ∀ s' it, St b s' (.p it (DItP d 0 es.size ep) :: cs) → Q (.ref it) s') : wpAny (model prog w) A (pyIter (.ref v)) Q E s := by
  have hov := H.obj hv.mem
  have ho := H.obj hd.mem
  have hT : s.TypeIs (.ref v) "dict_items" := ⟨_, hov, rfl⟩
  refine wpAny_pyIter_slot hT PySem.F.slot_dict_items_iter (wpAny_call_entry PySem.F.slot_dict_items_iter hT PySem.F.entry_dict_items_iter ?_ (PySem.F.args_dict_items_iter_1 _))
  unfold Builtin.«dict_items.__iter__»
  refine wpAny_bind (wpAny_pure ?_)
  refine wpAny_bind ?_
  unfold Builtin.Dict_items.dictOf
  refine wpAny_bind (wpAny_field hov rfl (x := .ref d) rfl (wpAny_pure ?_))
  refine wpAny_bind ?_
  unfold Builtin.Dict_items.newIterator
  refine wpAny_bind (wpAny_dictEntries ho hdat ?_)
  refine wpAny_bind (wpAny_dictEpoch ho hdat ?_)
  have hown : Builtin.Dict_items.ownsTuple "dict_itemiterator" = true := by decide
  simp only [hown, if_true]
  refine wpAny_newObj_type (wpAny_pure ⟨_, rfl, "dict_itemiterator", _, ⟨_, Heap.get?_push_size _ rfl, rfl⟩, PySem.F.slot_dict_itemiterator_next.lookup, ?_⟩)
    (by simp only [sizeOk, Builtin.Dict_items.ownedTupleFields, List.size_toArray, List.length_append, List.length_cons, List.length_nil, sizeLine_eq]; omega)
  refine h _ s.heap.objs.size (H.newP (t := s.toks) (fun x y q => Heap.get?_push_of_some _ q) (Nat.le_refl _) (Heap.get?_push_size _ rfl) ⟨.none, .bool false, .none, .none, ?_, .inl rfl⟩)
  simp [rawInt, Builtin.Dict_items.ownedTupleFields]
theorem wp_lia {M : Model} {a : Addr} {Q : Option Obj → Shared → Prop} (h : Q (s.heap.get? a) s) : wpAny M A (loadIfAlive a) Q E s := fun Γ p hΓ => by
  show Sem.wp M Γ (.loadIfAlive a .pure) _ _ p s
  rw [Sem.wp_loadIfAlive]; exact h
theorem setIt {it d : Addr} {i n ep k : Nat} {x : Value} {Q : Unit → Shared → Prop} (H : St b s cs) (hm : Cell.p it (DItP d i n ep) ∈ cs) (hk : k = 1 ∨ k = 6 ∨ k = 7 ∨ (k = 0 ∧ ∃ a t, x = .int a t)) (h : ∀ s', St b s' cs → Q () s') : wpAny (model prog w) A (setField (.ref it) k x) Q E s := by
  obtain ⟨⟨o, ho, f0, f1, f6, f7, rfl, hf0⟩, hb⟩ := H.sat _ hm
  refine wpAny_setField_rec ho (by simp only [List.size_toArray, List.length_cons, List.length_nil]; omega) fun h' he hs => h _ (H.change (t := s.toks) (Sub1.same hm) rfl rfl hb hs ⟨⟨_, he, ?_⟩, hb⟩)
  rcases hk with rfl | rfl | rfl | ⟨rfl, a, t, rfl⟩
  · exact ⟨f0, x, f6, f7, rfl, hf0⟩
  · exact ⟨f0, f1, x, f7, rfl, hf0⟩
  · exact ⟨f0, f1, f6, x, rfl, hf0⟩
  · exact ⟨.int a t, f1, f6, f7, rfl, .inr ⟨a, t, rfl⟩⟩
theorem fieldIt {it d : Addr} {i n ep k : Nat} {Q : Value → Shared → Prop} (H : St b s cs) (hm : Cell.p it (DItP d i n ep) ∈ cs) (hk : k < 8) (h : ∀ v, Q v s) : wpAny (model prog w) A (field (.ref it) k) Q E s := by
  obtain ⟨⟨o, ho, f0, f1, f6, f7, rfl, hf0⟩, hb⟩ := H.sat _ hm
  exact wpAny_field ho rfl (x := (#[f0, f1, .ref d, .int i 0, .int n 0, .int ep 0, f6, f7] : Array Value)[k]'(by simpa using hk)) (by simp [hk]) (h _)
theorem nextView {it d : Addr} {o : Obj} {es : Array DictEntry} {i ep : Nat} {e : DictEntry} {Q : Value → Shared → Prop} (H : St b s cs) (hd : Has (.o d o) cs) (hdat : o.data = .dict es ep) (u : Sub1 (.p it (DItP d i es.size ep)) (.p it (DItP d (i + 1) es.size ep)) cs cs') (hx : es[i]? = some e)
    (h : ∀ s' t, St b s' (.o t (tupObj #[e.key, e.val]) :: cs') → Q (.ref t) s') : wpAny (model prog w) A (call (.builtin "next") [.ref it]) Q E s := by
  obtain ⟨⟨oi, hoi, f0, f1, f6, f7, rfl, hf0⟩, hb⟩ := H.sat _ u.mem
  have hod := H.obj hd.mem
  have hT : s.TypeIs (.ref it) "dict_itemiterator" := ⟨_, hoi, rfl⟩
  refine call_next hT PySem.F.slot_dict_itemiterator_next.lookup ?_
  refine wpAny_callSpecial?_slot (name := Str.ofString "__next__") hT PySem.F.slot_dict_itemiterator_next (wpAny_call_entry PySem.F.slot_dict_itemiterator_next hT PySem.F.entry_dict_itemiterator_next ?_ (PySem.F.args_dict_itemiterator_next_1 _))
  refine wpAny_bind (wpAny_pure ?_)
  refine wpAny_bind ?_
  refine wpAny_bind ?_
  first | refine wpAny_bind (wpAny_typeNameOfWhole_itemiter hT (wpAny_pure ?_)) | refine wpAny_bind (wpAny_typeNameOf_itemiter hT (wpAny_pure ?_))
  refine wpAny_bind (wpAny_fieldsOf hoi rfl ?_)
  have hown : Builtin.Dict_items.ownsTuple "dict_itemiterator" = true := by decide
  simp only [hown, if_true]
  show wpAny _ _ (if (Value.ref d == Value.none) = true then _ else _) _ _ _
  rw [if_neg (show ¬ ((Value.ref d == Value.none) = true) from Bool.false_ne_true)]
  refine wpAny_bind (wpAny_pure ?_)
  refine wpAny_bind (wpAny_dictEntries hod hdat ?_)
  rw [if_neg (by simp)]
  refine wpAny_bind (wpAny_pure ?_)
  refine wpAny_bind (wpAny_dictEpoch hod hdat ?_)
  rw [if_neg (by simp)]
  refine wpAny_pure ?_
  simp only [show ¬ ((i : Int) < 0) from by omega, if_false, Int.toNat_natCast, hx]
  refine wpAny_bind ?_
  first | refine wpAny_bind (wpAny_typeNameOfWhole_itemiter hT (wpAny_pure ?_)) | refine wpAny_bind (wpAny_typeNameOf_itemiter hT (wpAny_pure ?_))
  refine wpAny_bind (wpAny_isOneOf_itemiter hT ?_)
  show wpAny _ _ (setField (.ref it) 3 (rawInt ((i : Int) + 1)) >>= _) _ _ _
  refine wpAny_bind (wpAny_setField_rec hoi (by simp) fun h₁ he₁ hs₁ => ?_)
  have H1 := H.change (t := s.toks) u rfl rfl hb hs₁ ⟨⟨_, he₁, f0, f1, f6, f7, by simp [rawInt], hf0⟩, hb⟩
  have hT₁ : Shared.TypeIs { s with heap := h₁ } (.ref it) "dict_itemiterator" := ⟨_, he₁, rfl⟩
  refine wpAny_bind (wpAny_holding ?_)
  refine wpAny_bind (wpAny_isOneOf_itemiter hT₁ ?_)
  refine wpAny_bind (wpAny_isOneOf_itemiter hT₁ ?_)
  show wpAny _ _ (Builtin.Dict_items.pairFromOwner (.ref it) 6 e.key e.val) _ _ _
  unfold Builtin.Dict_items.pairFromOwner
  refine wpAny_bind (wpAny_newTuple ?_)
  have H2 := H1.push (o := tupObj #[e.key, e.val])
  have hm : Cell.p it (DItP d (i + 1) es.size ep) ∈ (Cell.o h₁.objs.size (tupObj #[e.key, e.val]) :: cs') := by
    obtain ⟨p, r, rfl, rfl⟩ := u.split; simp
  have fin : ∀ s', St b s' (.o h₁.objs.size (tupObj #[e.key, e.val]) :: cs') → wpAny (model prog w) A.in1.in1 (pure (Value.ref h₁.objs.size) : Sem Value) (fun r s' => ∃ v, some r = some v ∧ Q v s') E s' :=
    fun s' H' => wpAny_pure ⟨_, rfl, h _ _ H'⟩
  have free : ∀ {Q' : Value → Shared → Prop} {E' : Value → Shared → Prop} {A' : Around} s', St b s' (.o h₁.objs.size (tupObj #[e.key, e.val]) :: cs') → (∀ s', St b s' (.o h₁.objs.size (tupObj #[e.key, e.val]) :: cs') → Q' (Value.ref h₁.objs.size) s') →
      wpAny (model prog w) A' (do
        let old := [← field (.ref it) 6, ← field (.ref it) (6 + 1)]
        setField (.ref it) 6 e.key
        setField (.ref it) (6 + 1) e.val
        setField (.ref it) 0 (rawInt h₁.objs.size)
        setField (.ref it) 1 (.bool false)
        letGo old [Value.ref h₁.objs.size]
        pure (Value.ref h₁.objs.size)) Q' E' s' := by
    intro Q' E' A' s' H' hq
    refine wpAny_bind (fieldIt H' hm (by decide) fun v6 => ?_)
    refine wpAny_bind (fieldIt H' hm (by decide) fun v7 => ?_)
    refine wpAny_bind (setIt H' hm (.inr (.inl rfl)) fun s₁ H₁ => ?_)
    refine wpAny_bind (setIt H₁ hm (.inr (.inr (.inl rfl))) fun s₂ H₂ => ?_)
    refine wpAny_bind (setIt H₂ hm (.inr (.inr (.inr ⟨rfl, _, _, rfl⟩))) fun s₃ H₃ => ?_)
    refine wpAny_bind (setIt H₃ hm (.inl rfl) fun s₄ H₄ => ?_)
    exact wpAny_bind (wpAny_letGo (wpAny_pure (hq s₄ H₄)))
  refine wpAny_bind ?_
  unfold Builtin.Dict_items.ownedTupleIsFree
  obtain ⟨⟨o2, ho2, g0, g1, g6, g7, rfl, hg0⟩, hb2⟩ := H2.sat _ hm
  refine wpAny_bind (wpAny_field ho2 rfl (x := g0) rfl ?_)
  have last : ∀ s', St b s' (.o h₁.objs.size (tupObj #[e.key, e.val]) :: cs') → Q (.ref h₁.objs.size) s' := fun s' H' => h _ _ H'
  have full : ∀ s', St b s' (.o h₁.objs.size (tupObj #[e.key, e.val]) :: cs') → ∀ {C : Sem Bool}, (∀ Q'', (∀ x s'', St b s'' (.o h₁.objs.size (tupObj #[e.key, e.val]) :: cs') → Q'' x s'') → wpAny (model prog w) A.in1.in1 C Q'' E s') → True := fun _ _ _ _ => trivial
  rcases hg0 with rfl | ⟨a, tk, rfl⟩
  · refine wpAny_pure ?_
    dsimp only
    rw [if_pos rfl]
    exact free _ H2 fun s' H' => wpAny_pure ⟨_, rfl, ⟨_, rfl, last s' H'⟩⟩
  · dsimp only
    refine wpAny_bind (wp_lia ?_)
    split
    · refine wpAny_pure ?_
      rw [if_pos rfl]
      exact free _ H2 fun s' H' => wpAny_pure ⟨_, rfl, ⟨_, rfl, last s' H'⟩⟩
    · refine wpAny_bind (wpAny_field ho2 rfl (x := g1) rfl ?_)
      split
      · refine wpAny_bind (setIt H2 hm (.inl rfl) fun s₃ H₃ => ?_)
        refine wpAny_pure ?_
        rw [if_neg (by decide)]
        exact wpAny_pure (wpAny_pure ⟨_, rfl, ⟨_, rfl, last _ H₃⟩⟩)
      · refine wpAny_pure ?_
        rw [if_neg (by decide)]
        exact wpAny_pure (wpAny_pure ⟨_, rfl, ⟨_, rfl, last _ H2⟩⟩)
theorem stopView {it d : Addr} {o : Obj} {es : Array DictEntry} {i ep : Nat} {Q : Value → Shared → Prop} (hh : A.handled = none) (H : St b s (.p it (DItP d i es.size ep) :: cs)) (hd : Has (.o d o) cs) (hdat : o.data = .dict es ep) (hx : es[i]? = none)
    (h : ∀ s' e, St b s' (.p e (ExcP "StopIteration" .none) :: cs) → E (.ref e) s') : wpAny (model prog w) A (call (.builtin "next") [.ref it]) Q E s := by
  obtain ⟨⟨oi, hoi, f0, f1, f6, f7, rfl, hf0⟩, hb⟩ := H.sat _ (.head _)
  have hod := H.obj (Has.tail hd).mem
  have hT : s.TypeIs (.ref it) "dict_itemiterator" := ⟨_, hoi, rfl⟩
  refine call_next hT PySem.F.slot_dict_itemiterator_next.lookup ?_
  refine wpAny_callSpecial?_slot (name := Str.ofString "__next__") hT PySem.F.slot_dict_itemiterator_next (wpAny_call_entry PySem.F.slot_dict_itemiterator_next hT PySem.F.entry_dict_itemiterator_next ?_ (PySem.F.args_dict_itemiterator_next_1 _))
  refine wpAny_bind (wpAny_pure ?_)
  refine wpAny_bind ?_
  refine wpAny_bind ?_
  first | refine wpAny_bind (wpAny_typeNameOfWhole_itemiter hT (wpAny_pure ?_)) | refine wpAny_bind (wpAny_typeNameOf_itemiter hT (wpAny_pure ?_))
  refine wpAny_bind (wpAny_fieldsOf hoi rfl ?_)
  have hown : Builtin.Dict_items.ownsTuple "dict_itemiterator" = true := by decide
  simp only [hown, if_true]
  show wpAny _ _ (if (Value.ref d == Value.none) = true then _ else _) _ _ _
  rw [if_neg (show ¬ ((Value.ref d == Value.none) = true) from Bool.false_ne_true)]
  refine wpAny_bind (wpAny_pure ?_)
  refine wpAny_bind (wpAny_dictEntries hod hdat ?_)
  rw [if_neg (by simp)]
  refine wpAny_bind (wpAny_pure ?_)
  refine wpAny_bind (wpAny_dictEpoch hod hdat ?_)
  rw [if_neg (by simp)]
  refine wpAny_pure ?_
  simp only [show ¬ ((i : Int) < 0) from by omega, if_false, Int.toNat_natCast, hx]
  refine wpAny_bind ?_
  first | refine wpAny_bind (wpAny_typeNameOfWhole_itemiter hT (wpAny_pure ?_)) | refine wpAny_bind (wpAny_typeNameOf_itemiter hT (wpAny_pure ?_))
  refine wpAny_bind (wpAny_setField_rec hoi (by rw [if_pos hown]; simp) fun h₁ he₁ hs₁ => ?_)
  refine raise_stop hh (H.extBut (t := s.toks) rfl hs₁.extBut hd rfl) h
end
end Mine
end
section
open PySem PySem.W PySem.Calls PyProof.Rows
set_option Elab.async false
set_option maxRecDepth 100000
set_option maxHeartbeats 4000000
namespace Mine
section
variable {prog : Program} {w : World} {A : Around} {E : Value → Shared → Prop} {b s : Shared} {cs cs' : List Cell} {K : Frag} {env : Env} {L : Addr} {ns : List Str} {vs vs' : List (Option Value)} {pos : Pos}
/-- what is written of a lambda -/
structure FnE (K : Frag) (f : Addr) (fd : FuncData) (body : Expr) : Prop where
  look : ∃ oc od osl, K.lookup f = some ⟨oc, od, .func fd, osl⟩
  code : codeIn K fd.code fd.qualname = true
  body : fd.body = .expr body
  kind : fd.scope.kind = .function
  co : fd.scope.isCoroutine = false
  globals : fd.globals = mainGlobals
  builtins : fd.builtins = builtinsNs
  closure : fd.closure = []
theorem enterE {R : Result → Shared → Prop} {fd : FuncData} {body : Expr} {f : Addr} {args : Args} {nk : List (Str × NameKind)} (Fn : FnE K f fd body) (hnk : fd.scope.names = nk) (ns : List Str) (vs : List (Option Value))
    (B : Base K b) (H : St b s cs) (hr : A.depth < recursionLimit) (hbind : BindsTo s fd args (bindsOf ns vs))
    (hcell : ∀ x ∈ nk, x.2 ≠ .cell) (hloc : ∀ x ∈ bindsOf ns vs, nk.lookup x.1 = some .local) (hnd : ns.Nodup) (hlen : ns.length = vs.length) (hgen : fd.scope.isGenerator = false)
    (h : ∀ s' L env, EnvIs env L nk [] → St b s' (.f L ns vs :: cs) →
      wpAny (model prog w) (A.deeper env) (eval body env) (fun v s' => R (.ok (.ret v)) s') (fun _ _ => False) s') :
    codeAny (model prog w) A (.call (.ref f) args) R s := by
  have X' := H.in_ B.X
  obtain ⟨oc, od, osl, ho⟩ := Fn.look
  subst hnk
  refine kla_callFunE hr (X' _ _ ho) rfl Fn.co hgen Fn.body (codeRec_of X' Fn.code) (hbind _ _ _ _ ?_)
  refine wpAny_newFunctionEnv hcell hloc (fun h₀ hns₀ hsb₀ => ⟨(B.nolimit.keeps H.keep).fresh _ hsb₀, kla_codeExpr (wpAny_mono (h _ s.heap.objs.size _ ⟨rfl, rfl, Fn.kind, Fn.globals, Fn.builtins, Fn.closure, rfl⟩ ?_) (fun _ _ x => x) fun _ _ x => x.elim)⟩) Fn.kind
  have hk₁ : ∀ b o, s.heap.get? b = some o → h₀.get? b = some o := fun b o e => hsb₀.extBut b o (Nat.ne_of_lt (Heap.lt_size e)) (Heap.get?_push_of_some _ e)
  have below : ∀ c ∈ cs, c.key ≠ (true, s.heap.objs.size) := fun c hc q => absurd (Cell.key_lt (H.sat c hc) q) (Nat.lt_irrefl _)
  refine ⟨fun a o q => hk₁ _ _ (H.keep a o q), Nat.le_of_lt (Nat.lt_of_le_of_lt H.size hns₀.lt), ?_, fun c hc => ?_, H.bare, H.os⟩
  · rw [List.map_cons, List.nodup_cons]
    exact ⟨fun q => let ⟨c, hc, e⟩ := List.mem_map.mp q; below c hc e, H.nod⟩
  · rcases List.mem_cons.mp hc with rfl | hc
    · exact ⟨by rw [← loc_bindsOf ns vs hnd hlen]; exact hns₀, hnd, hlen, H.size⟩
    · have hs := H.sat c hc
      cases c with
      | o a x => exact ⟨hk₁ _ _ hs.1, hs.2⟩
      | p a P => obtain ⟨⟨x, h1, h2⟩, h3⟩ := hs; exact ⟨⟨x, hk₁ _ _ h1, h2⟩, h3⟩
      | f L ns vs => obtain ⟨⟨oL, a1, a2, hL, a3⟩, r⟩ := hs; exact ⟨⟨oL, a1, a2, hk₁ _ _ hL, a3⟩, r⟩
      | g n gs => exact hs
end
end Mine
end
section
open PySem PySem.W PySem.Calls PyProof.Rows
set_option Elab.async false
namespace Mine
def Fo.out (D : Adr) (u : List Nat) : Fo → List (List Nat × Value)
  | .nil => []
  | .cons k _ _ _ v _ ch r => (if isSet D v then [(u ++ [k], v)] else []) ++ (ch.out D (u ++ [k]) ++ r.out D u)
def Fo.sz : Fo → Nat
  | .nil => 0
  | .cons _ _ _ _ _ _ ch r => 1 + ch.sz + r.sz
def Fo.drop : Nat → Fo → Fo
  | 0, f => f
  | _ + 1, .nil => .nil
  | i + 1, .cons _ _ _ _ _ _ _ r => r.drop i
theorem Fo.drop_nil : ∀ {i : Nat} {f : Fo}, f.drop i = .nil → f.ents[i]? = none
  | 0, .nil, _ => rfl
  | 0, .cons .., h => by simp [Fo.drop] at h
  | i + 1, .nil, _ => rfl
  | i + 1, .cons _ _ _ _ _ _ _ r, h => by
    simp only [Fo.drop] at h
    have := drop_nil (i := i) h
    simpa [Fo.ents] using this
theorem Fo.drop_cons {D : Adr} {k tk a dx v kd ch rr} : ∀ {i : Nat} {f : Fo}, f.ok D → f.drop i = .cons k tk a dx v kd ch rr → f.ents[i]? = some (k, tk, a) ∧ f.drop (i + 1) = rr ∧ f.look k = some ⟨a, dx, v, kd, ch⟩ ∧ k ∈ f.keys
  | 0, .nil, _, h => by simp [Fo.drop] at h
  | 0, .cons .., _, h => by
    simp only [Fo.drop] at h
    cases h
    exact ⟨rfl, rfl, by simp [Fo.look], by simp [Fo.keys]⟩
  | i + 1, .nil, _, h => by simp [Fo.drop] at h
  | i + 1, .cons k' _ _ _ _ _ _ r, ho, h => by
    simp only [Fo.drop] at h
    obtain ⟨h1, h2, h3, h4⟩ := drop_cons (i := i) ho.2.2.2.2.2 h
    have hne : ¬ k' = k := fun e => ho.2.1 (e ▸ h4)
    exact ⟨by simpa [Fo.ents] using h1, h2, by simp [Fo.look, hne, h3], by simp [Fo.keys, h4]⟩
structure Lv where
  n : Nd
  i : Nat
  it : Addr
  ics : List Cell
/-- an iterator over a node's children, so many of them told -/
def ItC (lv : Lv) : Prop := match lv.n.kd with
  | .no => False
  | .one _ _ => ∃ t t2 k tk a, lv.n.ch.ents = [(k, tk, a)] ∧ lv.ics = [.p lv.it (TIter t lv.i), .o t (tupObj #[.ref t2]), .o t2 (tupObj #[.str (letter k) tk, .ref a])]
  | .many c _ ep => lv.ics = [.p lv.it (DItP c lv.i lv.n.ch.ents.length ep)]
def LvOk (r : Nd) : List Lv → List Nat → Prop
  | [], _ => False
  | lv :: rest, ur => r.find ur.reverse = some lv.n ∧ ItC lv ∧ (match ur with
    | [] => rest = []
    | _ :: ur' => LvOk r rest ur')
def outL (D : Adr) : List Lv → List Nat → List (List Nat × Value)
  | [], _ => []
  | lv :: rest, ur => (lv.n.ch.drop lv.i).out D ur.reverse ++ outL D rest ur.tail
def szL : List Lv → Nat
  | [] => 0
  | lv :: rest => (lv.n.ch.drop lv.i).sz + szL rest
def cellsL (l : List Lv) : List Cell := l.flatMap (·.ics)
def itsL : List Lv → List Value
  | [] => []
  | lv :: rest => itsL rest ++ [.ref lv.it]
/-- the letters of a way, last one first, as texts -/
def PathR : List Nat → List Value → Prop
  | [], vs => vs = []
  | x :: ur, vs => ∃ vs' t, vs = vs' ++ [.str (letter x) t] ∧ PathR ur vs'
theorem itsL_length : ∀ l : List Lv, (itsL l).length = l.length
  | [] => rfl
  | lv :: rest => by simp [itsL, itsL_length rest]
theorem LvOk.length {r : Nd} : ∀ {l : List Lv} {ur : List Nat}, LvOk r l ur → l.length = ur.length + 1
  | [], _, h => False.elim h
  | lv :: rest, [], h => by
    have : rest = [] := h.2.2
    rw [this]; rfl
  | lv :: rest, x :: ur', h => by
    have : LvOk r rest ur' := h.2.2
    simp [LvOk.length this]
theorem PathR.length : ∀ {ur : List Nat} {vs : List Value}, PathR ur vs → vs.length = ur.length
  | [], _, h => by rw [h]; rfl
  | x :: ur, _, h => by obtain ⟨vs', t, rfl, h⟩ := h; simp [PathR.length h]
/-- where the walk stands behind a node: the levels above it -/
def Above (r : Nd) : List Nat → List Lv → Prop
  | [], l => l = []
  | _ :: ur, l => LvOk r l ur
def outA (D : Adr) : List Nat → List Lv → List (List Nat × Value)
  | [], _ => []
  | _ :: ur, l => outL D l ur
end Mine
end
section
open PySem PySem.W PySem.Calls PyProof.Rows
set_option Elab.async false
set_option maxRecDepth 100000
set_option maxHeartbeats 4000000
namespace Mine
section
variable {prog : Program} {w : World} {A : Around} {E : Value → Shared → Prop} {b s : Shared} {cs cs' : List Cell} {K : Frag} {env : Env} {L : Addr} {ns : List Str} {vs vs' : List (Option Value)} {pos : Pos}
theorem tryExc {body : List Stmt} {h₀ : ExceptHandler} {hs : List ExceptHandler} {Q : Flow → Shared → Prop} (hfr : env.frame = some L) (hin : ∀ l, A.frames = some l → ∃ e ∈ l, e.frame = some L)
    (h : wpAny (model prog w) A (execs body env) (fun f s₁ => Q f s₁) (fun e s₁ => ∃ X ea cs₁, e = .ref ea ∧ St b s₁ (.p ea (ExcP X .none) :: cs₁) ∧ Fs A (.p ea (ExcP X .none) :: cs₁) ∧
      (∀ s₂ tb, St b s₂ (.p ea (ExcP X (.ref tb)) :: .p tb (TbP .none) :: cs₁) → wpAny (model prog w) A (handleBy (.ref ea) env (h₀ :: hs)) Q E s₂)) s) : wpAny (model prog w) A (exec (.Try body (h₀ :: hs) [] [] pos) env) Q E s := by
  refine wpAny_Try_except (wpAny_mono h (fun f s₁ h₁ => ?_) fun e s₁ ⟨X, ea, cs₁, he, H, FS, k⟩ => ?_)
  · cases f with
    | next => exact wpAny_execs_nil h₁
    | _ => exact h₁
  · subst he
    refine noteFrame_ FS hfr hin H fun s₂ tb H₂ => ?_
    exact setFlight_ H₂ .head (.tail .head) fun s₃ H₃ => k s₃ tb H₃
theorem handle_hit {X T : String} {ea tb : Addr} {t : Expr} {b₀ : Stmt} {suite : List Stmt} {rest : List ExceptHandler} {Q : Flow → Shared → Prop}
    (hexc : isSubtype (.type T) (.type "BaseException") = pure true) (hnt : isSubtype (.type ((Manifest.find? T).elim "type" fun x => x.metatype)) (.type "tuple") = pure false) (hsub : isSubtype (.type X) (.type T) = pure true)
    (H : St b s (.p ea (ExcP X (.ref tb)) :: .p tb (TbP .none) :: cs)) (hev : ∀ (Q' : Value → Shared → Prop) E', Q' (.type T) s → wpAny (model prog w) (A.mark (some (.ref ea))) (eval t env) Q' E' s)
    (h : ∀ s', St b s' (.p ea (ExcP X (.ref tb)) :: .p tb (TbP .none) :: cs) → wpAny (model prog w) (A.mark (some (.ref ea))) (execs (b₀ :: suite) env) Q (fun _ _ => False) s') :
    wpAny (model prog w) A (handleBy (.ref ea) env (.ExceptHandler (some t) none (b₀ :: suite) pos :: rest)) Q E s := by
  obtain ⟨⟨o, ho, h1, _⟩, _⟩ := H.sat _ (.head _)
  refine wpAny_handleBy_builtin (X := X) (T := T) (b := true) hexc hnt hsub (hev _ _ ⟨rfl, ⟨o, ho, h1⟩, ?_⟩)
  rw [if_pos rfl]
  refine setFlight_ H .head (.tail .head) fun s₃ H₃ => ?_
  exact wpAny_mono (h s₃ H₃) (fun _ _ z => z) fun _ _ z => z.elim
theorem handle_miss {X T : String} {ea tb : Addr} {t : Expr} {b₀ : Stmt} {suite : List Stmt} {rest : List ExceptHandler} {Q : Flow → Shared → Prop}
    (hexc : isSubtype (.type T) (.type "BaseException") = pure true) (hnt : isSubtype (.type ((Manifest.find? T).elim "type" fun x => x.metatype)) (.type "tuple") = pure false) (hsub : isSubtype (.type X) (.type T) = pure false)
    (H : St b s (.p ea (ExcP X (.ref tb)) :: .p tb (TbP .none) :: cs)) (hev : ∀ (Q' : Value → Shared → Prop) E', Q' (.type T) s → wpAny (model prog w) (A.mark (some (.ref ea))) (eval t env) Q' E' s)
    (h : wpAny (model prog w) A (handleBy (.ref ea) env rest) Q E s) :
    wpAny (model prog w) A (handleBy (.ref ea) env (.ExceptHandler (some t) none (b₀ :: suite) pos :: rest)) Q E s := by
  obtain ⟨⟨o, ho, h1, _⟩, _⟩ := H.sat _ (.head _)
  refine wpAny_handleBy_builtin (X := X) (T := T) (b := false) hexc hnt hsub (hev _ _ ⟨rfl, ⟨o, ho, h1⟩, ?_⟩)
  rw [if_neg (by decide)]
  exact h
theorem sub_ss : isSubtype (.type "StopIteration") (.type "StopIteration") = pure true := by rw [isSubtype_type]; kernel_rfl
theorem sub_is : isSubtype (.type "IndexError") (.type "StopIteration") = pure false := by rw [isSubtype_type]; kernel_rfl
theorem sub_ii : isSubtype (.type "IndexError") (.type "IndexError") = pure true := by rw [isSubtype_type]; kernel_rfl
theorem sub_sb : isSubtype (.type "StopIteration") (.type "BaseException") = pure true := by rw [isSubtype_type]; kernel_rfl
theorem sub_ib : isSubtype (.type "IndexError") (.type "BaseException") = pure true := by rw [isSubtype_type]; kernel_rfl
theorem not_tup_s : isSubtype (.type ((Manifest.find? "StopIteration").elim "type" fun x => x.metatype)) (.type "tuple") = pure false := by rw [isSubtype_type]; kernel_rfl
theorem not_tup_i : isSubtype (.type ((Manifest.find? "IndexError").elim "type" fun x => x.metatype)) (.type "tuple") = pure false := by rw [isSubtype_type]; kernel_rfl
/-- one level's iterator goes on -/
theorem lvl_next {D : Adr} {lv : Lv} {Q : Value → Shared → Prop} (hh : A.handled = none) (H : St b s (lv.ics ++ cs)) (hin : ∀ c ∈ lv.n.cells w.params D, c ∈ cs) (hI : ItC lv)
    (h1 : ∀ k tk a s' t2 ics' ex, lv.n.ch.ents[lv.i]? = some (k, tk, a) → ItC { lv with i := lv.i + 1, ics := ics' } → Cell.o t2 (tupObj #[.str (letter k) tk, .ref a]) ∈ ics' ++ (ex ++ cs) → St b s' (ics' ++ (ex ++ cs)) → Q (.ref t2) s')
    (h2 : ∀ s' e, lv.n.ch.ents[lv.i]? = none → St b s' (.p e (ExcP "StopIteration" .none) :: cs) → E (.ref e) s') : wpAny (model prog w) A (call (.builtin "next") [.ref lv.it]) Q E s := by
  obtain ⟨⟨a, dx, v, kd, ch⟩, i, it, ics⟩ := lv
  cases kd with
  | no => exact hI.elim
  | one c cdx =>
    obtain ⟨t, t2, k, tk, a', he, hics⟩ := hI
    dsimp only at he hics H h1 h2 hin ⊢
    subst hics
    cases i with
    | zero =>
      refine nextTup H (ht := .tail .head) .head (y := .ref t2) rfl fun s' H' => ?_
      refine h1 k tk a' s' t2 [.p it (TIter t 1), .o t (tupObj #[.ref t2]), .o t2 (tupObj #[.str (letter k) tk, .ref a'])] [] (by rw [he]; rfl) ⟨t, t2, k, tk, a', he, rfl⟩ (by simp) H'
    | succ i =>
      have hn : ch.ents[i + 1]? = none := by rw [he]; rfl
      refine stopTup hh H (ht := .head) (by simp) fun s' e H' => h2 s' e hn (H'.mono ?_)
      exact List.Sublist.cons_cons _ ((List.sublist_cons_self _ _).trans (List.sublist_cons_self _ _))
  | many c cdx ep =>
    have hics : ics = [.p it (DItP c i ch.ents.length ep)] := hI
    dsimp only at H h1 h2 hin ⊢
    subst hics
    have hc : Has (.o c (manyObj D cdx (ch.ents.map (entOf w.params)) ep)) (.p it (DItP c i ch.ents.length ep) :: cs) := .tail (.of (hin _ (by simp [Nd.cells, chCells])))
    have hsz : ch.ents.length = ((ch.ents.map (entOf w.params)).toArray).size := by simp
    cases q : ch.ents[i]? with
    | none =>
      rw [hsz] at H
      refine stopView hh H (o := manyObj D cdx (ch.ents.map (entOf w.params)) ep) (.of (hin _ (by simp [Nd.cells, chCells]))) rfl (by simp [q]) fun s' e H' => h2 s' e q H'
    | some p =>
      obtain ⟨k, tk, a'⟩ := p
      rw [hsz] at H
      refine nextView H (o := manyObj D cdx (ch.ents.map (entOf w.params)) ep) (e := entOf w.params (k, tk, a')) (.tail (.of (hin _ (by simp [Nd.cells, chCells])))) rfl .head (by simp [q]) fun s' t H' => ?_
      refine h1 k tk a' s' t [.p it (DItP c (i + 1) ch.ents.length ep)] [.o t (tupObj #[.str (letter k) tk, .ref a'])] q rfl (by simp) ?_
      rw [← hsz] at H'
      exact H'.perm (.swap ..)
end
end Mine
end
section
open PySem PySem.W PySem.Calls PyProof.Rows
set_option Elab.async false
set_option maxRecDepth 100000
set_option maxHeartbeats 4000000
namespace Mine
section
variable {prog : Program} {w : World} {A : Around} {E : Value → Shared → Prop} {b s : Shared} {cs cs' : List Cell} {K : Frag} {env : Env} {L : Addr} {ns : List Str} {vs vs' : List (Option Value)} {pos : Pos}
theorem join_ {sep : Str} {t : Tok} {l : Addr} {ps : List (Str × Tok)} {Q : Value → Shared → Prop} (H : St b s cs) (hl : Has (.p l (lstP (strValues ps))) cs) (hz : JoinOk sep (ps.map (·.1)) = true)
    (h : ∀ s' tk, St b s' cs → Q (.str (Txt.join sep (ps.map (·.1))) tk) s') : wpAny (model prog w) A (call (.builtin "str.join") [.str sep t, .ref l]) Q E s := by
  unfold JoinOk at hz
  rw [Bool.not_eq_true'] at hz
  refine call_meets PySem.F.slot_str_join (typeIs_str _ _ _) PySem.F.entry_str_join (PySem.F.args_str_join_2 _ _) (meets_str_join_list sep t l ps hz) ⟨H.list hl, ?_⟩
  exact PySem.post_join ps ⟨PySem.joinFit_length hz, fun t' k => h _ t' (H.toks (t := k))⟩
theorem joinOk_letters {ps : List (Nat × Tok)} (h : ps.length ≤ 1000) : JoinOk (Str.ofString "") ((ps.map fun p => (letter p.1, p.2)).map (·.1)) = true := by
  have key : ∀ (l : List Str) (a : Nat), (∀ x ∈ l, x.length = 1) → l.foldl (fun n (x : Str) => n + x.length + (Str.ofString "").length) a = a + l.length := by
    intro l
    induction l with
    | nil => intro a _; rfl
    | cons x l ih =>
      intro a hx
      rw [List.foldl_cons, ih _ (fun y hy => hx y (.tail _ hy)), hx x (.head _)]
      have : (Str.ofString "").length = 0 := by decide
      rw [this, List.length_cons]; omega
  unfold JoinOk
  rw [← Array.foldl_toList]
  have := key ((ps.map fun p => (letter p.1, p.2)).map (·.1)) 0 (by intro x hx; simp only [List.map_map, List.mem_map] at hx; obtain ⟨p, _, rfl⟩ := hx; rfl)
  simp only [List.toList_toArray]
  rw [this]
  simp only [Builtin.Str.tooLong, List.length_map, Bool.not_eq_true', decide_eq_false_iff_not]
  exact Nat.not_lt.mpr (Nat.le_trans (by omega) (show 1000 ≤ sizeLine by decide))
def wordOf (u : List Nat) : Str := ⟨u.toArray⟩
/-- letters as texts, each with its token -/
def lets (ps : List (Nat × Tok)) : List (Str × Tok) := ps.map fun p => (letter p.1, p.2)
theorem PathR.lets : ∀ {ur : List Nat} {vs : List Value}, PathR ur vs → ∃ ps : List (Nat × Tok), vs = strValues (lets ps) ∧ ps.map (·.1) = ur.reverse
  | [], _, h => ⟨[], h, rfl⟩
  | x :: ur, _, h => by
    obtain ⟨vs', t, rfl, h⟩ := h
    obtain ⟨ps, h1, h2⟩ := PathR.lets h
    exact ⟨ps ++ [(x, t)], by rw [h1]; simp [Mine.lets, strValues], by simp [h2]⟩
theorem join_letters : ∀ (ps : List (Nat × Tok)), Str.join (Str.ofString "") ((lets ps).map (·.1)) = wordOf (ps.map (·.1))
  | [] => rfl
  | [p] => rfl
  | p :: q :: r => by
    have ih := join_letters (q :: r)
    show letter p.1 ++ Str.ofString "" ++ Str.join (Str.ofString "") ((lets (q :: r)).map (·.1)) = _
    rw [ih]
    show (⟨#[p.1] ++ (Str.ofString "").cps ++ (List.map (·.1) (q :: r)).toArray⟩ : Str) = ⟨_⟩
    have : (Str.ofString "").cps = #[] := by decide
    rw [this]
    simp
end
end Mine
end
section
open PySem PySem.W PySem.Calls PyProof.Rows
set_option Elab.async false
set_option maxRecDepth 100000
set_option maxHeartbeats 4000000
namespace Mine
/-- what a list of generator answers holds, and the cells that came with it -/
inductive Told {α : Type} (T : α → Value → List Cell → Prop) : List α → List Value → List Cell → Prop
  | nil : Told T [] [] []
  | cons {x v vis l vs cs} : T x v vis → Told T l vs cs → Told T (l ++ [x]) (vs ++ [v]) (vis ++ cs)
section
variable {prog : Program} {w : World} {A : Around} {E : Value → Shared → Prop} {b s : Shared} {cs cs' : List Cell} {K : Frag} {env : Env} {L : Addr} {ns : List Str} {vs vs' : List (Option Value)} {pos : Pos} {ro own : List Cell} {α : Type} {T : α → Value → List Cell → Prop}
theorem perm_told {pl pa pg : Cell} {vis ow ac c : List Cell} : (pl :: (vis ++ (pa :: pg :: (ow ++ (ac ++ c))))).Perm (vis ++ (pa :: pg :: (ow ++ (pl :: (ac ++ c))))) := by
  have h := (List.perm_middle (l₁ := vis ++ (pa :: pg :: ow)) (l₂ := ac ++ c) (a := pl)).symm
  simpa only [List.append_assoc, List.cons_append] using h
theorem extend_gen {R : Result → Shared → Prop} {a l : Addr} {g : Nat} {res : Value} {k : Nat} (B : Base K b) (hh : A.handled = none) (hroom : A.depth + k < recursionLimit) (hk : 0 < k) (hro : ∀ c ∈ ro, c ∈ cs) (FS : Fs A cs) :
  ∀ (X done : List α) (gs : GenState) (own : List Cell) (vals : List Value) (acc : List Cell) (s : Shared), done.length + X.length ≤ 900 → Told T done vals acc → vals.length = done.length → Rdy (model prog w) k b ro (fun x v vis _ => T x v vis) X gs own →
    St b s (.p l (lstP vals) :: .p a (GenP g) :: .g g gs :: (own ++ (acc ++ cs))) →
    (∀ s' vals acc, Told T (done ++ X) vals acc → St b s' (.p l (lstP vals) :: (acc ++ cs)) → R (.ok (.ret res)) s') →
    codeAny (model prog w) A (.builtin "list.extend.loop" ⟨[.ref l, .ref a, res], []⟩) R s := by
  intro X
  induction X with
  | nil =>
    intro done gs own vals acc s hn ht hv hr H hR
    refine codeAny_builtin PySem.F.entry_extend_loop ?_
    rw [Around.under_plainId PySem.F.plain_extend_loop _]
    show wpAny _ A.in1 (pyNext (.ref a) >>= _) _ _ s
    have H1 := H.perm (cs' := .p a (GenP g) :: .g g gs :: (own ++ (.p l (lstP vals) :: (acc ++ cs)))) (perm_told (vis := []) (pl := .p l (lstP vals))).symm
    refine wpAny_bind (nextNil (A := A.in1) B hh hroom H1 (fun c hc => .tail _ (List.mem_append_right _ (hro c hc))) (FS.mono fun c hc => .tail _ (List.mem_append_right _ hc)) hr fun s' H' => ?_)
    refine wpAny_pure (hR s' vals acc (by simpa using ht) (H'.mono ((List.sublist_cons_self _ _).trans (List.sublist_cons_self _ _))))
  | cons x X ih =>
    intro done gs own vals acc s hn ht hv hr H hR
    refine codeAny_builtin PySem.F.entry_extend_loop ?_
    rw [Around.under_plainId PySem.F.plain_extend_loop _]
    show wpAny _ A.in1 (pyNext (.ref a) >>= _) _ _ s
    have H1 := H.perm (cs' := .p a (GenP g) :: .g g gs :: (own ++ (.p l (lstP vals) :: (acc ++ cs)))) (perm_told (vis := []) (pl := .p l (lstP vals))).symm
    refine wpAny_bind (nextCons (A := A.in1) B hh hroom H1 (fun c hc => .tail _ (List.mem_append_right _ (hro c hc))) (FS.mono fun c hc => .tail _ (List.mem_append_right _ hc)) hr fun gs' v vis own' s' hT hr' H' => ?_)
    have H2 := H'.perm perm_told
    show wpAny _ A.in1 (updateSeq l (·.push v) >>= _) _ _ _
    obtain ⟨c, hg⟩ := H2.isList (a := l) (items := vals) .head
    refine wpAny_bind ?_
    refine wpAny_updateSeq hg rfl (wpAny_pure ⟨plainId_quiet PySem.F.plain_extend_loop _, ?_⟩) (by rw [List.size_toArray]; simp only [List.length_cons] at hn; exact Nat.le_trans (show vals.length ≤ 900 by omega) (by decide)) (by simp only [List.push_toArray, List.size_toArray, List.length_append, List.length_cons, List.length_nil] at *; exact Nat.le_trans (show vals.length + 1 ≤ 1000 by omega) (by decide))
    have H3 := updList (ys := vals ++ [v]) H2 .head hg (·.push v) (by simp)
    refine ih (done ++ [x]) gs' own' (vals ++ [v]) (vis ++ acc) _ (by simp only [List.length_append, List.length_cons, List.length_nil] at *; omega) (.cons hT ht) (by simp [hv]) hr' (H3.perm ?_) (fun s' vals' acc' ht' H' => hR s' vals' acc' (by simpa using ht') H')
    refine List.Perm.cons _ ?_
    have := List.perm_append_comm_assoc (.p a (GenP g) :: .g g gs' :: own') vis (acc ++ cs)
    simpa only [List.append_assoc, List.cons_append] using this
theorem list_gen {a : Addr} {g : Nat} {gs : GenState} {X : List α} {Q : Value → Shared → Prop} {k : Nat} (B : Base K b) (hh : A.handled = none) (hroom : A.depth + k < recursionLimit) (hk : 0 < k) (hro : ∀ c ∈ ro, c ∈ cs) (FS : Fs A cs) (hn : X.length ≤ 900)
  (hr : Rdy (model prog w) k b ro (fun x v vis _ => T x v vis) X gs own) (H : St b s (.p a (GenP g) :: .g g gs :: (own ++ cs)))
  (h : ∀ s' l vals acc, Told T X vals acc → St b s' (.p l (lstP vals) :: (acc ++ cs)) → Q (.ref l) s') : wpAny (model prog w) A (call (.type "list") [.ref a]) Q E s := by
  have hT : s.TypeIs (.ref a) "generator" := (H.isGen .head).typeIs
  refine callType_codes (Q₁ := fun obj s₁ => obj = .ref s.heap.objs.size ∧ s₁ = { s with heap := s.heap.push { cls := .type "list", data := .seq #[] } }) PySem.F.called_list (PySem.F.typeCall_list_1 _) PySem.F.entry_list_init
    (code_list_new _ ⟨rfl, rfl⟩) fun obj s₁ h₁ => ?_
  obtain ⟨rfl, rfl⟩ := h₁
  have hS : (s.heap.push { cls := .type "list", data := .seq #[] }).get? s.heap.objs.size = some { cls := .type "list", data := .seq #[] } := Heap.get?_push_size _ rfl
  refine ⟨⟨_, hS, rfl⟩, PySem.F.args_list_init_2 _ _, ?_⟩
  have H0 : St b { s with heap := s.heap.push { cls := .type "list", data := .seq #[] } } (.p s.heap.objs.size (lstP []) :: .p a (GenP g) :: .g g gs :: (own ++ cs)) := H.newP (t := s.toks) (fun x y q => Heap.get?_push_of_some _ q) (Nat.le_refl _) hS ⟨0, rfl⟩
  show wpAny _ _ (do let old ← Builtin.List.listItems (.ref s.heap.objs.size); Builtin.List.listUpdate (.ref s.heap.objs.size) (fun _ => #[]); letGo old.toList.reverse; Builtin.List.listExtendWith (.ref s.heap.objs.size) (.ref a) .none) _ _ _
  refine wpAny_bind ?_
  unfold Builtin.List.listItems
  refine wpAny_bind (wpAny_seqItems hS rfl (wpAny_pure ?_))
  show wpAny _ _ (updateSeq s.heap.objs.size (fun _ => #[]) >>= fun _ => letGo (#[] : Array Value).toList.reverse >>= fun _ => Builtin.List.listExtendWith (.ref s.heap.objs.size) (.ref a) .none) _ _ _
  refine wpAny_bind (wpAny_updateSeq hS rfl ?_)
  have H1 := updList (xs := []) (ys := []) H0 .head hS (fun _ => #[]) rfl
  refine wpAny_bind (wpAny_letGo ?_)
  have hSI : s.heap.objs.size ≠ a := by
    intro e
    have := H1.nod
    simp [Cell.key, e] at this
  generalize s.heap.objs.size = S at *
  generalize hsn : ({ s with heap := (s.heap.push { cls := .type "list", data := .seq #[] }).update S (Obj.mapSeq fun _ => #[]) } : Shared) = s1 at *
  have hT1 : s1.TypeIs (.ref a) "generator" := (H1.isGen (a := a) (g := g) (.tail .head)).typeIs
  unfold Builtin.List.listExtendWith
  refine wpAny_bind (wpAny_typeOf hT1 ?_)
  have h1 : Builtin.List.listSameRef (.ref S) (.ref a) = false := by simp [Builtin.List.listSameRef, hSI]
  have h2 : (Value.type "generator" == Value.type "list") = false := by decide
  have h3 : (Value.type "generator" == Value.type "tuple") = false := by decide
  simp only [h1, h2, h3, Bool.or_false, Bool.false_eq_true, if_false]
  refine wpAny_bind (wpAny_pyIter_gen (H1.isGen (a := a) (g := g) (.tail .head)) ?_)
  refine wpAny_bind (wpAny_holding ?_)
  unfold Builtin.List.listLengthHint
  refine wpAny_bind (wpAny_specialOf hT1 PySem.F.gen_no_len ?_)
  show wpAny _ _ (specialOf (Value.ref a) (Str.ofString "__length_hint__") >>= _) _ _ _
  refine wpAny_bind (wpAny_specialOf hT1 PySem.F.gen_no_hint ?_)
  refine wpAny_pure ?_
  show wpAny _ _ (rule "list.extend.makes-room" >>= fun _ => Builtin.List.listTouch (.ref S) >>= fun _ =>
    again (.builtin "list.extend.loop" ⟨[.ref S, .ref a, .none], []⟩)) _ _ _
  refine wpAny_bind (wpAny_rule ?_)
  refine wpAny_bind ?_
  show wpAny _ _ (updateSeq S (·.push .none) >>= fun _ => updateSeq S (·.pop)) _ _ _
  obtain ⟨c2, g2⟩ := H1.isList (a := S) (items := []) .head
  refine wpAny_bind (wpAny_updateSeq g2 rfl ?_)
  have H2 := updList (ys := [.none]) H1 .head g2 (·.push Value.none) (by simp)
  obtain ⟨c3, g3⟩ := H2.isList (a := S) (items := [.none]) .head
  refine wpAny_updateSeq (hz := by seq_fits) g3 rfl ?_
  have H3 := updList (ys := []) H2 .head g3 (·.pop) (by simp)
  refine wpAny_pure ⟨plainId_quiet PySem.F.plain_extend_loop _, extend_gen (A := A.in1) B hh hroom hk hro FS X [] gs own [] [] _ (by simpa using hn) .nil rfl hr H3 fun s' vals acc ht H' => ⟨rfl, h s' S vals acc (by simpa using ht) H'⟩⟩
end
end Mine
end
section
open PySem PySem.W PySem.Calls PyProof.Rows
set_option Elab.async false
namespace Mine
theorem Fo.look_keys {x : Nat} {c : Nd} : ∀ {f : Fo}, f.look x = some c → x ∈ f.keys
  | .cons k tk a dx v kd ch r, h => by
    simp only [Fo.look] at h
    by_cases e : k = x
    · simp [Fo.keys, e]
    · rw [if_neg e] at h; simp [Fo.keys, look_keys h]
theorem Fo.out_mem {D : Adr} {x : List Nat × Value} : ∀ {f : Fo} {u : List Nat}, f.ok D → x ∈ f.out D u → ∃ k w c m, x.1 = u ++ k :: w ∧ f.look k = some c ∧ c.find w = some m ∧ isSet D m.v = true ∧ m.v = x.2
  | .nil, _, _, h => by simp [Fo.out] at h
  | .cons k tk a dx v kd ch r, u, ho, h => by
    simp only [Fo.out, List.mem_append] at h
    rcases h with h | h | h
    · split at h
      · rename_i hs
        simp at h
        subst h
        exact ⟨k, [], ⟨a, dx, v, kd, ch⟩, ⟨a, dx, v, kd, ch⟩, rfl, by simp [Fo.look], rfl, hs, rfl⟩
      · cases h
    · obtain ⟨k2, w, c, m, h1, h2, h3, h4, h5⟩ := out_mem ho.2.2.2.2.1 h
      refine ⟨k, k2 :: w, ⟨a, dx, v, kd, ch⟩, m, by rw [h1]; simp, by simp [Fo.look], ?_, h4, h5⟩
      simp [Nd.find, h2, h3]
    · obtain ⟨k2, w, c, m, h1, h2, h3, h4, h5⟩ := out_mem ho.2.2.2.2.2 h
      refine ⟨k2, w, c, m, h1, ?_, h3, h4, h5⟩
      have hne : ¬ k = k2 := fun e => ho.2.1 (e ▸ Fo.look_keys h2)
      simp [Fo.look, hne, h2]
end Mine
end
section
namespace Mine
theorem nodup_sub {α : Type} [DecidableEq α] : ∀ {l al : List α}, l.Nodup → (∀ x ∈ l, x ∈ al) → l.length ≤ al.length
  | [], _, _, _ => Nat.zero_le _
  | x :: l, al, hn, hs => by
    have hx : x ∈ al := hs x (.head _)
    have hn' := List.nodup_cons.mp hn
    have := nodup_sub (l := l) (al := al.erase x) hn'.2 fun y hy => by
      have hne : y ≠ x := fun e => hn'.1 (e ▸ hy)
      exact (List.mem_erase_of_ne hne).mpr (hs y (.tail _ hy))
    rw [List.length_erase_of_mem hx] at this
    have : 0 < al.length := List.length_pos_of_mem hx
    simp only [List.length_cons]; omega
theorem nodup_full {α : Type} [DecidableEq α] : ∀ {l al : List α}, l.Nodup → (∀ x ∈ l, x ∈ al) → al.length ≤ l.length → ∀ y ∈ al, y ∈ l := by
  intro l al hn hs hl y hy
  by_cases h : y ∈ l
  · exact h
  · have := nodup_sub (l := y :: l) (al := al) (List.nodup_cons.mpr ⟨h, hn⟩) (fun z hz => by
      rcases List.mem_cons.mp hz with rfl | hz
      · exact hy
      · exact hs z hz)
    simp only [List.length_cons] at this; omega
/-- the word of so many letters at a place -/
def wd (t : List Nat) (n i : Nat) : List Nat := (t.drop i).take n
structure Walk (al start t : List Nat) (m T : Nat) : Prop where
  nod : al.Nodup
  len : t.length = m + T
  lets : ∀ x ∈ t, x ∈ al
  st : t.take m = start
  slen : start.length = m
  uniq : ∀ i j, i < T → j < T → wd t (m + 1) i = wd t (m + 1) j → i = j
section
variable {al start t : List Nat} {m T : Nat}
def isWord (t : List Nat) (m T : Nat) (w : List Nat) : Prop := ∃ i, i < T ∧ wd t (m + 1) i = w
def vis (t : List Nat) (m T : Nat) (v : List Nat) : Nat := (List.range (T + 1)).countP fun i => decide (wd t m i = v)
def outC (t : List Nat) (m T : Nat) (v : List Nat) : Nat := (List.range T).countP fun i => decide (wd t m i = v)
def inC (t : List Nat) (m T : Nat) (v : List Nat) : Nat := (List.range T).countP fun i => decide (wd t m (i + 1) = v)
theorem balance (v : List Nat) : outC t m T v + (if wd t m T = v then 1 else 0) = inC t m T v + (if wd t m 0 = v then 1 else 0) := by
  have h1 : vis t m T v = outC t m T v + (if wd t m T = v then 1 else 0) := by
    unfold vis outC
    rw [List.range_succ, List.countP_append]
    congr 1
    by_cases h : wd t m T = v <;> simp [h]
  have h2 : vis t m T v = inC t m T v + (if wd t m 0 = v then 1 else 0) := by
    unfold vis inC
    rw [List.range_succ_eq_map, List.countP_cons, List.countP_map]
    congr 1
    by_cases h : wd t m 0 = v <;> simp [h]
  rw [← h1, ← h2]
theorem wd_succ_head (t : List Nat) (m i : Nat) (h : i < t.length) : wd t (m + 1) i = t[i] :: wd t m (i + 1) := by
  unfold wd
  rw [List.drop_eq_getElem_cons h, List.take_succ_cons]
theorem wd_succ_last (t : List Nat) (m i : Nat) (h : i + m < t.length) : wd t (m + 1) i = wd t m i ++ [t[i + m]] := by
  unfold wd
  rw [List.take_add_one]
  congr 1
  rw [List.getElem?_drop]; simp [h]
theorem nodup_map_inj {α β : Type} {f : α → β} : ∀ {l : List α}, l.Nodup → (∀ x ∈ l, ∀ y ∈ l, f x = f y → x = y) → (l.map f).Nodup
  | [], _, _ => .nil
  | x :: l, hn, hi => by
    have hn' := List.nodup_cons.mp hn
    refine List.nodup_cons.mpr ⟨fun h => ?_, nodup_map_inj hn'.2 fun a ha b hb => hi a (.tail _ ha) b (.tail _ hb)⟩
    obtain ⟨y, hy, e⟩ := List.mem_map.mp h
    exact hn'.1 ((hi x (.head _) y (.tail _ hy) e.symm) ▸ hy)
theorem nodup_filter_range (T : Nat) (p : Nat → Bool) : ((List.range T).filter p).Nodup := List.nodup_range.sublist List.filter_sublist
variable (W : Walk al start t m T)
include W
theorem in_letters (v : List Nat) : (((List.range T).filter fun i => decide (wd t m (i + 1) = v)).map fun i => t.getD i 0).Nodup ∧ ∀ x ∈ ((List.range T).filter fun i => decide (wd t m (i + 1) = v)).map (fun i => t.getD i 0), x ∈ al ∧ isWord t m T (x :: v) := by
  have hlen := W.len
  refine ⟨nodup_map_inj (nodup_filter_range T _) fun i hi j hj e => ?_, fun x hx => ?_⟩
  · simp only [List.mem_filter, List.mem_range, decide_eq_true_eq] at hi hj
    have hi' : i < t.length := by omega
    have hj' : j < t.length := by omega
    refine W.uniq i j hi.1 hj.1 ?_
    rw [wd_succ_head t m i hi', wd_succ_head t m j hj', hi.2, hj.2]
    simp only [List.getD_eq_getElem?_getD, List.getElem?_eq_getElem hi', List.getElem?_eq_getElem hj', Option.getD_some] at e
    rw [e]
  · obtain ⟨i, hi, rfl⟩ := List.mem_map.mp hx
    simp only [List.mem_filter, List.mem_range, decide_eq_true_eq] at hi
    have hi' : i < t.length := by omega
    have e : t.getD i 0 = t[i] := by simp [List.getD_eq_getElem?_getD, List.getElem?_eq_getElem hi']
    refine ⟨by rw [e]; exact W.lets _ (List.getElem_mem hi'), i, hi.1, ?_⟩
    rw [wd_succ_head t m i hi', hi.2, e]
theorem in_le (v : List Nat) : inC t m T v ≤ al.length := by
  obtain ⟨h1, h2⟩ := in_letters W v
  have := nodup_sub h1 fun x hx => (h2 x hx).1
  rw [List.length_map, ← List.countP_eq_length_filter] at this
  exact this
theorem in_full (v : List Nat) (h : al.length ≤ inC t m T v) : ∀ x ∈ al, isWord t m T (x :: v) := by
  obtain ⟨h1, h2⟩ := in_letters W v
  intro x hx
  have := nodup_full h1 (fun x hx => (h2 x hx).1) (by rw [List.length_map, ← List.countP_eq_length_filter]; exact h) x hx
  exact (h2 x this).2
theorem out_ge (v : List Nat) (hv : v.length = m) (h : ∀ x ∈ al, isWord t m T (v ++ [x])) : al.length ≤ outC t m T v := by
  have hlen := W.len
  have := nodup_sub (l := al) (al := ((List.range T).filter fun i => decide (wd t m i = v)).map fun i => t.getD (i + m) 0) W.nod fun x hx => by
    obtain ⟨i, hi, e⟩ := h x hx
    have hi' : i + m < t.length := by omega
    rw [wd_succ_last t m i hi'] at e
    have hl : (wd t m i).length = v.length := by unfold wd; rw [List.length_take, List.length_drop]; omega
    obtain ⟨e1, e2⟩ := List.append_inj e hl
    refine List.mem_map.mpr ⟨i, by simp [hi, e1], ?_⟩
    simp only [List.getD_eq_getElem?_getD, List.getElem?_eq_getElem hi', Option.getD_some]
    injection e2
  rw [List.length_map, ← List.countP_eq_length_filter] at this
  exact this
/-- Martin: the walk that stops has gone every edge, and stops at its start -/
theorem martin (hend : ∀ x ∈ al, isWord t m T (wd t m T ++ [x]))
    (near : ∀ v, v.length = m → (∀ x ∈ v, x ∈ al) → v ≠ start → ∃ k, ∃ hk : k < m, (∀ j < m, v.drop (m - j) = start.take j → j ≤ k) ∧ v.drop (m - k) = start.take k ∧ (isWord t m T (v ++ [start[k]'(by rw [W.slen]; exact hk)]) → ∀ x ∈ al, isWord t m T (v ++ [x]))) :
    wd t m T = start ∧ ∀ v, v.length = m → (∀ x ∈ v, x ∈ al) → ∀ x ∈ al, isWord t m T (v ++ [x]) := by
  have hlen := W.len
  have h0 : wd t m 0 = start := by unfold wd; simpa using W.st
  have hel : (wd t m T).length = m := by unfold wd; rw [List.length_take, List.length_drop]; omega
  have b1 := balance (t := t) (m := m) (T := T) (wd t m T)
  have o1 := out_ge W _ hel hend
  have i1 := in_le W (wd t m T)
  rw [if_pos rfl, h0] at b1
  have hs : start = wd t m T := by
    by_cases h : start = wd t m T
    · exact h
    · rw [if_neg h] at b1; omega
  rw [if_pos hs] at b1
  have hin0 : al.length ≤ inC t m T start := by rw [hs]; omega
  refine ⟨hs.symm, ?_⟩
  have key : ∀ n j, m - j = n → j ≤ m → ∀ v, v.length = m → (∀ x ∈ v, x ∈ al) → v.drop (m - j) = start.take j → (∀ x ∈ al, isWord t m T (v ++ [x])) ∧ al.length ≤ inC t m T v := by
    intro n
    induction n using Nat.strongRecOn with
    | ind n ih =>
      intro j hn hj v hv hva hov
      by_cases hvs : v = start
      · subst hvs
        exact ⟨by rw [hs]; exact hend, hin0⟩
      · have hjm : j < m := by
          rcases Nat.lt_or_ge j m with h | h
          · exact h
          · have : j = m := by omega
            subst this
            simp only [Nat.sub_self, List.drop_zero] at hov
            rw [List.take_of_length_le (by rw [W.slen]; omega)] at hov
            exact absurd hov hvs
        obtain ⟨k, hk, hmax, hko, hlast⟩ := near v hv hva hvs
        have hjk := hmax j hjm hov
        have hk' : k < start.length := by rw [W.slen]; exact hk
        cases v with
        | nil => simp only [List.length_nil] at hv; omega
        | cons v0 v1 =>
          have hv1 : v1.length + 1 = m := by simpa using hv
          have hsk : start[k] ∈ al := W.lets _ (List.mem_of_mem_take (by rw [W.st]; exact List.getElem_mem hk' : start[k] ∈ t.take m))
          have hv' : (v1 ++ [start[k]]).length = m := by simp; omega
          have hva' : ∀ x ∈ v1 ++ [start[k]], x ∈ al := by
            intro x hx
            rcases List.mem_append.mp hx with h | h
            · exact hva x (.tail _ h)
            · rw [List.mem_singleton.mp h]; exact hsk
          have hov' : (v1 ++ [start[k]]).drop (m - (k + 1)) = start.take (k + 1) := by
            have e1 : m - k = (m - (k + 1)) + 1 := by omega
            rw [e1, List.drop_succ_cons] at hko
            rw [List.drop_append_of_le_length (by omega), hko, List.take_add_one]
            simp [hk']
          have hih := (ih (m - (k + 1)) (by omega) (k + 1) rfl (by omega) _ hv' hva' hov').2
          have hw := in_full W _ hih v0 (hva v0 (.head _))
          have hfull := hlast (by simpa using hw)
          refine ⟨hfull, ?_⟩
          have o2 := out_ge W _ hv hfull
          have b2 := balance (t := t) (m := m) (T := T) (v0 :: v1)
          rw [h0, if_neg (fun e => hvs (by rw [← e, ← hs])), if_neg (fun e => hvs e.symm)] at b2
          omega
  intro v hv hva
  exact (key m 0 (by omega) (Nat.zero_le _) v hv hva (by simp [hv])).1
end
end Mine
end
section
open PySem PySem.W PySem.Calls PyProof.Rows
set_option Elab.async false
namespace Mine
theorem Tf.look_set_ne {x y : Nat} (h : x ≠ y) (c : Tn) : ∀ f : Tf, (f.set x c).look y = f.look y
  | .nil => by simp [Tf.set, Tf.look, h]
  | .cons k v ch r => by
    by_cases hk : k = x
    · subst hk; simp [Tf.set, Tf.look, h]
    · by_cases hy : k = y
      · subst hy; simp [Tf.set, Tf.look, hk]
      · simp [Tf.set, Tf.look, hk, hy, look_set_ne h c r]
theorem Tn.get_nil (t : Tn) : t.get [] = t.v := rfl
theorem Tn.get_cons (t : Tn) (x : Nat) (w : List Nat) : t.get (x :: w) = (t.ch.look x).bind fun c => c.get w := by
  unfold Tn.get
  simp only [Tn.sub]
  cases t.ch.look x <;> rfl
theorem Tn.get_empty : ∀ w, Tn.get .empty w = none
  | [] => rfl
  | x :: w => by rw [Tn.get_cons]; rfl
theorem Tn.get_ins (v : Value) : ∀ (w : List Nat) (t : Tn) (w' : List Nat), (t.ins w v).get w' = if w' = w then some v else t.get w'
  | [], t, [] => by simp [Tn.ins, Tn.get_nil]
  | [], t, y :: w' => by simp [Tn.ins, Tn.get_cons]
  | x :: w, t, [] => by simp [Tn.ins, Tn.get_nil]
  | x :: w, t, y :: w' => by
    rw [Tn.get_cons, Tn.get_cons]
    simp only [Tn.ins]
    by_cases h : x = y
    · subst h
      rw [Tf.set_look, Option.bind_some, get_ins v w _ w']
      by_cases hw : w' = w
      · simp [hw]
      · simp only [hw, if_false, List.cons.injEq, true_and]
        cases q : t.ch.look x with
        | none => simp [Tn.get_empty]
        | some c => rfl
    · rw [Tf.look_set_ne h]
      have : ¬ (y :: w' = x :: w) := fun e => h (by injection e with e1 _; exact e1.symm)
      simp [this]
theorem Fo.mem_out {D : Adr} {w : List Nat} {m : Nd} : ∀ {f : Fo} {u : List Nat} {k : Nat} {c : Nd}, f.look k = some c → c.find w = some m → isSet D m.v = true → (u ++ k :: w, m.v) ∈ f.out D u
  | .cons k' tk a dx v kd ch r, u, k, c, h, hf, hs => by
    simp only [Fo.look] at h
    simp only [Fo.out, List.mem_append]
    by_cases e : k' = k
    · subst e
      rw [if_pos rfl] at h
      cases h
      cases w with
      | nil =>
        cases hf
        left
        simp only at hs
        simp [hs]
      | cons x w' =>
        simp only [Nd.find] at hf
        obtain ⟨c2, h1, h2⟩ := Option.bind_eq_some_iff.mp hf
        right; left
        have := mem_out (D := D) (f := ch) (u := u ++ [k']) h1 h2 hs
        simpa using this
    · rw [if_neg e] at h
      right; right
      exact mem_out h hf hs
theorem Fo.out_pre {D : Adr} {x : List Nat × Value} {f : Fo} {u : List Nat} (ho : f.ok D) (h : x ∈ f.out D u) : ∃ k w, x.1 = u ++ k :: w ∧ k ∈ f.keys := by
  obtain ⟨k, w, c, m, h1, h2, _⟩ := Fo.out_mem ho h
  exact ⟨k, w, h1, Fo.look_keys h2⟩
theorem Fo.out_nodup {D : Adr} : ∀ {f : Fo} {u : List Nat}, f.ok D → ((f.out D u).map (·.1)).Nodup
  | .nil, _, _ => .nil
  | .cons k tk a dx v kd ch r, u, ho => by
    have hc := out_nodup (f := ch) (u := u ++ [k]) ho.2.2.2.2.1
    have hr := out_nodup (f := r) (u := u) ho.2.2.2.2.2
    simp only [Fo.out, List.map_append]
    have inR : ∀ y ∈ (r.out D u).map (·.1), ∃ k2 w, y = u ++ k2 :: w ∧ k2 ≠ k := by
      intro y hy
      obtain ⟨x, hx, rfl⟩ := List.mem_map.mp hy
      obtain ⟨k2, w, e, hk⟩ := Fo.out_pre ho.2.2.2.2.2 hx
      exact ⟨k2, w, e, fun q => ho.2.1 (q ▸ hk)⟩
    have inC : ∀ y ∈ (ch.out D (u ++ [k])).map (·.1), ∃ k2 w, y = u ++ k :: k2 :: w := by
      intro y hy
      obtain ⟨x, hx, rfl⟩ := List.mem_map.mp hy
      obtain ⟨k2, w, e, _⟩ := Fo.out_pre ho.2.2.2.2.1 hx
      exact ⟨k2, w, by rw [e]; simp⟩
    refine List.nodup_append.mpr ⟨?_, List.nodup_append.mpr ⟨hc, hr, ?_⟩, ?_⟩
    · split <;> simp
    · intro y hy z hz e
      obtain ⟨k2, w, e1⟩ := inC y hy
      obtain ⟨k3, w3, e2, hne⟩ := inR z hz
      rw [e1, e2] at e
      have := List.append_cancel_left e
      injection this with q _
      exact hne q.symm
    · intro y hy z hz e
      have hy' : y = u ++ [k] := by
        split at hy
        · simpa using hy
        · simp at hy
      rcases List.mem_append.mp hz with hz | hz
      · obtain ⟨k2, w, e1⟩ := inC z hz
        rw [hy', e1] at e
        have := List.append_cancel_left e
        simp at this
      · obtain ⟨k3, w3, e2, hne⟩ := inR z hz
        rw [hy', e2] at e
        have := List.append_cancel_left e
        injection this with q _
        exact hne q.symm
end Mine
end
section
open PySem PySem.W PySem.Calls PyProof.Rows
set_option Elab.async false
namespace Mine
def outN (D : Adr) (r : Nd) : List (List Nat × Value) := (if isSet D r.v then [([], r.v)] else []) ++ r.ch.out D []
theorem Nd.get_er {D : Adr} (r : Nd) (w : List Nat) : (r.er D).get w = (r.find w).bind fun m => valOf D m.v := by
  unfold Tn.get; rw [Nd.find_er]; cases r.find w <;> rfl
theorem outN_get {D : Adr} {r : Nd} (ho : r.ok D) (x : List Nat × Value) : x ∈ outN D r ↔ (r.er D).get x.1 = some x.2 := by
  rw [Nd.get_er]
  constructor
  · intro h
    rcases List.mem_append.mp h with h | h
    · split at h
      · rename_i hs
        simp at h; subst h
        simp [Nd.find, valOf, hs]
      · cases h
    · obtain ⟨k, w, c, m, h1, h2, h3, h4, h5⟩ := Fo.out_mem ho.2.2 h
      have : r.find x.1 = some m := by rw [h1]; simp [Nd.find, h2, h3]
      rw [this, Option.bind_some]; unfold valOf; rw [if_pos h4, h5]
  · intro h
    obtain ⟨m, h1, h2⟩ := Option.bind_eq_some_iff.mp h
    have hs : isSet D m.v = true := by
      unfold valOf at h2
      split at h2
      · assumption
      · cases h2
    have hv : m.v = x.2 := by unfold valOf at h2; rw [if_pos hs] at h2; injection h2
    obtain ⟨w, v⟩ := x
    cases w with
    | nil =>
      cases h1
      exact List.mem_append_left _ (by simp only at hv; rw [if_pos hs, hv]; simp)
    | cons k w =>
      simp only [Nd.find] at h1
      obtain ⟨c, h3, h4⟩ := Option.bind_eq_some_iff.mp h1
      have := Fo.mem_out (D := D) (u := []) h3 h4 hs
      simp only at hv
      rw [hv] at this
      exact List.mem_append_right _ (by simpa using this)
theorem outN_nodup {D : Adr} {r : Nd} (ho : r.ok D) : ((outN D r).map (·.1)).Nodup := by
  unfold outN
  rw [List.map_append]
  refine List.nodup_append.mpr ⟨by split <;> simp, Fo.out_nodup ho.2.2, ?_⟩
  intro y hy z hz e
  obtain ⟨x, hx, rfl⟩ := List.mem_map.mp hz
  obtain ⟨k, w, h1, _⟩ := Fo.out_pre ho.2.2 hx
  have : y = [] := by
    split at hy
    · simpa using hy
    · simp at hy
  rw [this, h1] at e; cases e
/-- a trie that got these words, each with a value of its place -/
def insAll (val : Nat → Value) : List (List Nat) → Nat → Tn → Tn
  | [], _, t => t
  | w :: l, i, t => insAll val l (i + 1) (t.ins w (val i))
theorem insAll_get (val : Nat → Value) : ∀ (l : List (List Nat)) (i : Nat) (t : Tn) (w : List Nat), l.Nodup → (insAll val l i t).get w = match l.findIdx? (· == w) with | some j => some (val (i + j)) | none => t.get w
  | [], i, t, w, _ => rfl
  | u :: l, i, t, w, hn => by
    have hn' := List.nodup_cons.mp hn
    simp only [insAll]
    rw [insAll_get val l (i + 1) _ w hn'.2]
    rw [List.findIdx?_cons]
    by_cases h : u = w
    · subst h
      have : l.findIdx? (· == u) = none := by
        rw [List.findIdx?_eq_none_iff]; intro x hx
        have : x ≠ u := fun e => hn'.1 (e ▸ hx)
        simpa using this
      rw [this]
      simp [Tn.get_ins]
    · have hb : (u == w) = false := by simpa using h
      rw [hb]
      cases q : l.findIdx? (· == w) with
      | none =>
        simp only [Bool.false_eq_true, if_false, Option.map_none]
        rw [Tn.get_ins, if_neg (fun e => h e.symm)]
      | some j =>
        simp only [Bool.false_eq_true, if_false, Option.map_some]
        rw [show i + 1 + j = i + (j + 1) from by omega]
theorem insAll_append (val : Nat → Value) : ∀ (l : List (List Nat)) (i : Nat) (t : Tn) (w : List Nat), insAll val (l ++ [w]) i t = (insAll val l i t).ins w (val (i + l.length))
  | [], i, t, w => rfl
  | u :: l, i, t, w => by
    simp only [List.cons_append, insAll]
    rw [insAll_append val l (i + 1) _ w]
    simp only [List.length_cons]
    rw [show i + 1 + l.length = i + (l.length + 1) from by omega]
end Mine
end
section
set_option Elab.async false
namespace Mine
/-- all words of a length -/
def allW (al : List Nat) : Nat → List (List Nat)
  | 0 => [[]]
  | n + 1 => al.flatMap fun x => (allW al n).map fun w => x :: w
theorem allW_length (al : List Nat) : ∀ n, (allW al n).length = al.length ^ n
  | 0 => rfl
  | n + 1 => by
    have h : ∀ l : List Nat, (l.flatMap fun x => (allW al n).map fun w => x :: w).length = l.length * al.length ^ n := by
      intro l
      induction l with
      | nil => simp
      | cons a l ih =>
        rw [List.flatMap_cons, List.length_append, ih, List.length_map, allW_length al n, List.length_cons, Nat.add_mul, Nat.one_mul, Nat.add_comm]
    unfold allW
    rw [h, Nat.pow_succ, Nat.mul_comm]
theorem allW_mem {al : List Nat} : ∀ {n : Nat} {v : List Nat}, v ∈ allW al n ↔ v.length = n ∧ ∀ x ∈ v, x ∈ al
  | 0, v => by
    constructor
    · intro h
      have : v = [] := by simpa [allW] using h
      subst this
      exact ⟨rfl, by simp⟩
    · rintro ⟨h, _⟩
      have : v = [] := List.length_eq_zero_iff.mp h
      subst this
      simp [allW]
  | n + 1, v => by
    unfold allW
    rw [List.mem_flatMap]
    constructor
    · rintro ⟨x, hx, h⟩
      obtain ⟨u, hu, rfl⟩ := List.mem_map.mp h
      obtain ⟨h1, h2⟩ := allW_mem.mp hu
      refine ⟨by simp [h1], fun y hy => ?_⟩
      rcases List.mem_cons.mp hy with rfl | hy
      · exact hx
      · exact h2 y hy
    · rintro ⟨h1, h2⟩
      cases v with
      | nil => cases h1
      | cons x u => exact ⟨x, h2 x (.head _), List.mem_map.mpr ⟨u, allW_mem.mpr ⟨by simpa using h1, fun y hy => h2 y (.tail _ hy)⟩, rfl⟩⟩
theorem allW_nodup {al : List Nat} (nod : al.Nodup) : ∀ n, (allW al n).Nodup
  | 0 => by simp [allW]
  | n + 1 => by
    have ih := allW_nodup nod n
    unfold allW
    revert nod
    generalize hW : allW al n = W at ih
    intro nod
    clear hW
    induction al with
    | nil => simp
    | cons a l ihl =>
      rw [List.flatMap_cons]
      have nd := List.nodup_cons.mp nod
      refine List.nodup_append.mpr ⟨nodup_map_inj ih fun x _ y _ e => (List.cons.inj e).2, ihl nd.2, fun x hx y hy e => ?_⟩
      obtain ⟨u, _, rfl⟩ := List.mem_map.mp hx
      obtain ⟨z, hz, hy⟩ := List.mem_flatMap.mp hy
      obtain ⟨u', _, rfl⟩ := List.mem_map.mp hy
      exact nd.1 ((List.cons.inj e).1 ▸ hz)
section
variable {al start t : List Nat} {m T : Nat} (W : Walk al start t m T)
include W
theorem words_nodup : ((List.range T).map fun i => wd t (m + 1) i).Nodup :=
  nodup_map_inj List.nodup_range fun i hi j hj e => W.uniq i j (List.mem_range.mp hi) (List.mem_range.mp hj) e
theorem words_in : ∀ v ∈ (List.range T).map (fun i => wd t (m + 1) i), v ∈ allW al (m + 1) := by
  intro v hv
  obtain ⟨i, hi, rfl⟩ := List.mem_map.mp hv
  have hi := List.mem_range.mp hi
  have hl := W.len
  refine allW_mem.mpr ⟨?_, fun x hx => W.lets x ?_⟩
  · unfold wd; rw [List.length_take, List.length_drop]; omega
  · unfold wd at hx; exact List.mem_of_mem_drop (List.mem_of_mem_take hx)
/-- no more words than there are -/
theorem words_le : T ≤ al.length ^ (m + 1) := by
  have := nodup_sub (words_nodup W) (words_in W)
  rwa [List.length_map, List.length_range, allW_length] at this
/-- all words came: their number -/
theorem words_all (h : ∀ v, v.length = m → (∀ x ∈ v, x ∈ al) → ∀ x ∈ al, isWord t m T (v ++ [x])) : T = al.length ^ (m + 1) := by
  refine Nat.le_antisymm (words_le W) ?_
  have := nodup_sub (l := allW al (m + 1)) (al := (List.range T).map fun i => wd t (m + 1) i) (allW_nodup W.nod _) fun v hv => ?_
  · rwa [List.length_map, List.length_range, allW_length] at this
  · obtain ⟨h1, h2⟩ := allW_mem.mp hv
    have hne : v ≠ [] := by intro e; subst e; cases h1
    have e : v = v.dropLast ++ [v.getLast hne] := (List.dropLast_concat_getLast hne).symm
    obtain ⟨i, hi, hw⟩ := h v.dropLast (by rw [List.length_dropLast, h1]; rfl) (fun x hx => h2 x (List.dropLast_subset _ hx)) (v.getLast hne) (h2 _ (List.getLast_mem hne))
    exact List.mem_map.mpr ⟨i, List.mem_range.mpr hi, by rw [hw, ← e]⟩
end
end Mine
end
section
set_option Elab.async false
namespace Mine
/-- letters used at an end: a front part of its order; the fresh ones are the rest -/
theorem front_filter {α : Type} (p : α → Bool) : ∀ {o : List α} (k : Nat), o.Nodup → (∀ x ∈ o, p x = true ↔ x ∈ o.take k) → o.filter (fun x => !p x) = o.drop k
  | [], k, _, _ => by simp
  | a :: o, 0, _, h => by
    rw [List.drop_zero, List.filter_eq_self]
    intro x hx
    have := h x hx
    simp at this
    simp [this]
  | a :: o, k + 1, nd, h => by
    have nd' := List.nodup_cons.mp nd
    have ha : p a = true := (h a (.head _)).mpr (.head _)
    rw [List.filter_cons, ha, List.drop_succ_cons, ← front_filter p k nd'.2 (fun x hx => ?_)]
    · simp
    · rw [h x (.tail _ hx), List.take_succ_cons, List.mem_cons]
      constructor
      · rintro (rfl | h')
        · exact absurd hx nd'.1
        · exact h'
      · exact .inr
/-- the last letter of an order is used: all are -/
theorem front_last {α : Type} {o : List α} {y : α} {k : Nat} (nd : (o ++ [y]).Nodup) (h : y ∈ (o ++ [y]).take k) : ∀ x ∈ o ++ [y], x ∈ (o ++ [y]).take k := by
  have hn : y ∉ o := fun hy => (List.nodup_append.mp nd).2.2 y hy y (.head _) rfl
  by_cases hk : (o ++ [y]).length ≤ k
  · rw [List.take_of_length_le hk]; exact fun x hx => hx
  · have hk' : k ≤ o.length := by rw [List.length_append] at hk; simp at hk; omega
    rw [List.take_append_of_le_length hk'] at h
    exact absurd (List.mem_of_mem_take h) hn
/-- the step: the first fresh letter is put to use -/
theorem front_step {α : Type} {o : List α} {y : α} {r : List α} {k : Nat} (h : o.drop k = y :: r) : o.take (k + 1) = o.take k ++ [y] := by
  have hk : k < o.length := by
    refine Nat.lt_of_not_le fun q => ?_
    rw [List.drop_of_length_le q] at h; cases h
  have hy : o[k] = y := by
    have := List.drop_eq_getElem_cons hk
    rw [this] at h
    exact (List.cons.inj h).1
  rw [List.take_succ_eq_append_getElem hk, hy]
end Mine
end
section
set_option Elab.async false
namespace Mine
theorem wd_append {t r : List Nat} {m i : Nat} (h : i + m ≤ t.length) : wd (t ++ r) m i = wd t m i := by
  unfold wd
  rw [List.drop_append_of_le_length (by omega), List.take_append_of_le_length (by rw [List.length_drop]; omega)]
section
variable {al start t : List Nat} {m T : Nat} (W : Walk al start t m T)
include W
/-- the end of the text -/
theorem Walk.end_ : t.drop (t.length - m) = wd t m T := by
  have hl := W.len
  unfold wd
  have e : t.length - m = T := by omega
  rw [e, List.take_of_length_le (by rw [List.length_drop]; omega)]
theorem Walk.end_length : (wd t m T).length = m := by
  have hl := W.len
  unfold wd; rw [List.length_take, List.length_drop]; omega
theorem wd_new (y : Nat) : wd (t ++ [y]) (m + 1) T = wd t m T ++ [y] := by
  have hl := W.len
  have := wd_succ_last (t ++ [y]) m T (by rw [List.length_append]; simp; omega)
  rw [this, wd_append (by omega)]
  have e : T + m = t.length := by omega
  simp [e]
theorem isWord_new (y : Nat) (v : List Nat) : isWord (t ++ [y]) m (T + 1) v ↔ isWord t m T v ∨ v = wd t m T ++ [y] := by
  have hl := W.len
  constructor
  · rintro ⟨i, hi, rfl⟩
    rcases Nat.lt_or_eq_of_le (Nat.le_of_lt_succ hi) with h | rfl
    · exact .inl ⟨i, h, (wd_append (by omega)).symm⟩
    · exact .inr (wd_new W y)
  · rintro (⟨i, hi, rfl⟩ | rfl)
    · exact ⟨i, Nat.lt_succ_of_lt hi, wd_append (by omega)⟩
    · exact ⟨T, Nat.lt_succ_self _, wd_new W y⟩
/-- a turn of the walk -/
theorem Walk.step {y : Nat} (hy : y ∈ al) (hn : ¬ isWord t m T (wd t m T ++ [y])) : Walk al start (t ++ [y]) m (T + 1) where
  nod := W.nod
  len := by have hl := W.len; rw [List.length_append]; simp; omega
  lets := fun x hx => by
    rcases List.mem_append.mp hx with h | h
    · exact W.lets x h
    · rw [List.mem_singleton] at h; exact h ▸ hy
  st := by have hl := W.len; rw [List.take_append_of_le_length (by omega)]; exact W.st
  slen := W.slen
  uniq := by
    have hl := W.len
    intro i j hi hj e
    rcases Nat.lt_or_eq_of_le (Nat.le_of_lt_succ hi) with h | rfl <;> rcases Nat.lt_or_eq_of_le (Nat.le_of_lt_succ hj) with g | g
    · rw [wd_append (by omega), wd_append (by omega)] at e
      exact W.uniq i j h g e
    · subst g
      rw [wd_append (by omega), wd_new W y] at e
      exact absurd ⟨i, h, e⟩ hn
    · rw [wd_append (i := j) (by omega), wd_new W y] at e
      exact absurd ⟨j, g, e.symm⟩ hn
    · exact g.symm
end
theorem Walk.zero {al start : List Nat} {m : Nat} (nod : al.Nodup) (hl : start.length = m) (h : ∀ x ∈ start, x ∈ al) : Walk al start start m 0 :=
  ⟨nod, by omega, h, by rw [← hl, List.take_length], hl, fun i _ hi => absurd hi (Nat.not_lt_zero _)⟩
end Mine
end
section
set_option Elab.async false
namespace Mine
theorem max_ex (p : Nat → Prop) (h0 : p 0) : ∀ m, 0 < m → ∃ k, k < m ∧ p k ∧ ∀ j < m, p j → j ≤ k
  | 0, h => absurd h (Nat.lt_irrefl _)
  | 1, _ => ⟨0, Nat.lt_succ_self _, h0, fun j hj _ => Nat.le_of_lt_succ hj⟩
  | m + 2, _ => by
    by_cases q : p (m + 1)
    · exact ⟨m + 1, Nat.lt_succ_self _, q, fun j hj _ => Nat.le_of_lt_succ hj⟩
    · obtain ⟨k, hk, hp, hmax⟩ := max_ex p h0 (m + 1) (Nat.succ_pos _)
      refine ⟨k, Nat.lt_succ_of_lt hk, hp, fun j hj hj' => ?_⟩
      rcases Nat.lt_or_eq_of_le (Nat.le_of_lt_succ hj) with h | rfl
      · exact hmax j h hj'
      · exact absurd hj' q
/-- the letter that _law_nearest answers with -/
def NearL (start v : List Nat) (m : Nat) (y : Nat) : Prop := ∃ k, k < m ∧ (∀ j < m, v.drop (m - j) = start.take j → j ≤ k) ∧ v.drop (m - k) = start.take k ∧ start[k]? = some y
/-- what holds of an end's order -/
structure OrdOk (al start t : List Nat) (m T : Nat) (v o : List Nat) : Prop where
  nod : o.Nodup
  all : ∀ x, x ∈ o ↔ x ∈ al
  near : v ≠ start → ∃ o' y, o = o' ++ [y] ∧ NearL start v m y
  front : ∃ k, ∀ x ∈ o, isWord t m T (v ++ [x]) ↔ x ∈ o.take k
/-- the loop's invariant -/
structure Inv (al start t : List Nat) (m T : Nat) (ords : List Nat → Option (List Nat)) : Prop where
  W : Walk al start t m T
  ord : ∀ v o, ords v = some o → OrdOk al start t m T v o
  came : ∀ i < T, ords (wd t m i) ≠ none
theorem Inv.none_ {al start t : List Nat} {m T : Nat} {ords} (I : Inv al start t m T ords) {v : List Nat} (h : ords v = none) (x : Nat) : ¬ isWord t m T (v ++ [x]) := by
  rintro ⟨i, hi, e⟩
  have hl := I.W.len
  rw [wd_succ_last t m i (by omega)] at e
  have := (List.append_inj' e rfl).1
  exact I.came i hi (this ▸ h)
/-- a new order is laid for the end -/
theorem Inv.lay {al start t : List Nat} {m T : Nat} {ords} (I : Inv al start t m T ords) {v o : List Nat} (h : ords v = none) (nod : o.Nodup) (all : ∀ x, x ∈ o ↔ x ∈ al) (near : v ≠ start → ∃ o' y, o = o' ++ [y] ∧ NearL start v m y) :
    Inv al start t m T (fun u => if u = v then some o else ords u) := by
  refine ⟨I.W, fun u p hu => ?_, fun i hi q => ?_⟩
  · by_cases e : u = v
    · subst e
      rw [if_pos rfl] at hu
      cases hu
      exact ⟨nod, all, near, 0, fun x _ => by simp [I.none_ h x]⟩
    · rw [if_neg e] at hu
      exact I.ord u p hu
  · by_cases e : wd t m i = v
    · rw [if_pos e] at q; cases q
    · rw [if_neg e] at q; exact I.came i hi q
/-- a turn: the first fresh letter -/
theorem Inv.turn {al start t : List Nat} {m T : Nat} {ords} (I : Inv al start t m T ords) {o r : List Nat} {y k : Nat} (ho : ords (wd t m T) = some o) (hf : ∀ x ∈ o, isWord t m T (wd t m T ++ [x]) ↔ x ∈ o.take k) (hd : o.drop k = y :: r) :
    Inv al start (t ++ [y]) m (T + 1) ords := by
  have O := I.ord _ _ ho
  have hl := I.W.len
  have hyo : y ∈ o := List.mem_of_mem_drop (i := k) (hd ▸ .head _)
  have hs := front_step hd
  have hny : y ∉ o.take k := fun q => by
    have nd := O.nod
    rw [← List.take_append_drop k o, hd] at nd
    exact (List.nodup_append.mp nd).2.2 y q y (.head _) rfl
  have hn : ¬ isWord t m T (wd t m T ++ [y]) := fun q => hny ((hf y hyo).mp q)
  refine ⟨I.W.step ((O.all y).mp hyo) hn, fun v p hv => ?_, fun i hi => ?_⟩
  · have P := I.ord v p hv
    refine ⟨P.nod, P.all, P.near, ?_⟩
    by_cases e : v = wd t m T
    · subst e
      rw [ho] at hv; cases hv
      refine ⟨k + 1, fun x hx => ?_⟩
      rw [isWord_new I.W, hf x hx, hs, List.mem_append, List.mem_singleton]
      constructor
      · rintro (h | h)
        · exact .inl h
        · exact .inr (List.cons.inj (List.append_inj_right h rfl)).1
      · rintro (h | h)
        · exact .inl h
        · exact .inr (h ▸ rfl)
    · obtain ⟨k', hk'⟩ := P.front
      refine ⟨k', fun x hx => ?_⟩
      rw [isWord_new I.W, ← hk' x hx]
      exact ⟨fun h => h.resolve_right fun q => e (List.append_inj' q rfl).1, .inl⟩
  · rcases Nat.lt_or_eq_of_le (Nat.le_of_lt_succ hi) with h | rfl
    · rw [wd_append (by omega)]; exact I.came i h
    · rw [wd_append (by omega), ho]; exact fun q => by cases q
/-- the walk is stuck: it is back at its start and all words came -/
theorem Inv.stuck {al start t : List Nat} {m T : Nat} {ords} (I : Inv al start t m T ords) (h : ∀ x ∈ al, isWord t m T (wd t m T ++ [x])) : wd t m T = start ∧ T = al.length ^ (m + 1) := by
  have M := martin I.W h fun v hv hx hne => ?_
  · exact ⟨M.1, words_all I.W M.2⟩
  · have hsl := I.W.slen
    have hm : 0 < m := by
      refine Nat.pos_of_ne_zero fun q => hne ?_
      subst q
      rw [List.length_eq_zero_iff.mp hv, List.length_eq_zero_iff.mp hsl]
    cases hc : ords v with
    | none =>
      obtain ⟨k, hk, hp, hmax⟩ := max_ex (fun k => v.drop (m - k) = start.take k) (by simp [← hv]) m hm
      exact ⟨k, hk, fun j hj q => hmax j hj q, hp, fun q => absurd q (I.none_ hc _)⟩
    | some o =>
      have O := I.ord v o hc
      obtain ⟨o', y, rfl, k, hk, hmax, hp, hy⟩ := O.near hne
      refine ⟨k, hk, hmax, hp, fun q x hxa => ?_⟩
      obtain ⟨k', hf⟩ := O.front
      have e : start[k]'(by rw [hsl]; exact hk) = y := by
        rw [List.getElem?_eq_getElem (by rw [hsl]; exact hk)] at hy
        exact Option.some.inj hy
      rw [e] at q
      have hyo : y ∈ o' ++ [y] := by simp
      have hxo := (O.all x).mpr hxa
      exact (hf x hxo).mpr (front_last O.nod ((hf y hyo).mp q) x hxo)
end Mine
end
section
open PySem PySem.W PySem.Calls PyProof.Rows
set_option Elab.async false
namespace Mine
theorem Tn.sub_empty : ∀ {u : List Nat}, (Tn.sub .empty u).isSome = true → u = []
  | [], _ => rfl
  | x :: u, h => by simp [Tn.sub, Tn.empty, Tf.look] at h
theorem Tn.sub_ins (v : Value) : ∀ (w : List Nat) (t : Tn) (u : List Nat), ((t.ins w v).sub u).isSome = true → (t.sub u).isSome = true ∨ u.length ≤ w.length
  | _, _, [], _ => .inr (Nat.zero_le _)
  | [], t, y :: u, h => by
    simp only [Tn.ins, Tn.sub] at h ⊢
    exact .inl h
  | x :: w, t, y :: u, h => by
    simp only [Tn.ins, Tn.sub] at h ⊢
    by_cases e : x = y
    · subst e
      rw [Tf.set_look, Option.bind_some] at h
      rcases Tn.sub_ins v w _ u h with h | h
      · cases q : t.ch.look x with
        | none =>
          rw [q] at h
          have := Tn.sub_empty (u := u) (by simpa using h)
          subst this
          exact .inr (by simp)
        | some c => rw [q] at h; exact .inl (by simpa using h)
      · exact .inr (by simpa using h)
    · rw [Tf.look_set_ne e] at h
      exact .inl h
/-- what the trie holds after T turns -/
structure TrieOk (tn : Tn) (t : List Nat) (m T : Nat) : Prop where
  get1 : ∀ i < T, ∃ u : Tok, tn.get (wd t (m + 1) i) = some (Value.int (i : Int) u)
  get2 : ∀ w v, tn.get w = some v → isWord t m T w
  shal : ∀ u, (tn.sub u).isSome = true → u.length ≤ m + 1
theorem TrieOk.zero (t : List Nat) (m : Nat) : TrieOk .empty t m 0 := by
  refine ⟨fun i hi => absurd hi (Nat.not_lt_zero _), fun w v h => ?_, fun u h => ?_⟩
  · rw [Tn.get_empty] at h; cases h
  · rw [Tn.sub_empty h]; exact Nat.zero_le _
theorem TrieOk.has {al start t : List Nat} {m T : Nat} {tn : Tn} (W : Walk al start t m T) (K : TrieOk tn t m T) (w : List Nat) : (tn.get w).isSome = true ↔ isWord t m T w := by
  constructor
  · intro h
    obtain ⟨v, hv⟩ := Option.isSome_iff_exists.mp h
    exact K.get2 w v hv
  · rintro ⟨i, hi, rfl⟩
    obtain ⟨u, h⟩ := K.get1 i hi
    rw [h]; rfl
theorem TrieOk.step {al start t : List Nat} {m T : Nat} {tn : Tn} {y : Nat} {u : Tok} (W : Walk al start t m T) (K : TrieOk tn t m T) (hn : ¬ isWord t m T (wd t m T ++ [y])) :
    TrieOk (tn.ins (wd t m T ++ [y]) (.int (T : Int) u)) (t ++ [y]) m (T + 1) := by
  have hl := W.len
  refine ⟨fun i hi => ?_, fun w v h => ?_, fun w h => ?_⟩
  · rw [Tn.get_ins]
    rcases Nat.lt_or_eq_of_le (Nat.le_of_lt_succ hi) with h | rfl
    · rw [wd_append (by omega), if_neg (fun e => hn ⟨i, h, e⟩)]
      exact K.get1 i h
    · rw [wd_new W, if_pos rfl]; exact ⟨u, rfl⟩
  · rw [Tn.get_ins] at h
    rw [isWord_new W]
    by_cases e : w = wd t m T ++ [y]
    · exact .inr e
    · rw [if_neg e] at h; exact .inl (K.get2 w v h)
  · rcases Tn.sub_ins _ _ _ _ h with h | h
    · exact K.shal w h
    · rw [List.length_append, W.end_length] at h
      exact h
theorem told_len {al start t : List Nat} {m T : Nat} {D : Adr} {r : Nd} (nod : al.Nodup) (W : Walk al start t m T) (hok : r.ok D) (K : TrieOk (r.er D) t m T) : (outN D r).length = T := by
  have h1 : ((outN D r).map (·.1)).length ≤ ((List.range T).map fun i => wd t (m + 1) i).length := nodup_sub (outN_nodup hok) fun w hw => by
    obtain ⟨x, hx, rfl⟩ := List.mem_map.mp hw
    obtain ⟨i, hi, e⟩ := K.get2 x.1 x.2 ((outN_get hok x).mp hx)
    exact List.mem_map.mpr ⟨i, List.mem_range.mpr hi, e⟩
  have h2 : ((List.range T).map fun i => wd t (m + 1) i).length ≤ ((outN D r).map (·.1)).length := nodup_sub (words_nodup W) fun w hw => by
    obtain ⟨i, hi, rfl⟩ := List.mem_map.mp hw
    obtain ⟨u, h⟩ := K.get1 i (List.mem_range.mp hi)
    exact List.mem_map.mpr ⟨(wd t (m + 1) i, .int i u), (outN_get hok _).mpr h, rfl⟩
  simp only [List.length_map, List.length_range] at h1 h2
  omega
theorem told_at {al start t : List Nat} {m T : Nat} {D : Adr} {r : Nd} (W : Walk al start t m T) (hok : r.ok D) (K : TrieOk (r.er D) t m T) {x : List Nat × Value} (hx : x ∈ outN D r) : ∃ i u, i < T ∧ x.1 = wd t (m + 1) i ∧ x.2 = .int (i : Int) u := by
  have hg := (outN_get hok x).mp hx
  obtain ⟨i, hi, e⟩ := K.get2 x.1 x.2 hg
  obtain ⟨u, h⟩ := K.get1 i hi
  rw [e, hg] at h
  exact ⟨i, u, hi, e.symm, Option.some.inj h⟩
end Mine
end
section
open PySem PySem.W PySem.Calls PyProof.Rows
set_option Elab.async false
set_option maxRecDepth 100000
set_option maxHeartbeats 4000000
namespace Mine
/-- a cell variable's object -/
abbrev CellP (v : Option Value) (o : Obj) : Prop := o.data = .cell v
section
variable {prog : Program} {w : World} {A : Around} {E : Value → Shared → Prop} {b s : Shared} {cs cs' : List Cell} {K : Frag} {env : Env} {L : Addr} {ns : List Str} {vs vs' : List (Option Value)} {pos : Pos} {x : Str} {v : Value}
/-- a def with cell variables is entered -/
theorem enterC {R : Result → Shared → Prop} {fd : FuncData} {body : List Stmt} {f : Addr} {vals : List Value} {binds : List (Str × Value)} {nk : List (Str × NameKind)} (Fn : FnAt K f fd body) (hnk : fd.scope.names = nk) (ns : List Str) (vs : List (Option Value)) (cm : Str → Option Value)
    (B : Base K b) (H : St b s cs) (hr : A.depth < recursionLimit) (hbind : bindArgs fd ⟨vals, []⟩ = pure binds)
    (hkind : ∀ n, ∀ x ∈ binds, nk.lookup x.1 = some .local ∨ (nk.lookup x.1 = some .cell ∧ ((cellsFrom n nk []).lookup x.1).isSome = true)) (hnd : ns.Nodup) (hlen : ns.length = vs.length) (hgen : fd.scope.isGenerator = false)
    (hL : bindL (fun x => nk.lookup x) binds (fun _ => none) = locOf ns vs) (hC : bindC (fun x => nk.lookup x) binds (fun _ => none) = cm) (hcn : ∀ n, ((cellsFrom n nk []).map (·.1)).Nodup)
    (h : ∀ s' L env, EnvIs env L nk (cellsFrom (L + 1) nk []) → St b s' (.f L ns vs :: ((cellsFrom (L + 1) nk []).map (fun p => .p p.2 (CellP (cm p.1))) ++ cs)) →
      wpAny (model prog w) (A.deeper env) (execs body env) (fun fl s' => R (.ok (.ret (match fl with | .ret v => v | _ => .none))) s') (fun _ _ => False) s') :
    codeAny (model prog w) A (.call (.ref f) ⟨vals, []⟩) R s := by
  have X' := H.in_ B.X
  obtain ⟨oc, od, osl, ho⟩ := Fn.look
  subst hnk
  refine codeAny_call_cells hr (X' _ _ ho) rfl (B.nolimit.keeps H.keep) (codeRec_of X' Fn.code) Fn.body hbind Fn.closure (hkind _) (fun s₁ x => ?_) Fn.co hgen Fn.kind
  refine wpAny_mono (h s₁ s.heap.objs.size (callEnvC fd s.heap.objs.size f) ⟨rfl, rfl, Fn.kind, Fn.globals, Fn.builtins, rfl, rfl⟩ ?_) (fun _ _ z => z) fun _ _ z => z.elim
  obtain ⟨h₁, tk, rfl⟩ := x.toInCall.same
  have keep := x.toInCall.keep
  have hns : h₁.Ns s.heap.objs.size (locOf ns vs) := by
    have := x.toInCall.ns
    have e : bindL (callEnvC fd s.heap.objs.size f).kindOf binds (fun _ => none) = locOf ns vs := hL
    rw [← e]; exact this
  have hcell : ∀ p ∈ cellsFrom (s.heap.objs.size + 1) fd.scope.names [], h₁.IsCell p.2 (cm p.1) ∧ s.heap.objs.size < p.2 := by
    intro p hp
    have hl : (cellsFrom (s.heap.objs.size + 1) fd.scope.names []).lookup p.1 = some p.2 := by
      have hn := hcn (s.heap.objs.size + 1)
      revert hp hn
      generalize cellsFrom (s.heap.objs.size + 1) fd.scope.names [] = l
      intro hp hn
      induction l with
      | nil => cases hp
      | cons q l ih =>
        obtain ⟨qn, qa⟩ := q
        have hn' := List.nodup_cons.mp hn
        rcases List.mem_cons.mp hp with rfl | hp
        · simp
        · have hne : ¬ (p.1 = qn) := fun e => hn'.1 (e ▸ (List.mem_map.mpr ⟨p, hp, rfl⟩ : p.1 ∈ l.map (·.1)))
          have hb : (p.1 == qn) = false := by simpa using hne
          rw [List.lookup_cons, hb]
          exact ih hp hn'.2
    have := x.cell p.1 p.2 hl
    have e : bindC (callEnvC fd s.heap.objs.size f).kindOf binds (fun _ => none) = cm := hC
    rw [e] at this
    exact ⟨this, x.above p.1 p.2 hp⟩
  have hold : ∀ c ∈ cs, ∀ a, c.key = (true, a) → a < s.heap.objs.size := fun c hc a q => Cell.key_lt (H.sat c hc) q
  refine ⟨fun a o q => keep _ _ (H.keep a o q), Nat.le_of_lt (Nat.lt_of_le_of_lt H.size hns.lt), ?_, fun c hc => ?_, H.bare, H.os⟩
  · rw [List.map_cons, List.map_append, List.map_map]
    refine List.nodup_cons.mpr ⟨fun q => ?_, List.nodup_append.mpr ⟨?_, H.nod, ?_⟩⟩
    · rcases List.mem_append.mp q with q | q
      · obtain ⟨p, hp, e⟩ := List.mem_map.mp q
        have := (hcell p hp).2
        have e' : (true, p.2) = (true, s.heap.objs.size) := e
        injection e' with _ e'
        exact absurd this (by rw [e']; exact Nat.lt_irrefl _)
      · obtain ⟨d, hd, e⟩ := List.mem_map.mp q
        exact absurd (hold d hd _ e) (Nat.lt_irrefl _)
    · refine List.pairwise_map.mpr (List.Pairwise.imp (fun hne e => hne ?_) x.apart)
      have e' : (true, _) = (true, _) := e
      injection e'
    · intro y hy z hz e
      obtain ⟨p, hp, rfl⟩ := List.mem_map.mp hy
      obtain ⟨d, hd, rfl⟩ := List.mem_map.mp hz
      have h1 := (hcell p hp).2
      have h2 := hold d hd p.2 e.symm
      exact absurd (Nat.lt_trans h1 h2) (Nat.lt_irrefl _)
  · rcases List.mem_cons.mp hc with rfl | hc
    · exact ⟨hns, hnd, hlen, H.size⟩
    · rcases List.mem_append.mp hc with hc | hc
      · obtain ⟨p, hp, rfl⟩ := List.mem_map.mp hc
        obtain ⟨⟨o, h1, h2⟩, h3⟩ := hcell p hp
        exact ⟨⟨o, h1, h2⟩, Nat.le_trans H.size (Nat.le_of_lt h3)⟩
      · exact Cell.sat_same (H.sat c hc) fun a o _ q => keep a o q
/-- a cell variable's name -/
theorem nmC {nk : List (Str × NameKind)} {cl : List (Str × Addr)} {c : Addr} {Q : Value → Shared → Prop} (V : EnvIs env L nk cl) (H : St b s cs) (hl : nk.lookup x = some .cell) (hc : cl.lookup x = some c) (hm : Has (.p c (CellP (some v))) cs) (hd : (x == ("__debug__" : Str)) = false) (h : Q v s) :
    wpAny (model prog w) A (eval (.Name x pos) env) Q E s := by
  obtain ⟨⟨o, ho, h2⟩, _⟩ := H.sat _ hm.mem
  exact wpAny_Name (wpAny_loadName_cell V.kind (V.kindOf hl) (by rw [V.cells]; exact hc) ⟨o, ho, h2⟩ h) hd
theorem stC {nk : List (Str × NameKind)} {cl : List (Str × Addr)} {c : Addr} {v0 : Option Value} {Q : Unit → Shared → Prop} (V : EnvIs env L nk cl) (H : St b s cs) (hl : nk.lookup x = some .cell) (hc : cl.lookup x = some c) (u : Sub1 (.p c (CellP v0)) (.p c (CellP (some v))) cs cs') (h : ∀ s', St b s' cs' → Q () s') :
    wpAny (model prog w) A (storeName env x v) Q E s := by
  obtain ⟨⟨o, ho, h2⟩, hb⟩ := H.sat _ u.mem
  exact wpAny_storeName_cell V.kind (V.kindOf hl) (by rw [V.cells]; exact hc) ⟨o, ho, h2⟩ fun h' hi hs => h _ (H.change (t := s.toks) u rfl rfl hb hs ⟨hi, hb⟩)
end
end Mine
end
section
open PySem PySem.W PySem.Calls PyProof.Rows
set_option Elab.async false
set_option maxRecDepth 100000
set_option maxHeartbeats 4000000
namespace Mine
theorem locOf_none : ∀ (ns : List Str), locOf ns (ns.map fun _ => none) = fun _ => none
  | [] => rfl
  | n :: ns => by
    funext y
    have ih := congrFun (locOf_none ns) y
    unfold locOf at ih ⊢
    rw [List.map_cons, List.zip_cons_cons, List.lookup_cons]
    cases y == n with
    | true => rfl
    | false => exact ih
section
variable {prog : Program} {w : World} {A : Around} {E : Value → Shared → Prop} {b s : Shared} {cs cs' : List Cell} {K : Frag} {env : Env} {L : Addr} {pos : Pos} {v : Value}
/-- how a comprehension's loop ends -/
def CEnd (b : Shared) (ns : List Str) (D C : Addr) (Q : Value → Shared → Prop) (r : Result) (s' : Shared) : Prop :=
  ∃ f, r = .ok f ∧ ∃ vs cs', St b s' (.f C ns vs :: cs') ∧ ∀ s'', St b s'' cs' → Q (.ref D) s''
/-- a list comprehension of one clause: the block is entered -/
theorem comp_in {elt target iter : Expr} {ifs : List Expr} {scope : Scope} {cl : List (Str × Addr)} {ns : List Str} {Q : Value → Shared → Prop} {nk : List (Str × NameKind)} (hnd : ns.Nodup) (hnk : scope.names = nk)
    (hclos : closureFor scope env = pure cl) (hcell : ∀ y ∈ nk, y.2 ≠ .cell) (hkind : scope.kind = .function)
    (hnames : ∀ y ∈ nk, y.2 = .local → nk.lookup y.1 = some .local)
    (h : wpAny (model prog w) A (eval iter env) (fun xv s₁ => wpAny (model prog w) A (pyIter xv) (fun it s₂ => ∃ cs2, St b s₂ cs2 ∧ (∃ c, Has c cs2 ∧ c.key.1 = true) ∧
      ∀ s₃ D C, St b s₃ (.f C ns (ns.map fun _ => none) :: .p D (lstP []) :: cs2) →
        (∀ {Q' E' s'}, St b s' (.f C ns (ns.map fun _ => none) :: .p D (lstP []) :: cs2) → Q' it s' → wpAny (model prog w) A (pyIter it) Q' E' s') ∧
        codeAny (model prog w) A (.compLoop (.ListComp elt [⟨target, iter, ifs, 0⟩] scope pos) 0 it (.ref D) (compEnvC scope cl C env)) (CEnd b ns D C Q) s₃) E s₁) E s)
    (hs : ∀ x, foldedSetIterable iter env x = pure x := by intro _; rfl) :
    wpAny (model prog w) A (eval (.ListComp elt [⟨target, iter, ifs, 0⟩] scope pos) env) Q E s := by
  subst hnk
  rw [eval_ListComp]
  refine wpAny_comprehension_free (use := none) rfl hs hclos hkind hnames (wpAny_mono h (fun xv s₁ h₁ => wpAny_mono h₁ (fun it s₂ h₂ => ?_) fun _ _ e => e) fun _ _ e => e)
  obtain ⟨cs2, H, ⟨c, hc, hc1⟩, h⟩ := h₂
  have hb : b.heap.objs.size ≤ s₂.heap.objs.size := H.size
  refine wpAny_newObj_type (wpAny_newFunctionEnv hcell (by intro y hy; simp at hy) (fun h₁ hns₁ hsb₁ => ?_) hkind)
  dsimp only at hns₁ hsb₁ ⊢
  generalize hH2 : s₂.heap.push { cls := .type "list", dict := none, data := .seq ([] : List Value).toArray } = H2 at hns₁ hsb₁ ⊢
  have hC : H2.objs.size = s₂.heap.objs.size + 1 := by rw [← hH2, Heap.size_push]
  have hDC : s₂.heap.objs.size ≠ H2.objs.size := by rw [hC]; exact Nat.ne_of_lt (Nat.lt_succ_self _)
  have below : ∀ b, b < s₂.heap.objs.size → b ≠ H2.objs.size := fun b hb => by rw [hC]; exact Nat.ne_of_lt (Nat.lt_succ_of_lt hb)
  have old : ∀ b o, s₂.heap.get? b = some o → h₁.get? b = some o := fun b o e => hsb₁.extBut b o (below b (Heap.lt_size e)) (Heap.get?_push_of_some _ (hH2 ▸ Heap.get?_push_of_some _ e))
  have hacc : h₁.get? s₂.heap.objs.size = some { cls := .type "list", dict := none, data := .seq ([] : List Value).toArray } := hsb₁.extBut _ _ hDC (Heap.get?_push_of_some _ (hH2 ▸ Heap.get?_push_size _ rfl))
  have H1 : St b { s₂ with heap := h₁, toks := s₂.toks + ([] : List (Str × Value)).length } (.p s₂.heap.objs.size (lstP []) :: cs2) :=
    H.newP (t := s₂.toks + ([] : List (Str × Value)).length) old (Nat.le_refl _) hacc ⟨0, rfl⟩
  have H2' : St b { s₂ with heap := h₁, toks := s₂.toks + ([] : List (Str × Value)).length } (.f H2.objs.size ns (ns.map fun _ => none) :: .p s₂.heap.objs.size (lstP []) :: cs2) := by
    refine ⟨H1.keep, H1.size, ?_, fun d hd => ?_, H1.bare, H1.os⟩
    · rw [List.map_cons, List.nodup_cons]
      refine ⟨fun q => ?_, H1.nod⟩
      obtain ⟨d, hd, e⟩ := List.mem_map.mp q
      rcases List.mem_cons.mp hd with rfl | hd
      · have e' : (true, s₂.heap.objs.size) = (true, H2.objs.size) := e
        injection e' with _ e'
        exact hDC e'
      · have := Cell.key_lt (H.sat d hd) e
        rw [hC] at this
        exact absurd (Nat.lt_of_succ_lt this) (Nat.lt_irrefl _)
    · rcases List.mem_cons.mp hd with rfl | hd
      · refine ⟨?_, hnd, by simp, by rw [hC]; exact Nat.le_succ_of_le hb⟩
        rw [locOf_none]
        exact hns₁
      · exact H1.sat d hd
  obtain ⟨hself, hloop⟩ := h _ s₂.heap.objs.size H2.objs.size H2'
  have loop : codeAny (model prog w) A (.compLoop (.ListComp elt [⟨target, iter, ifs, 0⟩] scope pos) 0 it (.ref s₂.heap.objs.size) (compEnvC scope cl H2.objs.size env)) (compPost (model prog w) A E none Q (.ref s₂.heap.objs.size) H2.objs.size) { s₂ with heap := h₁, toks := s₂.toks + ([] : List (Str × Value)).length } := by
    refine codeAny_mono hloop fun r s' hr => ?_
    obtain ⟨f, rfl, vs, cs', H', hq⟩ := hr
    obtain ⟨hn, _, _, hl⟩ := H'.sat (.f H2.objs.size ns vs) (List.mem_cons_self ..)
    refine ⟨_, hn, fun h' hsb => hq _ ?_⟩
    have nod := List.nodup_cons.mp H'.nod
    refine ⟨fun a o q => ?_, ?_, nod.2, fun d hd => ?_, H'.bare, H'.os⟩
    · exact hsb.extBut a o (Nat.ne_of_lt (Nat.lt_of_lt_of_le (Heap.lt_size q) hl)) (H'.keep a o q)
    · exact Nat.le_trans H'.size (Nat.le_of_eq hsb.1.symm)
    · exact Cell.sat_but (t := s'.toks) (H'.sat d (List.mem_cons_of_mem _ hd)) (fun e => nod.1 (List.mem_map.mpr ⟨d, hd, e⟩)) hsb
  exact codeAny_compStart_list loop (hself H2' loop)
end
end Mine
end
section
open PySem PySem.W PySem.Calls PyProof.Rows
set_option Elab.async false
set_option maxRecDepth 100000
set_option maxHeartbeats 4000000
namespace Mine
section
variable {prog : Program} {w : World} {A : Around} {E : Value → Shared → Prop} {b s : Shared} {cs cs' : List Cell} {K : Frag} {env : Env} {L : Addr} {pos : Pos} {v : Value}
/-- a range's object, its iterator's object -/
abbrev rngO (a e c : Int) (t u v : Tok) : Obj := { cls := .type "range", dict := none, data := .fields #[.int a t, .int e u, .int c v], slots := #[] }
abbrev ritO (x left step : Int) : Obj := { cls := .type "range_iterator", dict := none, data := .fields #[rawInt x, rawInt left, rawInt step], slots := #[] }
/-- a range is iterated -/
theorem iterRange {r : Addr} {a e c : Int} {t u z : Tok} {Q : Value → Shared → Prop} (H : St b s cs) (h : Has (.o r (rngO a e c t u z)) cs) (hsmall : Builtin.Range.small a e c = true)
    (k : ∀ s' it, St b s' (.o it (ritO a (Builtin.Range.rangeSize a e c) c) :: cs) → Q (.ref it) s') : wpAny (model prog w) A (pyIter (.ref r)) Q E s :=
  wpAny_pyIter_range (H.obj h.mem) hsmall (k _ _ H.push)
theorem selfRange {it : Addr} {x left step : Int} {Q : Value → Shared → Prop} (H : St b s cs) (h : Has (.o it (ritO x left step)) cs) (k : Q (.ref it) s) : wpAny (model prog w) A (pyIter (.ref it)) Q E s :=
  wpAny_pyIter_rangeiter (H.obj h.mem) k
theorem nextRange {it : Addr} {x left step : Int} {Q : Option Value → Shared → Prop} (H : St b s cs) (u : Sub1 (.o it (ritO x left step)) (.o it (ritO (x + step) (left - 1) step)) cs cs') (hl : 0 < left)
    (k : ∀ s' t, St b s' cs' → Q (some (.int x t)) s') : wpAny (model prog w) A (pyNext (.ref it)) Q E s := by
  obtain ⟨ho, hb⟩ := H.sat _ u.mem
  exact wpAny_pyNext_range_item ho hl fun h' hi hsb => k _ _ (H.change (t := s.toks + 1) u rfl rfl hb hsb ⟨hi, hb⟩)
theorem endRange {it : Addr} {x left step : Int} {Q : Option Value → Shared → Prop} {d : Cell} (hh : A.handled = none) (H : St b s (.o it (ritO x left step) :: cs)) (hd : Has d cs) (hd1 : d.key.1 = true) (hl : left ≤ 0)
    (k : ∀ s', St b s' cs → Q none s') : wpAny (model prog w) A (pyNext (.ref it)) Q E s := by
  obtain ⟨ho, hb⟩ := H.sat _ (.head _)
  exact wpAny_pyNext_range_end hh ho hl fun h' he => k _ (H.extBut (t := s.toks) rfl he hd hd1)
theorem selfList {l it : Addr} {i : Nat} {Q : Value → Shared → Prop} (H : St b s cs) (h : Has (.p it (LIter l i)) cs) (k : Q (.ref it) s) : wpAny (model prog w) A (pyIter (.ref it)) Q E s := by
  obtain ⟨⟨o, ho, h1, h2⟩, _⟩ := H.sat _ h.mem
  exact wpAny_pyIter_listiter ⟨o, ho, h1, h2⟩ k
/-- a value is appended -/
theorem lstP_append {l : Addr} {xs : List Value} {v : Value} {Q : Value → Shared → Prop} (H : St b s cs) (u : Sub1 (.p l (lstP xs)) (.p l (lstP (xs ++ [v]))) cs cs') (hz : xs.length ≤ 1000)
    (k : ∀ s', St b s' cs' → Q .none s') : wpAny (model prog w) A (call (.builtin "list.append") [.ref l, v]) Q E s := by
  obtain ⟨c, g⟩ := H.isList (Has.of u.mem)
  have hb := (H.sat _ u.mem).2
  exact wpAny_list_append_plain (items := xs.toArray) ⟨c, g⟩ (fun h' ⟨c', g'⟩ hsb => k _ (H.change (t := s.toks) u rfl rfl hb hsb ⟨⟨_, g', c', by simp⟩, hb⟩)) (by rw [List.size_toArray]; exact Nat.le_trans hz (by decide))
end
end Mine
end
section
open PySem PySem.W PySem.Calls PyProof.Rows
set_option Elab.async false
set_option maxRecDepth 100000
set_option maxHeartbeats 4000000
namespace Mine
section
variable {prog : Program} {w : World} {A : Around} {E : Value → Shared → Prop} {b s : Shared} {cs cs' : List Cell} {K : Frag} {env : Env} {pos : Pos} {R : Result → Shared → Prop}
/-- one turn of a comprehension without a test -/
theorem comp_loop0 {elt target iter : Expr} {scope : Scope} {it acc : Value} (N : Nat) (J : Nat → Shared → Prop)
    (turn : ∀ i s E', i < N → J i s → wpAny (model prog w) A (pyNext it) (fun r s₁ => ∃ v, r = some v ∧ wpAny (model prog w) A (assign target env v) (fun _ s₂ =>
      wpAny (model prog w) A (eval elt env) (fun x s₄ => wpAny (model prog w) A (call (.builtin "list.append") [acc, x]) (fun _ s₅ => J (i + 1) s₅) E' s₄) E' s₂) E' s₁) E' s)
    (done : ∀ s E', J N s → wpAny (model prog w) A (pyNext it) (fun r s₁ => r = none ∧ R (.ok .next) s₁) E' s)
    (h : J 0 s) (ht : ∀ v, letOwnedTupleGo target it v = pure () := by intro _; rfl) :
    codeAny (model prog w) A (.compLoop (.ListComp elt [⟨target, iter, [], 0⟩] scope pos) 0 it acc env) R s := by
  refine codeAny_compLoop_tests (fun n s => ∃ i, i ≤ N ∧ n = N - i ∧ J i s) ?_ N ⟨0, Nat.zero_le _, rfl, h⟩ ht
  rintro n s ⟨i, hi, rfl, hJ⟩
  rcases Nat.lt_or_eq_of_le hi with hlt | rfl
  · refine wpAny_mono (turn i s _ hlt hJ) (fun r s₁ h₁ => ?_) fun _ _ e => e
    obtain ⟨v, rfl, h₁⟩ := h₁
    refine wpAny_mono h₁ (fun _ s₂ h₂ => wpAny_tests_nil ?_) fun _ _ e => e
    rw [if_pos rfl]
    exact wpAny_mono h₂ (fun x s₄ h₄ => wpAny_mono h₄ (fun _ s₅ h₅ => ⟨N - (i + 1), by omega, i + 1, hlt, rfl, h₅⟩) fun _ _ e => e) fun _ _ e => e
  · refine wpAny_mono (done s _ hJ) (fun r s₁ h₁ => ?_) fun _ _ e => e
    obtain ⟨rfl, h₁⟩ := h₁
    exact h₁
/-- one turn of a comprehension with one test -/
theorem comp_loop1 {elt target iter c : Expr} {scope : Scope} {it acc : Value} (N : Nat) (J : Nat → Shared → Prop)
    (turn : ∀ i s E', i < N → J i s → wpAny (model prog w) A (pyNext it) (fun r s₁ => ∃ v, r = some v ∧ wpAny (model prog w) A (assign target env v) (fun _ s₂ =>
      wpAny (model prog w) A (isTrue c env (eval c env)) (fun ok s₃ => if ok = true then
        wpAny (model prog w) A (eval elt env) (fun x s₄ => wpAny (model prog w) A (call (.builtin "list.append") [acc, x]) (fun _ s₅ => J (i + 1) s₅) E' s₄) E' s₃ else J (i + 1) s₃) E' s₂) E' s₁) E' s)
    (done : ∀ s E', J N s → wpAny (model prog w) A (pyNext it) (fun r s₁ => r = none ∧ R (.ok .next) s₁) E' s)
    (h : J 0 s) (ht : ∀ v, letOwnedTupleGo target it v = pure () := by intro _; rfl) :
    codeAny (model prog w) A (.compLoop (.ListComp elt [⟨target, iter, [c], 0⟩] scope pos) 0 it acc env) R s := by
  refine codeAny_compLoop_tests (fun n s => ∃ i, i ≤ N ∧ n = N - i ∧ J i s) ?_ N ⟨0, Nat.zero_le _, rfl, h⟩ ht
  rintro n s ⟨i, hi, rfl, hJ⟩
  rcases Nat.lt_or_eq_of_le hi with hlt | rfl
  · refine wpAny_mono (turn i s _ hlt hJ) (fun r s₁ h₁ => ?_) fun _ _ e => e
    obtain ⟨v, rfl, h₁⟩ := h₁
    refine wpAny_mono h₁ (fun _ s₂ h₂ => wpAny_tests_one (wpAny_mono h₂ (fun ok s₃ h₃ => ?_) fun _ _ e => e)) fun _ _ e => e
    cases ok with
    | false =>
      rw [if_neg (by simp)] at h₃ ⊢
      exact ⟨N - (i + 1), by omega, i + 1, hlt, rfl, h₃⟩
    | true =>
      rw [if_pos rfl] at h₃ ⊢
      exact wpAny_mono h₃ (fun x s₄ h₄ => wpAny_mono h₄ (fun _ s₅ h₅ => ⟨N - (i + 1), by omega, i + 1, hlt, rfl, h₅⟩) fun _ _ e => e) fun _ _ e => e
  · refine wpAny_mono (done s _ hJ) (fun r s₁ h₁ => ?_) fun _ _ e => e
    obtain ⟨rfl, h₁⟩ := h₁
    exact h₁
end
end Mine
end
section
open PySem PySem.W PySem.Calls PyProof.Rows
set_option Elab.async false
set_option maxRecDepth 100000
set_option maxHeartbeats 4000000
namespace Mine
section
variable {prog : Program} {w : World} {A : Around} {E : Value → Shared → Prop} {b s : Shared} {cs cs' : List Cell} {K : Frag} {env : Env} {pos : Pos}
/-- range(n) -/
theorem range1_ {n : Int} {t : Tok} {Q : Value → Shared → Prop} (H : St b s cs) (k : ∀ s' r t u v, St b s' (.o r (rngO 0 n 1 t u v) :: cs) → Q (.ref r) s') :
    wpAny (model prog w) A (call (.type "range") [.int n t]) Q E s :=
  call_range_1 (k _ _ _ _ _ (St.toks H.push))
/-- range(a, e, c) of small numbers -/
theorem range3_ {a e c : Int} {t u v : Tok} {Q : Value → Shared → Prop} (H : St b s cs) (hc : c ≠ 0) (hp : Builtin.divisionGoesByPylong (e - a) c = false)
    (k : ∀ s' r, St b s' (.o r (rngO a e c t u v) :: cs) → Q (.ref r) s') :
    wpAny (model prog w) A (call (.type "range") [.int a t, .int e u, .int c v]) Q E s :=
  call_range_3 hc (k _ _ (St.toks H.push)) (.inl hp)
end
end Mine
end
section
open PySem PySem.W PySem.Calls PyProof.Rows
set_option Elab.async false
set_option maxHeartbeats 4000000
namespace Mine
theorem rsize1 (n : Nat) : Builtin.Range.rangeSize 0 (n : Int) 1 = (n : Int) := by
  unfold Builtin.Range.rangeSize
  simp
  try omega
theorem rsmall1 {n : Nat} (h : n ≤ 1000000) : Builtin.Range.small 0 (n : Int) 1 = true := by
  unfold Builtin.Range.small
  rw [rsize1]
  simp [Builtin.Range.rangeFitsLong]
  omega
theorem rsizeDown (n : Nat) : Builtin.Range.rangeSize (n : Int) 0 (-1) = (n : Int) := by
  unfold Builtin.Range.rangeSize
  simp
  try omega
end Mine
end
section
open PySem PySem.W PySem.Calls PyProof.Rows
set_option Elab.async false
set_option maxRecDepth 100000
set_option maxHeartbeats 4000000
namespace Mine
section
variable {prog : Program} {w : World} {A : Around} {E : Value → Shared → Prop} {b s : Shared} {cs cs' : List Cell} {x : Str} {t : Tok} {Q : Value → Shared → Prop} {d : Cell}
theorem kept_old (h₀ : Heap) : KeptH (fun h => ∀ a o, h₀.get? a = some o → h.get? a = some o) := fun _ _ hp a o q => Heap.get?_push_of_some _ (hp a o q)
/-- text[i:] -/
theorem slice_sn_ {i : Int} {ui : Tok} (H : St b s cs) (hd : Has d cs) (hd1 : d.key.1 = true) (hsz : x.length ≤ 1000) (k : ∀ s' t', St b s' cs → Q (.str (Txt.slice x (some i) none) t') s') :
    ItemOn (model prog w) A E (.str x t) (.ref s.heap.objs.size) Q { s with heap := s.heap.push { cls := .type "slice", data := .fields #[.int i ui, .none, .none] } } :=
  SBH.sliceItem_sn (kept_old s.heap) (fun _ _ q => q) (fun _ t' _ hp => k _ t' (H.ext hp hd hd1)) (Nat.le_trans hsz (by decide))
/-- text[:j] -/
theorem slice_ns_ {j : Int} {uj : Tok} (H : St b s cs) (hd : Has d cs) (hd1 : d.key.1 = true) (hsz : x.length ≤ 1000) (k : ∀ s' t', St b s' cs → Q (.str (Txt.slice x none (some j)) t') s') :
    ItemOn (model prog w) A E (.str x t) (.ref s.heap.objs.size) Q { s with heap := s.heap.push { cls := .type "slice", data := .fields #[.none, .int j uj, .none] } } :=
  SBH.sliceItem_ns (kept_old s.heap) (fun _ _ q => q) (fun _ t' _ hp => k _ t' (H.ext hp hd hd1)) (Nat.le_trans hsz (by decide))
/-- text[i:j] -/
theorem slice_ss_ {i j : Int} {ui uj : Tok} (H : St b s cs) (hd : Has d cs) (hd1 : d.key.1 = true) (hsz : x.length ≤ 1000) (k : ∀ s' t', St b s' cs → Q (.str (Txt.slice x (some i) (some j)) t') s') :
    ItemOn (model prog w) A E (.str x t) (.ref s.heap.objs.size) Q { s with heap := s.heap.push { cls := .type "slice", data := .fields #[.int i ui, .int j uj, .none] } } :=
  SBH.sliceItem_ss (kept_old s.heap) (fun _ _ q => q) (fun _ t' _ hp => k _ t' (H.ext hp hd hd1)) (Nat.le_trans hsz (by decide))
end
end Mine
end
section
open PySem PySem.W PySem.Calls PyProof.Rows
set_option Elab.async false
set_option maxRecDepth 100000
set_option maxHeartbeats 4000000
namespace Mine
theorem strLen (x : Str) : x.length = x.cps.toList.length := rfl
theorem sl_from {x : Str} {i : Nat} (h : i ≤ x.length) : Txt.slice x (some (i : Int)) none = ⟨(x.cps.toList.drop i).toArray⟩ := by
  have e := eq_of_beq (slice_closes_fromL (x := x) (i := i) (b := x.length) (Int.natCast_nonneg _) (by exact_mod_cast h) rfl)
  rw [e, Int.toNat_natCast, List.take_of_length_le]
  rw [List.length_drop, ← strLen]
  omega
theorem sl_to {x : Str} {j : Nat} (h : j ≤ x.length) : Txt.slice x none (some (j : Int)) = ⟨(x.cps.toList.take j).toArray⟩ := by
  have e := eq_of_beq (slice_closes_toL (x := x) (j := j) (Int.natCast_nonneg _) (by exact_mod_cast h))
  rw [e]
  simp
theorem sl_mid {x : Str} {i j : Nat} (h1 : i ≤ j) (h : j ≤ x.length) : Txt.slice x (some (i : Int)) (some (j : Int)) = ⟨((x.cps.toList.drop i).take (j - i)).toArray⟩ := by
  have e := eq_of_beq (slice_closesL (x := x) (i := i) (j := j) (Int.natCast_nonneg _) (by exact_mod_cast h1) (by exact_mod_cast h))
  rw [e, Int.toNat_natCast]
  have : ((j : Int) - (i : Int)).toNat = j - i := by omega
  rw [this]
end Mine
end
section
open PySem PySem.W PySem.Calls PyProof.Rows
set_option Elab.async false
set_option maxRecDepth 100000
set_option maxHeartbeats 4000000
namespace Mine
section
variable {prog : Program} {w : World} {A : Around} {E : Value → Shared → Prop} {b s : Shared} {cs : List Cell} {env : Env} {pos p : Pos} {Q : Value → Shared → Prop}
/-- text[i:], the whole expression -/
theorem sub_from {value lo : Expr}
    (h : wpAny (model prog w) A (eval value env) (fun o s₁ => wpAny (model prog w) A (eval lo env) (fun i s₂ => ∃ (x : Str) (t : Tok) (n : Nat) (u : Tok) (cs : List Cell) (d : Cell), o = .str x t ∧ i = .int n u ∧ St b s₂ cs ∧ Has d cs ∧ d.key.1 = true ∧ x.length ≤ 1000 ∧ n ≤ x.length ∧
      ∀ s' t', St b s' cs → Q (.str ⟨(x.cps.toList.drop n).toArray⟩ t') s') E s₁) E s)
    (ht : ∀ o r, letTemporaryGo value o r = pure () := by intro _ _; rfl) :
    wpAny (model prog w) A (eval (.Subscript value (.Slice (some lo) none none p) pos) env) Q E s := by
  refine Subscript_Slice (wpAny_mono h (fun o s₁ h₁ => wpAny_Slice ?_) fun _ _ e => e) ht
  refine wpAny_mono h₁ (fun i s₂ h₂ => ?_) fun _ _ e => e
  obtain ⟨x, t, n, u, cs, d, rfl, rfl, H, hd, hd1, hz, hn, k⟩ := h₂
  refine wpAny_pure (wpAny_pure ?_)
  refine slice_sn_ H hd hd1 hz fun s' t' H' => ?_
  rw [sl_from hn]
  exact k s' t' H'
/-- text[:j], the whole expression -/
theorem sub_to {value hi : Expr}
    (h : wpAny (model prog w) A (eval value env) (fun o s₁ => wpAny (model prog w) A (eval hi env) (fun i s₂ => ∃ (x : Str) (t : Tok) (n : Nat) (u : Tok) (cs : List Cell) (d : Cell), o = .str x t ∧ i = .int n u ∧ St b s₂ cs ∧ Has d cs ∧ d.key.1 = true ∧ x.length ≤ 1000 ∧ n ≤ x.length ∧
      ∀ s' t', St b s' cs → Q (.str ⟨(x.cps.toList.take n).toArray⟩ t') s') E s₁) E s)
    (ht : ∀ o r, letTemporaryGo value o r = pure () := by intro _ _; rfl) :
    wpAny (model prog w) A (eval (.Subscript value (.Slice none (some hi) none p) pos) env) Q E s := by
  refine Subscript_Slice (wpAny_mono h (fun o s₁ h₁ => wpAny_Slice ?_) fun _ _ e => e) ht
  refine wpAny_pure (wpAny_mono h₁ (fun i s₂ h₂ => ?_) fun _ _ e => e)
  obtain ⟨x, t, n, u, cs, d, rfl, rfl, H, hd, hd1, hz, hn, k⟩ := h₂
  refine wpAny_pure ?_
  refine slice_ns_ H hd hd1 hz fun s' t' H' => ?_
  rw [sl_to hn]
  exact k s' t' H'
/-- text[i:j], the whole expression -/
theorem sub_mid {value lo hi : Expr}
    (h : wpAny (model prog w) A (eval value env) (fun o s₁ => wpAny (model prog w) A (eval lo env) (fun i s₂ => wpAny (model prog w) A (eval hi env) (fun j s₃ => ∃ (x : Str) (t : Tok) (n m : Nat) (u u' : Tok) (cs : List Cell) (d : Cell), o = .str x t ∧ i = .int n u ∧ j = .int m u' ∧ St b s₃ cs ∧ Has d cs ∧ d.key.1 = true ∧ x.length ≤ 1000 ∧ n ≤ m ∧ m ≤ x.length ∧
      ∀ s' t', St b s' cs → Q (.str ⟨((x.cps.toList.drop n).take (m - n)).toArray⟩ t') s') E s₂) E s₁) E s)
    (ht : ∀ o r, letTemporaryGo value o r = pure () := by intro _ _; rfl) :
    wpAny (model prog w) A (eval (.Subscript value (.Slice (some lo) (some hi) none p) pos) env) Q E s := by
  refine Subscript_Slice (wpAny_mono h (fun o s₁ h₁ => wpAny_Slice ?_) fun _ _ e => e) ht
  refine wpAny_mono h₁ (fun i s₂ h₂ => wpAny_mono h₂ (fun j s₃ h₃ => ?_) fun _ _ e => e) fun _ _ e => e
  obtain ⟨x, t, n, m, u, u', cs, d, rfl, rfl, rfl, H, hd, hd1, hz, hnm, hm, k⟩ := h₃
  refine wpAny_pure ?_
  refine slice_ss_ H hd hd1 hz fun s' t' H' => ?_
  rw [sl_mid hnm hm]
  exact k s' t' H'
end
end Mine
end
section
open PySem PySem.W PySem.Calls PyProof.Rows
set_option Elab.async false
set_option maxRecDepth 100000
set_option maxHeartbeats 4000000
namespace Mine
section
variable {prog : Program} {w : World} {A : Around} {E : Value → Shared → Prop} {b s : Shared} {cs : List Cell}
/-- max of a list of numbers -/
theorem max_ {l : Addr} {vs : List Value} {ns : List Int} {Q : Value → Shared → Prop} {d : Cell} (hh : A.handled = none) (H : St b s cs) (hm : Has (.p l (lstP vs)) cs) (hd : Has d cs) (hd1 : d.key.1 = true) (hi : IntsAre vs ns) (hne : 0 < ns.length)
    (k : ∀ s' M (t : Tok), St b s' cs → M ∈ ns → (∀ a, a ∈ ns → a ≤ M) → Q (.int M t) s') :
    wpAny (model prog w) A (call (.builtin "max") [.ref l]) Q E s := by
  have hl := H.list hm
  obtain ⟨xs, e⟩ := hi.allInts.items
  have hns : ns = xs.toList.map (·.1) := by
    rw [← hi.numsOf, ← nums_intItems, ← e]
  have hsz : 0 < xs.size := by
    have h3 := hne; rw [hns, List.length_map, Array.length_toList] at h3; exact h3
  rw [e] at hl
  refine max_intList hh hl hsz fun v h' tk hv hk => ?_
  obtain ⟨t, rfl⟩ := intItems_at hv
  obtain ⟨h1, h2⟩ := argBest_gt (numAt xs) (xs.size - 1)
  refine k _ _ t (H.ext hk hd hd1) ?_ fun a ha => ?_
  · rw [hns, numAt_eq]; exact getD_mem (by rw [List.length_map, Array.length_toList]; omega)
  · rw [hns] at ha
    obtain ⟨j, hj, rfl⟩ := mem_getD ha
    rw [List.length_map, Array.length_toList] at hj
    rw [← numAt_eq]; exact h2 j (by omega)
end
end Mine
end
section
open PySem PySem.W PySem.Calls PyProof.Rows
set_option Elab.async false
set_option maxRecDepth 100000
set_option maxHeartbeats 4000000
namespace Mine
theorem meets_pop (l : Addr) (items : Array Value) (c : Nat) (i : Int) (u : Tok) (k : Nat) (y : Value) (hf : Builtin.List.listFitsIndex i = true) (hi : seqIndex? i items.size = some k) (hy : items[k]? = some y) (hs : items.size ≤ sizeLine) :
    Meets (Builtin.«list.pop» ⟨[.ref l, .int i u], []⟩)
      (fun _ R s => s.heap.get? l = some { cls := .type "list", dict := none, data := .seq items c, slots := #[] } ∧ R (.ok (.ret y)) { s with heap := s.heap.update l (Obj.mapSeq fun xs => xs.eraseIdxIfInBounds k) }) := by
  apply PySem.MeetsSeq.list_pop_at
  · exact hf
  · exact hi
  · exact hy
  · exact hs
section
variable {prog : Program} {w : World} {A : Around} {E : Value → Shared → Prop} {b s : Shared} {cs cs' : List Cell}
theorem popAt_i {l : Addr} {xs : List Value} {k : Nat} {i : Int} {u : Tok} {y : Value} {Q : Value → Shared → Prop} (H : St b s cs) (sb : Sub1 (.p l (lstP xs)) (.p l (lstP (xs.eraseIdx k))) cs cs') (hz : xs.length ≤ 1000) (hk : k < xs.length) (hy : xs[k]? = some y)
    (hf : Builtin.List.listFitsIndex i = true) (hi : seqIndex? i xs.toArray.size = some k) (h : ∀ s', St b s' cs' → Q y s') : wpAny (model prog w) A (call (.builtin "list.pop") [.ref l, .int i u]) Q E s := by
  obtain ⟨c, g⟩ := H.isList (Has.of sb.mem)
  have hz' : xs.toArray.size ≤ sizeLine := by rw [List.size_toArray]; exact Nat.le_trans hz (by decide)
  have hy' : xs.toArray[k]? = some y := by simpa using hy
  have M := meets_pop l xs.toArray c i u k y hf hi hy' hz'
  refine call_meets PySem.F.slot_list_pop ⟨_, g, rfl⟩ PySem.F.entry_list_pop (PySem.F.args_list_pop_2 _ _) M ⟨g, h _ (updList H sb g _ ?_)⟩
  simp [Array.eraseIdxIfInBounds, hk]
/-- l.pop(k) -/
theorem popAt_ {l : Addr} {xs : List Value} {k : Nat} {i : Int} {u : Tok} {y : Value} {Q : Value → Shared → Prop} (H : St b s cs) (sb : Sub1 (.p l (lstP xs)) (.p l (lstP (xs.eraseIdx k))) cs cs') (hz : xs.length ≤ 1000) (hk : k < xs.length) (hy : xs[k]? = some y)
    (hi : i = (k : Int)) (h : ∀ s', St b s' cs' → Q y s') : wpAny (model prog w) A (call (.builtin "list.pop") [.ref l, .int i u]) Q E s := by
  have hf : Builtin.List.listFitsIndex i = true := by subst hi; simp [Builtin.List.listFitsIndex]; omega
  have hi : seqIndex? i xs.toArray.size = some k := by subst hi; unfold seqIndex?; simp; omega
  exact popAt_i H sb hz hk hy hf hi h
end
end Mine
end
section
open PySem PySem.W PySem.Calls PyProof.Rows
set_option Elab.async false
set_option maxRecDepth 100000
set_option maxHeartbeats 4000000
namespace Mine
/-- a text of these letters -/
abbrev tx (l : List Nat) : Str := ⟨l.toArray⟩
theorem tx_len (l : List Nat) : (tx l).length = l.length := by show l.toArray.size = _; simp
theorem tx_cps (l : List Nat) : (tx l).cps.toList = l := rfl
theorem tx_add (l r : List Nat) : tx l ++ tx r = tx (l ++ r) := by
  show Str.append _ _ = _
  unfold Str.append
  simp
theorem tx_inj {l r : List Nat} (h : tx l = tx r) : l = r := by
  have := congrArg (fun x : Str => x.cps.toList) h
  simpa using this
theorem tx_eta (x : Str) : tx x.cps.toList = x := by cases x; simp
theorem tx_beq (l r : List Nat) : (tx l == tx r) = (l == r) := by
  rw [Bool.eq_iff_iff, beq_iff_eq, beq_iff_eq]
  exact ⟨tx_inj, fun h => h ▸ rfl⟩
section
variable {prog : Program} {w : World} {A : Around} {E : Value → Shared → Prop} {b s : Shared} {cs cs' : List Cell} {K : Frag} {env : Env} {L : Addr} {pos : Pos} {v : Value}
theorem bindL_all : ∀ (l : List (Str × Value)) (m : Str → Option Value), bindL (fun _ => some NameKind.local) l m = fun y => (l.reverse.lookup y).or (m y)
  | [], m => by funext y; rfl
  | (n, v) :: r, m => by
    unfold bindL
    rw [if_pos rfl, bindL_all r]
    funext y
    rw [List.reverse_cons, List.lookup_append]
    by_cases h : y = n
    · subst h
      rw [if_pos rfl]
      cases List.lookup y r.reverse <;> simp [List.lookup_cons]
    · have hb : (y == n) = false := by simpa using h
      rw [if_neg h]
      cases List.lookup y r.reverse <;> simp [List.lookup_cons, hb]
theorem bindL_loc {ns : List Str} {vs : List (Option Value)} (hnd : ns.Nodup) (hlen : ns.length = vs.length) : bindL (fun _ => some NameKind.local) (bindsOf ns vs) (fun _ => none) = locOf ns vs := by
  rw [bindL_all, ← loc_bindsOf ns vs hnd hlen]
  funext y
  cases List.lookup y (bindsOf ns vs).reverse <;> rfl
/-- a def with cell variables is entered; the cells written out -/
theorem enterC2 {R : Result → Shared → Prop} {fd : FuncData} {body : List Stmt} {f : Addr} {vals : List Value} {binds : List (Str × Value)} {nk : List (Str × NameKind)} (Fn : FnAt K f fd body) (hnk : fd.scope.names = nk) (ns : List Str) (vs : List (Option Value)) (cl : Nat → List (Str × Addr)) (cc : Nat → List Cell)
    (B : Base K b) (H : St b s cs) (hr : A.depth < recursionLimit) (hbind : bindArgs fd ⟨vals, []⟩ = pure binds)
    (hkind : ∀ n, (binds.all fun x => (nk.lookup x.1 == some NameKind.local) || ((nk.lookup x.1 == some NameKind.cell) && ((cellsFrom n nk []).lookup x.1).isSome)) = true) (hnd : ns.Nodup) (hlen : ns.length = vs.length) (hgen : fd.scope.isGenerator = false)
    (hL : bindL (fun x => nk.lookup x) binds (fun _ => none) = bindL (fun _ => some NameKind.local) (bindsOf ns vs) (fun _ => none)) (hcn : ∀ n, ((cellsFrom n nk []).map (·.1)).Nodup)
    (hcl : ∀ L, cellsFrom (L + 1) nk [] = cl L) (hcc : ∀ L, (cl L).map (fun p => Cell.p p.2 (CellP (bindC (fun x => nk.lookup x) binds (fun _ => none) p.1))) = cc L)
    (h : ∀ s' L env, EnvIs env L nk (cl L) → St b s' (.f L ns vs :: (cc L ++ cs)) →
      wpAny (model prog w) (A.deeper env) (execs body env) (fun fl s' => R (.ok (.ret (match fl with | .ret v => v | _ => .none))) s') (fun _ _ => False) s') :
    codeAny (model prog w) A (.call (.ref f) ⟨vals, []⟩) R s := by
  refine enterC Fn hnk ns vs _ B H hr hbind (fun n x hx => ?_) hnd hlen hgen (hL.trans (bindL_loc hnd hlen)) rfl hcn (fun s' L env V H' => h s' L env (hcl L ▸ V) ?_)
  · have := List.all_eq_true.mp (hkind n) x hx
    rw [Bool.or_eq_true, Bool.and_eq_true, beq_iff_eq, beq_iff_eq] at this
    exact this
  · rw [← hcc L, ← hcl L]
    exact H'
def lookC (look : Str → Option Addr) : List (Str × NameKind) → List (Str × Addr) → Option (List (Str × Addr))
  | [], acc => some acc
  | (n, k) :: r, acc => if k == .free then match look n with | some a => lookC look r ((n, a) :: acc) | none => none else lookC look r acc
theorem closure_of {scope : Scope} {nk : List (Str × NameKind)} {cl cl0 : List (Str × Addr)} (V : EnvIs env L nk cl0) (h : lookC (fun x => cl0.lookup x) scope.names [] = some cl) : closureFor scope env = pure cl := by
  have go : ∀ (names : List (Str × NameKind)) (acc : List (Str × Addr)), lookC (fun x => cl0.lookup x) names acc = some cl →
      (forIn names acc fun (x : Str × NameKind) (cs : List (Str × Addr)) => (if x.2 == .free then (do let a ← cellOf env x.1; pure (ForInStep.yield ((x.1, a) :: cs))) else pure (ForInStep.yield cs) : Sem _)) = pure cl := by
    intro names
    induction names with
    | nil => intro acc h; cases h; rfl
    | cons p r ih =>
      obtain ⟨n, k⟩ := p
      intro acc h
      rw [List.forIn_cons]
      unfold lookC at h
      by_cases hk : (k == NameKind.free) = true
      · rw [if_pos hk] at h
        dsimp only at h ⊢
        rw [if_pos hk]
        cases hc : cl0.lookup n with
        | none => rw [hc] at h; cases h
        | some a =>
          rw [hc] at h
          have e : cellOf env n = pure a := by unfold cellOf; rw [V.cells, hc]
          rw [e, pure_bind, pure_bind]
          exact ih _ h
      · rw [if_neg hk] at h
        dsimp only
        rw [if_neg hk, pure_bind]
        exact ih _ h
  have := go scope.names [] h
  unfold closureFor
  exact (congrArg (fun m : Sem (List (Str × Addr)) => m >>= fun r => pure r) this).trans (pure_bind _ _)
/-- the names of a block whose frame may be another's -/
structure EnvK (env : Env) (L : Addr) (names : List (Str × NameKind)) (cells : List (Str × Addr)) : Prop where
  loc : env.locals = L
  names : env.scope.names = names
  kind : env.scope.kind = .function
  globals : env.globals = mainGlobals
  builtins : env.builtins = builtinsNs
  cells : env.cells = cells
theorem EnvIs.toK {nk cl} (V : EnvIs env L nk cl) : EnvK env L nk cl := ⟨V.loc, V.names, V.kind, V.globals, V.builtins, V.cells⟩
theorem EnvK.kindOf {nk cl} (V : EnvK env L nk cl) {x : Str} {k : NameKind} (h : nk.lookup x = some k) : env.kindOf x = some k := by
  unfold Env.kindOf; rw [V.names]; exact h
theorem EnvK.comp {scope : Scope} {nk nk2 : List (Str × NameKind)} {cl cl0 : List (Str × Addr)} {C : Addr} (V : EnvK env L nk cl0) (hk : scope.kind = .function)
    (hn : scope.names.map (fun p => if (p.2 == NameKind.free && (nk.lookup p.1 == some NameKind.cell)) = true then (p.1, NameKind.cell) else p) = nk2) : EnvK (compEnvC scope cl C env) C nk2 cl := by
  refine ⟨rfl, ?_, hk, V.globals, V.builtins, rfl⟩
  rw [← hn]
  show (scope.names.map _) = _
  refine List.map_congr_left fun p _ => ?_
  obtain ⟨n, k⟩ := p
  have e : env.kindOf n = nk.lookup n := by unfold Env.kindOf; rw [V.names]
  dsimp only
  rw [V.kind, e]
  simp
section
variable {ns : List Str} {vs vs' : List (Option Value)} {x : Str} {nk : List (Str × NameKind)} {cl : List (Str × Addr)}
theorem nmK {Q : Value → Shared → Prop} (V : EnvK env L nk cl) (H : St b s cs) (hf : Has (.f L ns vs) cs) (hv : At ns vs x (some v)) (hl : nk.lookup x = some .local) (hd : (x == ("__debug__" : Str)) = false) (h : Q v s) :
    wpAny (model prog w) A (eval (.Name x pos) env) Q E s :=
  wpAny_Name (wpAny_loadName_local V.kind (V.kindOf hl) (V.loc ▸ (H.fr hf.mem).ns) (hv.loc (H.nodup hf.mem)) h) hd
theorem stK {Q : Unit → Shared → Prop} (V : EnvK env L nk cl) (H : St b s cs) (hl : nk.lookup x = some .local) (u : Sub1 (.f L ns vs) (.f L ns vs') cs cs') (hv : PutAt ns vs x (some v) vs')
    (h : ∀ s', St b s' cs' → Q () s') :
    wpAny (model prog w) A (storeName env x v) Q E s := by
  have hm := u.mem
  have F := H.fr hm
  refine wpAny_storeName_local (V.kindOf hl) (V.loc.symm ▸ F.ns) (fun h' hn hs => ?_) (by rw [V.kind]; rfl)
  rw [V.loc] at hn hs
  refine h _ (H.change (t := s.toks + 1) u rfl rfl F.above hs ⟨?_, H.nodup hm, ?_, F.above⟩)
  · have e : locOf ns vs' = fun y => if y = x then some v else locOf ns vs y := funext fun y => hv.loc (H.nodup hm) y
    rw [e]; exact hn
  · rw [hv.length]; exact (H.sat _ hm).2.2.1
theorem globK {Q : Value → Shared → Prop} (B : Base K b) (V : EnvK env L nk cl) (H : St b s cs) (hx : nk.lookup x = some .globalImplicit) (e : nsIn K mainGlobals x = some (some v)) (hd : (x == ("__debug__" : Str)) = false) (h : Q v s) :
    wpAny (model prog w) A (eval (.Name x pos) env) Q E s :=
  let ⟨_, _, _, _, T⟩ := B.T
  have X := B.X
  Name_function_global V.kind (V.kindOf hx) (loadGlobal_global (env := env) (V.globals.symm ▸ T.g.keeps H.keep) (mg_of X T.g e) h) hd
theorem builtinK {Q : Value → Shared → Prop} (B : Base K b) (V : EnvK env L nk cl) (H : St b s cs) (hx : nk.lookup x = some .globalImplicit) (e : nsIn K mainGlobals x = some none) (hv : bootBuiltins x = some v) (hn : x ≠ "__name__") (hd : (x == ("__debug__" : Str)) = false) (h : Q v s) :
    wpAny (model prog w) A (eval (.Name x pos) env) Q E s :=
  let ⟨_, _, _, _, T⟩ := B.T
  have X := B.X
  Name_function_global V.kind (V.kindOf hx) (loadGlobal_builtin (env := env) (V.globals.symm ▸ T.g.keeps H.keep) (mg_none_of X T.g e) (V.builtins.symm ▸ T.b.keeps H.keep) ((T.builtins x hn).trans hv) h) hd
theorem nmCK {c : Addr} {Q : Value → Shared → Prop} (V : EnvK env L nk cl) (H : St b s cs) (hl : nk.lookup x = some .cell) (hc : cl.lookup x = some c) (hm : Has (.p c (CellP (some v))) cs) (hd : (x == ("__debug__" : Str)) = false) (h : Q v s) :
    wpAny (model prog w) A (eval (.Name x pos) env) Q E s := by
  obtain ⟨⟨o, ho, h2⟩, _⟩ := H.sat _ hm.mem
  exact wpAny_Name (wpAny_loadName_cell V.kind (V.kindOf hl) (by rw [V.cells]; exact hc) ⟨o, ho, h2⟩ h) hd
/-- a letter of a text -/
theorem item_tx {t : List Nat} {tk u : Tok} {k c : Nat} {Q : Value → Shared → Prop} (hk : t[k]? = some c) (hz : k < 1000) (h : ∀ u s', s' = { s with toks := s.toks + 1 } → Q (.str (tx [c]) u) s') :
    wpAny (model prog w) A (getItem (.str (tx t) tk) (.int (k : Int) u)) Q E s := by
  refine PySem.P.getItem_str (c := c) ?_ ?_ (h _ _ rfl)
  · simp; omega
  · have hl : k < t.length := by
      rw [List.getElem?_eq_some_iff] at hk; exact hk.1
    unfold seqIndex?
    rw [tx_len]
    have h1 : ¬ ((k : Int) < 0) := by omega
    have h2 : (0 ≤ (k : Int)) ∧ (k : Int) < (t.length : Int) := ⟨by omega, by omega⟩
    simp only [if_neg h1]
    rw [List.getElem?_eq_getElem hl] at hk
    simp [hl]
    exact Option.some.inj hk
end
end
end Mine
end
section
open PySem PySem.W PySem.Calls PyProof.Rows
set_option Elab.async false
set_option maxRecDepth 100000
set_option maxHeartbeats 4000000
namespace Mine
section
variable {prog : Program} {w : World} {A : Around} {E : Value → Shared → Prop} {b s : Shared} {cs : List Cell} {env : Env} {pos p : Pos} {Q : Value → Shared → Prop}
theorem len_tx {l : List Nat} {t : Tok} (H : St b s cs) (hz : l.length ≤ 1000) (k : ∀ s' u, St b s' cs → Q (.int l.length u) s') : wpAny (model prog w) A (call (.builtin "len") [.str (tx l) t]) Q E s := by
  refine PyProof.Rows.len_str (by rw [tx_len]; omega) ?_
  rw [tx_len]
  exact k _ _ H.toks
theorem eq_tx {l r : List Nat} {t u : Tok} (h : Q (.bool (l == r)) s) : wpAny (model prog w) A (compareOp .Eq (.str (tx l) t) (.str (tx r) u)) Q E s :=
  PyProof.Rows.eq_str (by rw [tx_beq]; exact h)
theorem ne_tx {l r : List Nat} {t u : Tok} (h : Q (.bool (l != r)) s) : wpAny (model prog w) A (compareOp .NotEq (.str (tx l) t) (.str (tx r) u)) Q E s :=
  PyProof.Rows.ne_str (by show Q (.bool (!(tx l == tx r))) s; rw [tx_beq]; exact h)
theorem add_tx {l r : List Nat} {t u : Tok} (H : St b s cs) (hz : l.length + r.length ≤ 1000) (k : ∀ s' v, St b s' cs → Q (.str (tx (l ++ r)) v) s') : wpAny (model prog w) A (binaryOp .Add (.str (tx l) t) (.str (tx r) u)) Q E s :=
  PyProof.Rows.add_str (fun t' tk => by rw [tx_add]; exact k _ _ H.toks) (by rw [tx_len, tx_len]; exact Nat.le_trans hz (by decide))
theorem sub_n {a c : Int} {t u : Tok} (H : St b s cs) (k : ∀ s' v, St b s' cs → Q (.int (a - c) v) s') : wpAny (model prog w) A (binaryOp .Sub (.int a t) (.int c u)) Q E s := PyProof.Rows.sub_int (k _ _ H.toks)
theorem add_n {a c : Int} {t u : Tok} (H : St b s cs) (k : ∀ s' v, St b s' cs → Q (.int (a + c) v) s') : wpAny (model prog w) A (binaryOp .Add (.int a t) (.int c u)) Q E s := PyProof.Rows.add_int (k _ _ H.toks)
theorem mod_n {a c : Int} {t u : Tok} (H : St b s cs) (hc : c ≠ 0) (k : ∀ s' v, St b s' cs → Q (.int (a.fmod c) v) s') : wpAny (model prog w) A (binaryOp .Mod (.int a t) (.int c u)) Q E s := PyProof.Rows.mod_int hc (k _ _ H.toks)
/-- text[k] -/
theorem at_tx {l : List Nat} {t u : Tok} {z : Int} {k c : Nat} {value slice : Expr} (H : St b s cs) (hz : z = (k : Int)) (hk : l[k]? = some c) (hl : k < 1000) (h : ∀ s' u, St b s' cs → Q (.str (tx [c]) u) s')
    (hs : subscripted slice false (.str (tx l) t) (.int z u) = operate [.str (tx l) t, .int z u] (getItem (.str (tx l) t) (.int z u)) := by with_unfolding_all rfl) (hg : ∀ r, letTemporaryGo value (.str (tx l) t) r = pure () := by intro _; with_unfolding_all rfl) :
    wpAny (model prog w) A (subscriptTail value slice (.str (tx l) t) (.int z u)) Q E s := by
  subst hz
  refine subscriptTail_builtin (typeIs_str s (tx l) t) PySem.F.slot_str_getitem.lookup (item_tx hk hl ?_) hs hg
  rintro u s' rfl
  exact h _ _ H.toks
/-- l[k], l[-1] -/
theorem at_lst {l : Addr} {xs : List Value} {u : Tok} {z : Int} {k : Nat} {x : Value} {value slice : Expr} (H : St b s cs) (hm : Has (.p l (lstP xs)) cs) (hz : z = (k : Int)) (hk : xs[k]? = some x) (hl : k < 1000) (h : Q x s)
    (hs : subscripted slice false (.ref l) (.int z u) = operate [.ref l, .int z u] (getItem (.ref l) (.int z u)) := by with_unfolding_all rfl) (hg : ∀ r, letTemporaryGo value (.ref l) r = pure () := by intro _; with_unfolding_all rfl) :
    wpAny (model prog w) A (subscriptTail value slice (.ref l) (.int z u)) Q E s := by
  subst hz
  have hl' := H.list hm
  exact subscriptTail_builtin hl'.typeIs PySem.F.slot_list_getitem.lookup (wpAny_getItem_list hl' (by omega) (by omega) (by simpa using hk) h) hs hg
theorem at_last {l : Addr} {xs : List Value} {u : Tok} {y : Value} {value slice : Expr} (H : St b s cs) (hm : Has (.p l (lstP (xs ++ [y]))) cs) (h : Q y s)
    (hs : subscripted slice false (.ref l) (.int (-1) u) = operate [.ref l, .int (-1) u] (getItem (.ref l) (.int (-1) u)) := by with_unfolding_all rfl) (hg : ∀ r, letTemporaryGo value (.ref l) r = pure () := by intro _; with_unfolding_all rfl) :
    wpAny (model prog w) A (subscriptTail value slice (.ref l) (.int (-1) u)) Q E s :=
  subscriptTail_builtin (H.list hm).typeIs PySem.F.slot_list_getitem.lookup (last_ H hm h) hs hg
/-- text[i:] -/
theorem sub_from_ {value lo : Expr} (b : Shared) 
    (h : wpAny (model prog w) A (eval value env) (fun o s₁ => wpAny (model prog w) A (eval lo env) (fun i s₂ => ∃ (l : List Nat) (t : Tok) (z : Int) (u : Tok) (n : Nat) (cs : List Cell) (d : Cell), o = .str (tx l) t ∧ i = .int z u ∧ St b s₂ cs ∧ Has d cs ∧ d.key.1 = true ∧ l.length ≤ 1000 ∧ z = (n : Int) ∧ n ≤ l.length ∧
      ∀ s' t', St b s' cs → Q (.str (tx (l.drop n)) t') s') E s₁) E s)
    (ht : ∀ o r, letTemporaryGo value o r = pure () := by intro _ _; rfl) :
    wpAny (model prog w) A (eval (.Subscript value (.Slice (some lo) none none p) pos) env) Q E s := by
  refine sub_from (b := b) (wpAny_mono h (fun o s₁ h₁ => wpAny_mono h₁ (fun i s₂ h₂ => ?_) fun _ _ e => e) fun _ _ e => e) ht
  obtain ⟨l, t, z, u, n, cs, d, rfl, rfl, H, hd, hd1, hz, rfl, hn, k⟩ := h₂
  exact ⟨tx l, t, n, u, cs, d, rfl, rfl, H, hd, hd1, by rw [tx_len]; exact hz, by rw [tx_len]; exact hn, k⟩
theorem sub_to_ {value hi : Expr} (b : Shared)
    (h : wpAny (model prog w) A (eval value env) (fun o s₁ => wpAny (model prog w) A (eval hi env) (fun i s₂ => ∃ (l : List Nat) (t : Tok) (z : Int) (u : Tok) (n : Nat) (cs : List Cell) (d : Cell), o = .str (tx l) t ∧ i = .int z u ∧ St b s₂ cs ∧ Has d cs ∧ d.key.1 = true ∧ l.length ≤ 1000 ∧ z = (n : Int) ∧ n ≤ l.length ∧
      ∀ s' t', St b s' cs → Q (.str (tx (l.take n)) t') s') E s₁) E s)
    (ht : ∀ o r, letTemporaryGo value o r = pure () := by intro _ _; rfl) :
    wpAny (model prog w) A (eval (.Subscript value (.Slice none (some hi) none p) pos) env) Q E s := by
  refine sub_to (b := b) (wpAny_mono h (fun o s₁ h₁ => wpAny_mono h₁ (fun i s₂ h₂ => ?_) fun _ _ e => e) fun _ _ e => e) ht
  obtain ⟨l, t, z, u, n, cs, d, rfl, rfl, H, hd, hd1, hz, rfl, hn, k⟩ := h₂
  exact ⟨tx l, t, n, u, cs, d, rfl, rfl, H, hd, hd1, by rw [tx_len]; exact hz, by rw [tx_len]; exact hn, k⟩
theorem sub_mid_ {value lo hi : Expr} (b : Shared)
    (h : wpAny (model prog w) A (eval value env) (fun o s₁ => wpAny (model prog w) A (eval lo env) (fun i s₂ => wpAny (model prog w) A (eval hi env) (fun j s₃ => ∃ (l : List Nat) (t : Tok) (z y : Int) (u u' : Tok) (n m : Nat) (cs : List Cell) (d : Cell), o = .str (tx l) t ∧ i = .int z u ∧ j = .int y u' ∧ St b s₃ cs ∧ Has d cs ∧ d.key.1 = true ∧ l.length ≤ 1000 ∧ z = (n : Int) ∧ y = (m : Int) ∧ n ≤ m ∧ m ≤ l.length ∧
      ∀ s' t', St b s' cs → Q (.str (tx ((l.drop n).take (m - n))) t') s') E s₂) E s₁) E s)
    (ht : ∀ o r, letTemporaryGo value o r = pure () := by intro _ _; rfl) :
    wpAny (model prog w) A (eval (.Subscript value (.Slice (some lo) (some hi) none p) pos) env) Q E s := by
  refine sub_mid (b := b) (wpAny_mono h (fun o s₁ h₁ => wpAny_mono h₁ (fun i s₂ h₂ => wpAny_mono h₂ (fun j s₃ h₃ => ?_) fun _ _ e => e) fun _ _ e => e) fun _ _ e => e) ht
  obtain ⟨l, t, z, y, u, u', n, m, cs, d, rfl, rfl, rfl, H, hd, hd1, hz, rfl, rfl, hnm, hm, k⟩ := h₃
  exact ⟨tx l, t, n, m, u, u', cs, d, rfl, rfl, rfl, H, hd, hd1, by rw [tx_len]; exact hz, hnm, by rw [tx_len]; exact hm, k⟩
end
end Mine
end
section
open PySem PySem.W PySem.Calls PyProof.Rows
set_option Elab.async false
set_option maxRecDepth 100000
set_option maxHeartbeats 4000000
namespace Mine
/-- a dict whose keys are texts -/
abbrev dctP (prog : Program) (w : World) (kvs : List (Str × Value)) (o : Obj) : Prop := o.IsDictOf (PySem.strKind prog w) kvs
section
variable {prog : Program} {w : World} {A : Around} {E : Value → Shared → Prop} {b s : Shared} {cs cs' : List Cell} {K : Frag} {env : Env} {pos p : Pos} {Q : Value → Shared → Prop} {d : Addr} {kvs : List (Str × Value)} {k : Str} {tk : Tok} {v : Value}
theorem St.dct (H : St b s cs) (h : Has (.p d (dctP prog w kvs)) cs) : s.heap.DictOf (PySem.strKind prog w) d kvs := by
  obtain ⟨⟨o, ho, hp⟩, _⟩ := H.sat _ h.mem
  exact Heap.dictOf_iff.mpr ⟨o, ho, hp⟩
theorem St.noMods (B : Base K b) (H : St b s cs) {P : Obj → Prop} (h : Has (.p d P) cs) : (d == sysModules) = false := by
  have hb := (H.sat _ h.mem).2
  have := B.low
  have hne : d ≠ sysModules := fun e => by
    have e' : d = (1 : Nat) := e
    have h1 : (b.heap.objs.size : Nat) ≤ (d : Nat) := hb
    rw [e'] at h1
    exact absurd (Nat.lt_of_lt_of_le this h1) (by decide)
  simpa using hne
theorem newDct (H : St b s cs) (h : ∀ s' d, St b s' (.p d (dctP prog w []) :: cs) → Q (.ref d) s') : wpAny (model prog w) A (eval (.Dict [] [] pos) env) Q E s := by
  refine wpAny_Dict_empty (h _ _ ?_)
  have hn := Heap.DictOf.new (knd := PySem.strKind prog w) s.heap
  obtain ⟨o, ho, hp⟩ := Heap.dictOf_iff.mp hn
  exact H.newP (t := s.toks) (fun a o q => Heap.get?_push_of_some _ q) (Nat.le_refl _) ho hp
theorem notin_dct (B : Base K b) (H : St b s cs) (h : Has (.p d (dctP prog w kvs)) cs) (k' : ∀ s', St b s' cs → Q (.bool (!(valueAt kvs k).isSome)) s') : wpAny (model prog w) A (compareOp .NotIn (.str k tk) (.ref d)) Q E s :=
  wpAny_notIn_of (strKind_is prog w k tk) (H.noMods B h) (H.dct h).mapOf (k' _ H.toks)
theorem at_dct {value slice : Expr} (H : St b s cs) (h : Has (.p d (dctP prog w kvs)) cs) (hv : valueAt kvs k = some v) (k' : ∀ s', St b s' cs → Q v s')
    (hs : subscripted slice false (.ref d) (.str k tk) = operate [.ref d, .str k tk] (getItem (.ref d) (.str k tk)) := by with_unfolding_all rfl) (hg : ∀ r, letTemporaryGo value (.ref d) r = pure () := by intro _; with_unfolding_all rfl) :
    wpAny (model prog w) A (subscriptTail value slice (.ref d) (.str k tk)) Q E s :=
  subscriptTail_builtin (H.dct h).typeIs PySem.F.slot_dict_getitem.lookup (wpAny_getItem_of (strKind_is prog w k tk) (H.dct h).mapOf hv (k' _ H.toks)) hs hg
theorem set_dct {Q : Unit → Shared → Prop} (H : St b s cs) (u : Sub1 (.p d (dctP prog w kvs)) (.p d (dctP prog w (stored kvs k v))) cs cs') (hz : kvs.length ≤ 1000) (k' : ∀ s', St b s' cs' → Q () s') :
    wpAny (model prog w) A (setItem (.ref d) (.str k tk) v) Q E s := by
  have hm := H.dct (Has.of u.mem)
  have hb := (H.sat _ u.mem).2
  refine wpAny_setItem_pairs (strKind_is prog w k tk) hm (fun h' hd' hsb => k' _ ?_) (Nat.le_trans hz (by decide))
  obtain ⟨o, ho, hp⟩ := Heap.dictOf_iff.mp hd'
  exact H.change (t := s.toks + 1) u rfl rfl hb hsb ⟨⟨o, ho, hp⟩, hb⟩
theorem len_dct (B : Base K b) (H : St b s cs) (h : Has (.p d (dctP prog w kvs)) cs) (hz : kvs.length ≤ 1000) (k' : ∀ s' t, St b s' cs → Q (.int kvs.length t) s') : wpAny (model prog w) A (call (.builtin "len") [.ref d]) Q E s :=
  PySem.call_len_dict (H.noMods B h) (H.dct h) (by omega) (k' _ _ H.toks)
end
theorem pick_to (items : List Value) (n : Nat) : slicePick items.toArray none (some (n : Int)) none = (items.take n).toArray := slicePick_upto' _ _
theorem pick_from (items : List Value) (n : Nat) : slicePick items.toArray (some (n : Int)) none none = (items.drop n).toArray := slicePick_from' _ _
section
variable {prog : Program} {w : World} {A : Around} {E : Value → Shared → Prop} {b s : Shared} {cs cs' : List Cell} {K : Frag} {env : Env} {pos p : Pos} {Q : Value → Shared → Prop}
/-- a list's slices -/
theorem St.two {o1 : Obj} {xs : List Value} (H : St b s cs) : St b { s with heap := (s.heap.push o1).push { cls := .type "list", data := .seq xs.toArray } } (.p (s.heap.objs.size + 1) (lstP xs) :: cs) := by
  refine H.newP (t := s.toks) (o := { cls := .type "list", data := .seq xs.toArray }) (fun x y q => Heap.get?_push_of_some _ (Heap.get?_push_of_some _ q)) (Nat.le_succ _) ?_ ⟨_, rfl⟩
  rw [← Heap.size_push (h := s.heap) (o := o1)]
  exact Heap.get?_push_size _ rfl
theorem lsub_to {value hi : Expr}
    (h : wpAny (model prog w) A (eval value env) (fun o s₁ => wpAny (model prog w) A (eval hi env) (fun i s₂ => ∃ (l : Addr) (vs : List Value) (z : Int) (u : Tok) (n : Nat) (cs : List Cell), o = .ref l ∧ s₂.heap.IsList l vs.toArray ∧ i = .int z u ∧ St b s₂ cs ∧ vs.length ≤ 1000 ∧ z = (n : Int) ∧
      ∀ s' l', St b s' (.p l' (lstP (vs.take n)) :: cs) → Q (.ref l') s') E s₁) E s)
    (ht : ∀ o r, letTemporaryGo value o r = pure () := by intro _ _; rfl) :
    wpAny (model prog w) A (eval (.Subscript value (.Slice none (some hi) none p) pos) env) Q E s := by
  refine wpAny_Subscript_list_slice (wpAny_mono h (fun o s₁ h₁ => ?_) fun _ _ e => e) ht
  rw [evalPart_none]
  refine wpAny_pure (wpAny_mono h₁ (fun i s₂ h₂ => ?_) fun _ _ e => e)
  obtain ⟨l, vs, z, u, n, cs, rfl, hl, rfl, H, hz, rfl, k⟩ := h₂
  refine ⟨l, vs.toArray, none, some (n : Int), rfl, hl, by rw [List.size_toArray]; exact Nat.le_trans hz (by decide), .none, .int _ _, k _ _ ?_⟩
  rw [pick_to]
  exact H.two (o1 := { cls := .type "slice", data := .fields #[.none, .int n u, .none] })
theorem lsub_from {value lo : Expr}
    (h : wpAny (model prog w) A (eval value env) (fun o s₁ => wpAny (model prog w) A (eval lo env) (fun i s₂ => ∃ (l : Addr) (vs : List Value) (z : Int) (u : Tok) (n : Nat) (cs : List Cell), o = .ref l ∧ s₂.heap.IsList l vs.toArray ∧ i = .int z u ∧ St b s₂ cs ∧ vs.length ≤ 1000 ∧ z = (n : Int) ∧
      ∀ s' l', St b s' (.p l' (lstP (vs.drop n)) :: cs) → Q (.ref l') s') E s₁) E s)
    (ht : ∀ o r, letTemporaryGo value o r = pure () := by intro _ _; rfl) :
    wpAny (model prog w) A (eval (.Subscript value (.Slice (some lo) none none p) pos) env) Q E s := by
  refine wpAny_Subscript_list_slice (wpAny_mono h (fun o s₁ h₁ => ?_) fun _ _ e => e) ht
  refine wpAny_mono h₁ (fun i s₂ h₂ => ?_) fun _ _ e => e
  rw [evalPart_none]
  refine wpAny_pure ?_
  obtain ⟨l, vs, z, u, n, cs, rfl, hl, rfl, H, hz, rfl, k⟩ := h₂
  refine ⟨l, vs.toArray, some (n : Int), none, rfl, hl, by rw [List.size_toArray]; exact Nat.le_trans hz (by decide), .int _ _, .none, k _ _ ?_⟩
  rw [pick_from]
  exact H.two (o1 := { cls := .type "slice", data := .fields #[.int n u, .none, .none] })
end
end Mine
end
section
open PySem PySem.W PySem.Calls PyProof.Rows
set_option Elab.async false
set_option maxRecDepth 100000
set_option maxHeartbeats 4000000
namespace Mine
theorem noPylong {a c : Int} (hc : c.natAbs < 2 ^ 200) : Builtin.divisionGoesByPylong a c = false := by
  unfold Builtin.divisionGoesByPylong
  have : ¬ ((if (c == 0) = true then 0 else c.natAbs.log2 / 30 + 1) > 300) := by
    by_cases h0 : (c == 0) = true
    · rw [if_pos h0]; omega
    · rw [if_neg h0]
      have hne : c.natAbs ≠ 0 := by simpa using h0
      have := (Nat.log2_lt hne).mpr hc
      omega
  simp only [this, decide_false, Bool.false_and]
theorem IntsAre.len : ∀ {vs : List Value} {ns : List Int}, IntsAre vs ns → vs.length = ns.length
  | _, _, .nil => rfl
  | _, _, .cons _ _ h => congrArg (· + 1) (IntsAre.len h)
theorem IntsAre.at_ : ∀ {vs : List Value} {ns : List Int} {i : Nat} {z : Int}, IntsAre vs ns → ns[i]? = some z → ∃ t, vs[i]? = some (.int z t)
  | _, _, _, _, .nil, h => by simp at h
  | _, _, 0, _, .cons n t _, h => ⟨t, by simpa using h⟩
  | _, _, i + 1, _, .cons n t h', h => by
    obtain ⟨t', e⟩ := IntsAre.at_ (i := i) h' (by simpa using h)
    exact ⟨t', by simpa using e⟩
/-- a list of texts -/
inductive TxAre : List Value → List (List Nat) → Prop
  | nil : TxAre [] []
  | cons (n : List Nat) (t : Tok) {vs ns} : TxAre vs ns → TxAre (.str (tx n) t :: vs) (n :: ns)
theorem TxAre.len : ∀ {vs : List Value} {ns : List (List Nat)}, TxAre vs ns → vs.length = ns.length
  | _, _, .nil => rfl
  | _, _, .cons _ _ h => congrArg (· + 1) (TxAre.len h)
theorem TxAre.at_ : ∀ {vs : List Value} {ns : List (List Nat)} {i : Nat} {z : List Nat}, TxAre vs ns → ns[i]? = some z → ∃ t, vs[i]? = some (.str (tx z) t)
  | _, _, _, _, .nil, h => by simp at h
  | _, _, 0, _, .cons n t _, h => ⟨t, by simpa using h⟩
  | _, _, i + 1, _, .cons n t h', h => by
    obtain ⟨t', e⟩ := TxAre.at_ (i := i) h' (by simpa using h)
    exact ⟨t', by simpa using e⟩
theorem TxAre.append : ∀ {vs us : List Value} {ns ms : List (List Nat)}, TxAre vs ns → TxAre us ms → TxAre (vs ++ us) (ns ++ ms)
  | _, _, _, _, .nil, h => h
  | _, _, _, _, .cons n t h', h => .cons n t (TxAre.append h' h)
theorem TxAre.erase : ∀ {vs : List Value} {ns : List (List Nat)} (i : Nat), TxAre vs ns → TxAre (vs.eraseIdx i) (ns.eraseIdx i)
  | _, _, _, .nil => .nil
  | _, _, 0, .cons n t h => h
  | _, _, i + 1, .cons n t h => .cons n t (TxAre.erase i h)
theorem TxAre.strs : ∀ {vs : List Value} {ns : List (List Nat)}, TxAre vs ns → ∃ ps : List (Str × Tok), vs = strValues ps ∧ ps.map (·.1) = ns.map tx
  | _, _, .nil => ⟨[], rfl, rfl⟩
  | _, _, .cons n t h => by
    obtain ⟨ps, h1, h2⟩ := TxAre.strs h
    exact ⟨(tx n, t) :: ps, by rw [h1]; rfl, by rw [List.map_cons, List.map_cons, h2]⟩
section
variable {prog : Program} {w : World} {A : Around} {E : Value → Shared → Prop} {b s : Shared} {cs cs' : List Cell} {K : Frag} {env : Env} {pos p : Pos} {Q : Value → Shared → Prop}
theorem subTail {value slice : Expr} {o i : Value} {T id : String} (hT : s.TypeIs o T) (hl : typeLookup (.type T) "__getitem__" = pure (some (.builtin id))) (h : wpAny (model prog w) A (getItem o i) Q E s)
    (hs : subscripted slice false o i = operate [o, i] (getItem o i)) : wpAny (model prog w) A (subscriptTail value slice o i) Q E s := by
  unfold subscriptTail
  refine wpAny_bind ?_
  rw [getitemInPython_of_ne hT.not_modules]
  refine wpAny_bind (wpAny_specialOf hT hl ?_)
  have fin : wpAny (model prog w) A (subscripted slice false o i) (fun r s₃ => wpAny (model prog w) A (letTemporaryGo value o r >>= fun _ => pure r) Q E s₃) E s := by
    rw [hs]
    exact wpAny_operating (wpAny_mono h (fun r s₃ h₃ => wpAny_bind (wpAny_letTemporaryGo (wpAny_pure h₃))) fun _ _ x => x)
  first
    | exact wpAny_pure (wpAny_bind fin)
    | exact wpAny_bind (wpAny_pure (wpAny_bind fin))
    | exact wpAny_bind fin
theorem atl_ {l : Addr} {xs : List Value} {u : Tok} {z : Int} {k : Nat} {x : Value} {value slice : Expr} (H : St b s cs) (hm : Has (.p l (lstP xs)) cs) (hz : z = (k : Int)) (hk : xs[k]? = some x) (hl : k < 1000) (h : Q x s)
    (hs : subscripted slice false (.ref l) (.int z u) = operate [.ref l, .int z u] (getItem (.ref l) (.int z u)) := by with_unfolding_all rfl) :
    wpAny (model prog w) A (subscriptTail value slice (.ref l) (.int z u)) Q E s := by
  subst hz
  have hl' := H.list hm
  exact subTail hl'.typeIs PySem.F.slot_list_getitem.lookup (wpAny_getItem_list hl' (by omega) (by omega) (by simpa using hk) h) hs
theorem list_ {elts : List Expr} (h : wpAny (model prog w) A (spliced (backTo pos (starEach elts env))) (fun vs s₁ => vs.length ≤ 1000 ∧ ∃ cs, St b s₁ cs ∧ ∀ s' l, St b s' (.p l (lstP vs) :: cs) → Q (.ref l) s') E s) :
    wpAny (model prog w) A (eval (.List elts pos) env) Q E s := by
  refine wpAny_List_spliced (wpAny_mono h (fun vs s₁ ⟨h1, cs, H, hq⟩ => ⟨Nat.le_trans h1 (by decide), hq _ _ ?_⟩) fun _ _ z => z)
  exact H.newP (t := s₁.toks) (o := { cls := .type "list", data := .seq vs.toArray }) (fun x y q => Heap.get?_push_of_some _ q) (Nat.le_refl _) (Heap.get?_push_size _ rfl) ⟨_, rfl⟩
theorem len_lst {l : Addr} {xs : List Value} (H : St b s cs) (hm : Has (.p l (lstP xs)) cs) (hz : xs.length ≤ 1000) (k : ∀ s' t, St b s' cs → Q (.int xs.length t) s') : wpAny (model prog w) A (call (.builtin "len") [.ref l]) Q E s := by
  refine PySem.Calls.call_len_list (H.list hm) (by rw [List.size_toArray]; omega) ?_
  rw [List.size_toArray]
  exact k _ _ H.toks
theorem true_lst {Q : Bool → Shared → Prop} {l : Addr} {xs : List Value} (H : St b s cs) (hm : Has (.p l (lstP xs)) cs) (hz : xs.length ≤ 1000) (k : ∀ s', St b s' cs → Q (!xs.isEmpty) s') : wpAny (model prog w) A (truthy (.ref l)) Q E s := by
  refine wpAny_truthy_list (H.list hm) (by rw [List.size_toArray]; omega) ?_
  have e : xs.toArray.isEmpty = xs.isEmpty := by simp
  rw [e]
  exact k _ H.toks
theorem fdiv_n {a c : Int} {t u : Tok} (H : St b s cs) (hc : c ≠ 0) (hz : c.natAbs < 2 ^ 200) (k : ∀ s' v, St b s' cs → Q (.int (a.fdiv c) v) s') : wpAny (model prog w) A (binaryOp .FloorDiv (.int a t) (.int c u)) Q E s :=
  PyProof.Rows.floordiv_int hc (k _ _ H.toks) (.inl (noPylong hz))
theorem ifdiv_n {a c : Int} {t u : Tok} (H : St b s cs) (hc : c ≠ 0) (hz : c.natAbs < 2 ^ 200) (k : ∀ s' v, St b s' cs → Q (.int (a.fdiv c) v) s') : wpAny (model prog w) A (inplaceOp .FloorDiv (.int a t) (.int c u)) Q E s :=
  PyProof.Rows.ifloordiv_int hc (k _ _ H.toks) (.inl (noPylong hz))
theorem pow_n {a : Int} {n : Nat} {z : Int} {t u : Tok} (H : St b s cs) (hn : z = (n : Int)) (ha : a.natAbs < 2 ^ 16) (hz : n ≤ 1000) (k : ∀ s' v, St b s' cs → Q (.int (a ^ n) v) s') : wpAny (model prog w) A (binaryOp .Pow (.int a t) (.int z u)) Q E s := by
  subst hn
  refine PyProof.Rows.pow_int (by omega) ?_ (by rw [Int.toNat_natCast]; exact k _ _ H.toks)
  have : Builtin.Int.intBits a ≤ 17 := by
    unfold Builtin.Int.intBits
    split
    · omega
    · rename_i h
      have := (Nat.log2_lt (n := a.natAbs) (k := 16) (by simpa using h)).mpr ha
      omega
  have h2 : (Builtin.Int.intBits a : Int) * (n : Int) ≤ 17 * 1000 := by
    have : Builtin.Int.intBits a * n ≤ 17 * 1000 := Nat.mul_le_mul this hz
    exact_mod_cast this
  omega
theorem iadd_tx {l r : List Nat} {t u : Tok} (H : St b s cs) (hz : l.length + r.length ≤ 1000) (k : ∀ s' v, St b s' cs → Q (.str (tx (l ++ r)) v) s') : wpAny (model prog w) A (inplaceOp .Add (.str (tx l) t) (.str (tx r) u)) Q E s :=
  PyProof.Rows.iadd_str (fun t' tk => by rw [tx_add]; exact k _ _ H.toks) (by rw [tx_len, tx_len]; exact Nat.le_trans hz (by decide))
end
end Mine
end
section
open PySem PySem.W PySem.Calls PyProof.Rows
set_option Elab.async false
set_option maxRecDepth 100000
set_option maxHeartbeats 4000000
namespace Mine
/-- a part of a body: the statements behind the n-th, the body of the n-th and so on -/
def nav : List Nat → List Stmt → List Stmt
  | [], b => b
  | [n], b => b.drop n
  | n :: m :: r, b => match b.drop n with
    | .For _ _ body _ _ :: _ => nav (m :: r) body
    | .If _ body _ _ :: _ => nav (m :: r) body
    | .While _ body _ _ :: _ => nav (m :: r) body
    | _ => []
theorem FnAt.body_eq {K : Frag} {f : Addr} {fd fd' : FuncData} {body body' : List Stmt} (h1 : FnAt K f fd body) (h2 : FnAt K f fd' body') : body = body' := by
  obtain ⟨a, b, c, e1⟩ := h1.look
  obtain ⟨a', b', c', e2⟩ := h2.look
  rw [e1] at e2
  injection e2 with e2
  injection e2 with _ _ e2 _
  injection e2 with e2
  subst e2
  have := h1.body.symm.trans h2.body
  injection this
section
variable {prog : Program} {w : World} {A : Around} {E : Value → Shared → Prop} {b s : Shared} {cs cs' : List Cell} {K : Frag} {env : Env} {pos p : Pos} {Q : Value → Shared → Prop}
theorem fs1 {L : Addr} {nk cl} {ns vs} (V : EnvIs env L nk cl) (hF : A.frames = some []) (h : .f L ns vs ∈ cs) : Fs (A.deeper env) cs := by
  refine ⟨[env], ?_, fun e he => ?_⟩
  · show pushEnvs [env] A.frames = _
    rw [hF]; rfl
  · rcases List.mem_singleton.mp he with rfl
    exact ⟨by rw [V.kind]; decide, L, ns, vs, V.frame, h⟩
theorem SubSlice {value : Expr} {lower upper : Option Expr}
    (h : wpAny (model prog w) A (eval value env) (fun o s₁ => wpAny (model prog w) A (eval (.Slice lower upper none p) env) (fun i s₂ => ItemOn (model prog w) A E o i Q s₂) E s₁) E s) :
    wpAny (model prog w) A (eval (.Subscript value (.Slice lower upper none p) pos) env) Q E s := by
  rw [eval_Subscript]
  refine wpAny_bind (wpAny_mono h (fun o s₁ h₁ => wpAny_bind (wpAny_holding (wpAny_mono h₁ (fun i s₂ h₂ => wpAny_bind (wpAny_standAt ?_)) fun _ _ x => x)))
    fun _ _ x => x)
  obtain ⟨T, id, hl, hT, hg⟩ := h₂
  first
    | (refine wpAny_bind ?_; rw [getitemInPython_of_ne hT.not_modules]; refine wpAny_bind (wpAny_specialOf hT hl ?_))
    | refine wpAny_bind (wpAny_specialOf hT hl ?_)
  have fin : wpAny (model prog w) A (operate [i, o] (getItem o i)) (fun r s₃ => wpAny (model prog w) A (letTemporaryGo value o r >>= fun _ => pure r) Q E s₃) E s₂ :=
    wpAny_operating (wpAny_mono hg (fun r s₃ h₃ => wpAny_bind (wpAny_letTemporaryGo (wpAny_pure h₃))) fun _ _ x => x)
  first
    | exact wpAny_pure (wpAny_bind fin)
    | exact wpAny_bind (wpAny_pure (wpAny_bind fin))
    | exact wpAny_bind fin
/-- 'abc'[:j] -/
theorem sub_toC {value hi : Expr} (b : Shared)
    (h : wpAny (model prog w) A (eval value env) (fun o s₁ => wpAny (model prog w) A (eval hi env) (fun i s₂ => ∃ (l : List Nat) (t : Tok) (z : Int) (u : Tok) (n : Nat) (cs : List Cell) (d : Cell), o = .str (tx l) t ∧ i = .int z u ∧ St b s₂ cs ∧ Has d cs ∧ d.key.1 = true ∧ l.length ≤ 1000 ∧ z = (n : Int) ∧ n ≤ l.length ∧
      ∀ s' t', St b s' cs → Q (.str (tx (l.take n)) t') s') E s₁) E s) :
    wpAny (model prog w) A (eval (.Subscript value (.Slice none (some hi) none p) pos) env) Q E s := by
  refine SubSlice (wpAny_mono h (fun o s₁ h₁ => wpAny_Slice ?_) fun _ _ e => e)
  rw [evalPart_none]
  refine wpAny_pure (wpAny_mono h₁ (fun i s₂ h₂ => ?_) fun _ _ e => e)
  obtain ⟨l, t, z, u, n, cs, d, rfl, rfl, H, hd, hd1, hz, rfl, hn, k⟩ := h₂
  refine wpAny_pure ?_
  refine slice_ns_ H hd hd1 (by rw [tx_len]; exact hz) fun s' t' H' => ?_
  rw [sl_to (by rw [tx_len]; exact hn)]
  exact k s' t' H'
end
end Mine
end
section
open PySem PySem.W PySem.Calls PyProof.Rows
set_option Elab.async false
set_option maxHeartbeats 4000000
namespace Mine
/-- an end with its order, as it stands in the dict -/
structure Od where
  v : List Nat
  a : Addr
  o : List Nat
  vs : List Value
  ok : TxAre vs (o.map fun x => [x])
def kvsOf (tr : List Od) : List (Str × Value) := tr.map fun p => (tx p.v, .ref p.a)
def ordC (tr : List Od) : List Cell := tr.map fun p => .p p.a (lstP p.vs)
def ordsOf (tr : List Od) (v : List Nat) : Option (List Nat) := (tr.find? fun p => p.v = v).map (·.o)
theorem valueAt_kvs (tr : List Od) (v : List Nat) : valueAt (kvsOf tr) (tx v) = (tr.find? fun p => p.v = v).map fun p => .ref p.a := by
  unfold valueAt kvsOf
  induction tr with
  | nil => rfl
  | cons p tr ih =>
    rw [List.map_cons, List.find?_cons, List.find?_cons]
    by_cases h : p.v = v
    · subst h; simp
    · have h' : ¬ (tx p.v = tx v) := fun e => h (tx_inj e)
      simp only [h, h', decide_false]
      exact ih
theorem stored_kvs {tr : List Od} {v : List Nat} {a : Addr} {x : Od} (h : tr.find? (fun p => p.v = v) = none) (hv : x.v = v) (ha : x.a = a) : stored (kvsOf tr) (tx v) (.ref a) = kvsOf (tr ++ [x]) := by
  unfold stored
  have : ((kvsOf tr).any fun kv => decide (kv.1 = tx v)) = false := by
    rw [List.any_eq_false]
    intro kv hkv
    obtain ⟨p, hp, rfl⟩ := List.mem_map.mp hkv
    have := List.find?_eq_none.mp h p hp
    simp only [decide_eq_true_eq] at this ⊢
    exact fun e => this (tx_inj e)
  rw [if_neg (by rw [this]; decide)]
  simp [kvsOf, hv, ha]
theorem ordC_add (tr : List Od) (x : Od) : ordC (tr ++ [x]) = ordC tr ++ [.p x.a (lstP x.vs)] := by simp [ordC]
theorem ordsOf_add {tr : List Od} {x : Od} (h : tr.find? (fun p => p.v = x.v) = none) : ordsOf (tr ++ [x]) = fun u => if u = x.v then some x.o else ordsOf tr u := by
  funext u
  unfold ordsOf
  rw [List.find?_append]
  by_cases e : u = x.v
  · subst e
    rw [if_pos rfl, h]
    simp
  · rw [if_neg e]
    have : ¬ (x.v = u) := fun q => e q.symm
    cases List.find? (fun p => decide (p.v = u)) tr <;> simp [this]
theorem ordsOf_some {tr : List Od} {v o : List Nat} (h : ordsOf tr v = some o) : ∃ p ∈ tr, p.v = v ∧ p.o = o ∧ tr.find? (fun p => p.v = v) = some p := by
  unfold ordsOf at h
  obtain ⟨p, hp, rfl⟩ := Option.map_eq_some_iff.mp h
  refine ⟨p, List.mem_of_find?_eq_some hp, ?_, rfl, hp⟩
  simpa using List.find?_some hp
theorem ordsOf_none {tr : List Od} {v : List Nat} : ordsOf tr v = none ↔ tr.find? (fun p => p.v = v) = none := by
  unfold ordsOf; simp
theorem perm_mid {α : Type} (P R X : List α) (a td : α) : (R ++ (a :: td :: (P ++ X))).Perm (P ++ (a :: td :: (R ++ X))) := by
  have h1 : (R ++ (a :: td :: (P ++ X))).Perm ((a :: td :: (P ++ X)) ++ R) := List.perm_append_comm
  have h2 : (P ++ (a :: td :: (R ++ X))).Perm ((a :: td :: (P ++ X)) ++ R) := by
    have h3 : (P ++ (a :: td :: (R ++ X))).Perm ((a :: td :: (R ++ X)) ++ P) := List.perm_append_comm
    refine h3.trans ?_
    refine .cons _ (.cons _ ?_)
    show ((R ++ X) ++ P).Perm ((P ++ X) ++ R)
    have h5 : ((R ++ X) ++ P).Perm (P ++ (R ++ X)) := List.perm_append_comm
    have h6 : (P ++ (R ++ X)).Perm (P ++ (X ++ R)) := List.Perm.append_left _ List.perm_append_comm
    rw [List.append_assoc P X R]
    exact h5.trans h6
  exact h1.trans h2.symm
theorem perm_start {α : Type} (P0 R X : List α) (a td c dd : α) : (P0 ++ (c :: dd :: a :: td :: (R ++ X))).Perm (dd :: (R ++ (a :: td :: c :: (P0 ++ X)))) := by
  haveI : DecidableEq α := fun a b => Classical.propDecidable (a = b)
  refine List.perm_iff_count.mpr fun x => ?_
  simp only [List.count_append, List.count_cons]
  ac_rfl
theorem perm_ord {α : Type} (R O X : List α) (a td c : α) : (a :: td :: (R ++ ((O ++ [c]) ++ X))).Perm (c :: a :: td :: (R ++ (O ++ X))) := by
  haveI : DecidableEq α := fun a b => Classical.propDecidable (a = b)
  refine List.perm_iff_count.mpr fun x => ?_
  simp only [List.count_append, List.count_cons, List.count_nil]
  ac_rfl
end Mine
end
section
open PySem PySem.W PySem.Calls PyProof.Rows
set_option Elab.async false
set_option maxRecDepth 100000
set_option maxHeartbeats 4000000
namespace Mine
theorem TxAre.of_at : ∀ {vs : List Value} {ns : List (List Nat)}, vs.length = ns.length → (∀ (i : Nat) (z : List Nat), ns[i]? = some z → ∃ t : Tok, vs[i]? = some (Value.str (tx z) t)) → TxAre vs ns
  | [], [], _, _ => .nil
  | v :: vs, n :: ns, h, k => by
    obtain ⟨t, e⟩ := k 0 n rfl
    have e : v = .str (tx n) t := by simpa using e
    subst e
    exact .cons n t (TxAre.of_at (by simpa using h) fun i z hz => by
      obtain ⟨t, e⟩ := k (i + 1) z (by simpa using hz)
      exact ⟨t, by simpa using e⟩)
section
variable {prog : Program} {w : World} {A : Around} {E : Value → Shared → Prop} {b s : Shared} {cs cs' : List Cell} {K : Frag} {env : Env} {pos p : Pos} {Q : Value → Shared → Prop}
theorem unpackI {t : Addr} {items : Array Value} {n : Nat} {Q : List Value → Shared → Prop} (hh : A.handled = none) (H : St b s cs) (ht : Has (.o t (tupObj items)) cs) (hn : n = items.size) (k : ∀ s', St b s' cs → Q items.toList s') :
    wpAny (model prog w) A (unpackItems (.ref t) n none) Q E s := by
  subst hn
  exact wpAny_unpackItems_tuple hh ⟨_, H.obj ht.mem, rfl, _, rfl⟩ fun h' he => k _ (H.extNew (t := s.toks) he ht)
theorem list_tx {l : List Nat} {t : Tok} (hh : A.handled = none) (H : St b s cs) (hz : l.length ≤ 1000) (k : ∀ s' a vs, TxAre vs (l.map fun x => [x]) → St b s' (.p a (lstP vs) :: cs) → Q (.ref a) s') :
    wpAny (model prog w) A (call (.type "list") [.str (tx l) t]) Q E s := by
  refine call_list_str hh (tx l) t (fun h' tk acc' c' hk hS hi => ?_) (by show (tx l).cps.size ≤ sizeLine; exact Nat.le_trans (Nat.le_of_eq (tx_len l)) (Nat.le_trans hz (by decide)))
  refine k _ _ acc'.toList ?_ (H.newP (t := tk) (o := { cls := .type "list", dict := none, data := .seq acc' c', slots := #[] }) hk (Nat.le_refl _) hS ⟨c', by rw [Array.toArray_toList]⟩)
  refine TxAre.of_at ?_ fun i z hz' => ?_
  · rw [Array.length_toList, hi.1, List.length_map]; exact tx_len l
  · rw [List.getElem?_map] at hz'
    obtain ⟨c, hc, rfl⟩ := Option.map_eq_some_iff.mp hz'
    have hlt : i < l.length := (List.getElem?_eq_some_iff.mp hc).1
    have hia : i < acc'.size := by rw [hi.1]; exact Nat.lt_of_lt_of_eq hlt (tx_len l).symm
    obtain ⟨c', u, h1, h2⟩ := hi.2 i acc'[i] (by simp [hia])
    have h3 : l[i]? = some c' := by simpa using h1
    rw [hc] at h3; cases h3
    exact ⟨u, by rw [Array.getElem?_toList, Array.getElem?_eq_getElem hia, h2]⟩
theorem neg_n {a : Int} {t : Tok} (H : St b s cs) (k : ∀ s' v, St b s' cs → Q (.int (-a) v) s') : wpAny (model prog w) A (unaryOp .USub (.int a t)) Q E s := PyProof.Rows.neg_int (k _ _ H.toks)
theorem ld {L : Addr} {ns : List Str} {vs : List (Option Value)} {x : Str} {v : Value} {nk cl} (V : EnvIs env L nk cl) (H : St b s cs) (hf : Has (.f L ns vs) cs) (hv : At ns vs x (some v)) (hl : nk.lookup x = some .local) (h : Q v s) :
    wpAny (model prog w) A (loadName env x) Q E s := wpAny_loadName_local V.kind (V.kindOf hl) (V.loc ▸ (H.fr hf.mem).ns) (hv.loc (H.nodup hf.mem)) h
theorem ldC {L : Addr} {x : Str} {v : Value} {c : Addr} {nk cl} (V : EnvIs env L nk cl) (H : St b s cs) (hl : nk.lookup x = some .cell) (hc : cl.lookup x = some c) (hm : Has (.p c (CellP (some v))) cs) (h : Q v s) :
    wpAny (model prog w) A (loadName env x) Q E s := by
  obtain ⟨⟨o, ho, h2⟩, _⟩ := H.sat _ hm.mem
  exact wpAny_loadName_cell V.kind (V.kindOf hl) (by rw [V.cells]; exact hc) ⟨o, ho, h2⟩ h
end
theorem TxAre.snoc : ∀ {ns : List (List Nat)} {n : List Nat} {vs : List Value}, TxAre vs (ns ++ [n]) → ∃ us t, vs = us ++ [.str (tx n) t] ∧ TxAre us ns
  | [], n, vs, h => by
    cases h with
    | cons _ t h' => cases h'; exact ⟨[], t, rfl, .nil⟩
  | m :: ns, n, vs, h => by
    cases h with
    | cons _ t h' =>
      obtain ⟨us, t', rfl, h2⟩ := TxAre.snoc h'
      exact ⟨.str (tx m) t :: us, t', rfl, .cons _ _ h2⟩
end Mine
end
section
open PySem PySem.W PySem.Calls PyProof.Rows
set_option Elab.async false
set_option maxRecDepth 100000
set_option maxHeartbeats 4000000
namespace Mine
section
variable {prog : Program} {w : World} {A : Around} {E : Value → Shared → Prop} {b s : Shared} {cs cs' : List Cell} {K : Frag} {env : Env} {L : Addr} {pos py spos : Pos} {v : Value}
/-- how the loop of a comprehension ends whose list is stored under a name -/
def CEndU (M : Model) (A : Around) (E : Value → Shared → Prop) (b : Shared) (env : Env) (y : Str) (ns : List Str) (D C : Addr) (Q : Flow → Shared → Prop) (r : Result) (s' : Shared) : Prop :=
  ∃ f, r = .ok f ∧ wpAny M A (storeName env y (.ref D)) (fun _ s'' => ∃ vs cs', St b s'' (.f C ns vs :: cs') ∧ ∀ s3, St b s3 cs' → Q .next s3) E s'
/-- name = [comprehension of one clause] -/
theorem comp_use {elt target iter : Expr} {ifs : List Expr} {scope : Scope} {cl : List (Str × Addr)} {ns : List Str} {Q : Flow → Shared → Prop} {nk : List (Str × NameKind)} {y : Str} (hsw : swapsWith (.ListComp elt [⟨target, iter, ifs, 0⟩] scope pos) (some (.Name y py)) spos.line env = pure true) (hnd : ns.Nodup) (hnk : scope.names = nk)
    (hclos : closureFor scope env = pure cl) (hcell : ∀ y ∈ nk, y.2 ≠ .cell) (hkind : scope.kind = .function)
    (hnames : ∀ y ∈ nk, y.2 = .local → nk.lookup y.1 = some .local)
    (h : wpAny (model prog w) A (eval iter env) (fun xv s₁ => wpAny (model prog w) A (pyIter xv) (fun it s₂ => ∃ cs2, St b s₂ cs2 ∧ (∃ c, Has c cs2 ∧ c.key.1 = true) ∧
      ∀ s₃ D C, St b s₃ (.f C ns (ns.map fun _ => none) :: .p D (lstP []) :: cs2) →
        (∀ {Q' E' s'}, St b s' (.f C ns (ns.map fun _ => none) :: .p D (lstP []) :: cs2) → Q' it s' → wpAny (model prog w) A (pyIter it) Q' E' s') ∧
        codeAny (model prog w) A (.compLoop (.ListComp elt [⟨target, iter, ifs, 0⟩] scope pos) 0 it (.ref D) (compEnvC scope cl C env)) (CEndU (model prog w) A E b env y ns D C Q) s₃) E s₁) E s)
    (hs : ∀ x, foldedSetIterable iter env x = pure x := by intro _; rfl) :
    wpAny (model prog w) A (exec (.Assign [.Name y py] (.ListComp elt [⟨target, iter, ifs, 0⟩] scope pos) spos) env) Q E s := by
  subst hnk
  rw [exec_Assign_Name_used _ _ _ _ hsw]
  refine wpAny_bind (wpAny_standAt (wpAny_bind ?_))
  show wpAny _ A (do let _ ← comprehension (.ListComp elt [⟨target, iter, ifs, 0⟩] scope pos) scope env _ (newList []) false (eval iter env) (some (assign (.Name y py) env))) _ _ s
  refine wpAny_bind (wpAny_mono (wpAny_comprehension_free (use := some (assign (.Name y py) env)) (Q := fun _ s' => Q .next s') rfl hs hclos hkind hnames
    (wpAny_mono h (fun xv s₁ h₁ => wpAny_mono h₁ (fun it s₂ h₂ => ?_) fun _ _ e => e) fun _ _ e => e)) (fun _ s' hq => wpAny_pure (wpAny_pure hq)) fun _ _ e => e)
  obtain ⟨cs2, H, ⟨c, hc, hc1⟩, h⟩ := h₂
  have hb : b.heap.objs.size ≤ s₂.heap.objs.size := H.size
  refine wpAny_newObj_type (wpAny_newFunctionEnv hcell (by intro y hy; simp at hy) (fun h₁ hns₁ hsb₁ => ?_) hkind)
  dsimp only at hns₁ hsb₁ ⊢
  generalize hH2 : s₂.heap.push { cls := .type "list", dict := none, data := .seq ([] : List Value).toArray } = H2 at hns₁ hsb₁ ⊢
  have hC : H2.objs.size = s₂.heap.objs.size + 1 := by rw [← hH2, Heap.size_push]
  have hDC : s₂.heap.objs.size ≠ H2.objs.size := by rw [hC]; exact Nat.ne_of_lt (Nat.lt_succ_self _)
  have below : ∀ b, b < s₂.heap.objs.size → b ≠ H2.objs.size := fun b hb => by rw [hC]; exact Nat.ne_of_lt (Nat.lt_succ_of_lt hb)
  have old : ∀ b o, s₂.heap.get? b = some o → h₁.get? b = some o := fun b o e => hsb₁.extBut b o (below b (Heap.lt_size e)) (Heap.get?_push_of_some _ (hH2 ▸ Heap.get?_push_of_some _ e))
  have hacc : h₁.get? s₂.heap.objs.size = some { cls := .type "list", dict := none, data := .seq ([] : List Value).toArray } := hsb₁.extBut _ _ hDC (Heap.get?_push_of_some _ (hH2 ▸ Heap.get?_push_size _ rfl))
  have H1 : St b { s₂ with heap := h₁, toks := s₂.toks + ([] : List (Str × Value)).length } (.p s₂.heap.objs.size (lstP []) :: cs2) :=
    H.newP (t := s₂.toks + ([] : List (Str × Value)).length) old (Nat.le_refl _) hacc ⟨0, rfl⟩
  have H2' : St b { s₂ with heap := h₁, toks := s₂.toks + ([] : List (Str × Value)).length } (.f H2.objs.size ns (ns.map fun _ => none) :: .p s₂.heap.objs.size (lstP []) :: cs2) := by
    refine ⟨H1.keep, H1.size, ?_, fun d hd => ?_, H1.bare, H1.os⟩
    · rw [List.map_cons, List.nodup_cons]
      refine ⟨fun q => ?_, H1.nod⟩
      obtain ⟨d, hd, e⟩ := List.mem_map.mp q
      rcases List.mem_cons.mp hd with rfl | hd
      · have e' : (true, s₂.heap.objs.size) = (true, H2.objs.size) := e
        injection e' with _ e'
        exact hDC e'
      · have := Cell.key_lt (H.sat d hd) e
        rw [hC] at this
        exact absurd (Nat.lt_of_succ_lt this) (Nat.lt_irrefl _)
    · rcases List.mem_cons.mp hd with rfl | hd
      · refine ⟨?_, hnd, by simp, by rw [hC]; exact Nat.le_succ_of_le hb⟩
        rw [locOf_none]
        exact hns₁
      · exact H1.sat d hd
  obtain ⟨hself, hloop⟩ := h _ s₂.heap.objs.size H2.objs.size H2'
  have loop : codeAny (model prog w) A (.compLoop (.ListComp elt [⟨target, iter, ifs, 0⟩] scope pos) 0 it (.ref s₂.heap.objs.size) (compEnvC scope cl H2.objs.size env)) (compPost (model prog w) A E (some (assign (.Name y py) env)) (fun _ s' => Q .next s') (.ref s₂.heap.objs.size) H2.objs.size) { s₂ with heap := h₁, toks := s₂.toks + ([] : List (Str × Value)).length } := by
    refine codeAny_mono hloop fun r s' hr => ?_
    obtain ⟨f, rfl, hu⟩ := hr
    refine wpAny_assign_Name (wpAny_mono hu (fun _ s'' hs'' => ?_) fun _ _ e => e)
    obtain ⟨vs, cs', H', hq⟩ := hs''
    obtain ⟨hn, _, _, hl⟩ := H'.sat (.f H2.objs.size ns vs) (List.mem_cons_self ..)
    refine ⟨_, hn, fun h' hsb => hq _ ?_⟩
    have nod := List.nodup_cons.mp H'.nod
    refine ⟨fun a o q => ?_, ?_, nod.2, fun d hd => ?_, H'.bare, H'.os⟩
    · exact hsb.extBut a o (Nat.ne_of_lt (Nat.lt_of_lt_of_le (Heap.lt_size q) hl)) (H'.keep a o q)
    · exact Nat.le_trans H'.size (Nat.le_of_eq hsb.1.symm)
    · exact Cell.sat_but (t := s''.toks) (H'.sat d (List.mem_cons_of_mem _ hd)) (fun e => nod.1 (List.mem_map.mpr ⟨d, hd, e⟩)) hsb
  exact codeAny_compStart_list loop (hself H2' loop)
theorem swaps_yes {elt : Expr} {gens : List Comprehension} {scope : Scope} {nk : List (Str × NameKind)} {cl : List (Str × Addr)} {y : Str} {line : Nat} (V : EnvIs env L nk cl) (hy : nk.lookup y = some .local) (hl : (py.line == pos.line) = true) (hn : (scope.names.any fun (n, k) => n == y && (k == .local || k == .cell)) = false) :
    swapsWith (.ListComp elt gens scope pos) (some (.Name y py)) line env = pure true := by
  have k1 : env.kindOf y = some .local := V.kindOf hy
  have k4 : env.blockKind = .function := by unfold Env.blockKind; rw [V.kind]; rfl
  show (pure (env.blockKind == .function && env.kindOf y == some .local && py.line == (Expr.ListComp elt gens scope pos).pos.line && !(scope.names.any fun (n, k) => n == y && (k == .local || k == .cell))) : Sem Bool) = pure true
  rw [k1, k4, hn]
  have : (py.line == (Expr.ListComp elt gens scope pos).pos.line) = true := hl
  rw [this]
  rfl
end
end Mine
end
section
open PySem PySem.W PySem.Calls PyProof.Rows
set_option Elab.async false
set_option maxRecDepth 100000
set_option maxHeartbeats 4000000
namespace Mine
theorem Told.len {α : Type} {T : α → Value → List Cell → Prop} {X : List α} {vals acc} (h : Told T X vals acc) : vals.length = X.length := by
  induction h with
  | nil => rfl
  | cons _ _ ih => rw [List.length_append, List.length_append, ih]; rfl
theorem Told.nth {α : Type} {T : α → Value → List Cell → Prop} {X : List α} {vals acc} (h : Told T X vals acc) : ∀ {i : Nat} {x : α}, X[i]? = some x → ∃ v vis, vals[i]? = some v ∧ T x v vis ∧ ∀ c ∈ vis, c ∈ acc := by
  induction h with
  | nil => intro i x h; simp at h
  | @cons y v vis l vs cs hT hr ih =>
    intro i x hx
    have hl := hr.len
    rcases Nat.lt_or_ge i l.length with hlt | hge
    · rw [List.getElem?_append_left hlt] at hx
      obtain ⟨v', vis', h1, h2, h3⟩ := ih hx
      exact ⟨v', vis', by rw [List.getElem?_append_left (by omega)]; exact h1, h2, fun c hc => List.mem_append_right _ (h3 c hc)⟩
    · rw [List.getElem?_append_right hge] at hx
      have hi : i - l.length = 0 := by
        have := (List.getElem?_eq_some_iff.mp hx).1
        simp at this; omega
      rw [hi] at hx
      have : y = x := by simpa using hx
      subst this
      refine ⟨v, vis, ?_, hT, fun c hc => List.mem_append_left _ hc⟩
      rw [List.getElem?_append_right (by omega), show i - vs.length = 0 from by omega]
      rfl
section
variable {prog : Program} {w : World} {A : Around} {E : Value → Shared → Prop} {b s : Shared} {cs cs' : List Cell} {K : Frag} {env : Env} {pos : Pos} {R : Result → Shared → Prop} {Q : Value → Shared → Prop}
/-- a comprehension with a tuple target and one test -/
theorem comp_loopT {elt target iter c : Expr} {scope : Scope} {it acc : Value} (N : Nat) (J : Nat → Shared → Prop)
    (turn : ∀ i s E', i < N → J i s → wpAny (model prog w) A (pyNext it) (fun r s₁ => ∃ v, r = some v ∧ wpAny (model prog w) A (letOwnedTupleGo target it v) (fun _ s₁ => wpAny (model prog w) A (assign target env v) (fun _ s₂ =>
      wpAny (model prog w) A (isTrue c env (eval c env)) (fun ok s₃ => if ok = true then
        wpAny (model prog w) A (eval elt env) (fun x s₄ => wpAny (model prog w) A (call (.builtin "list.append") [acc, x]) (fun _ s₅ => J (i + 1) s₅) E' s₄) E' s₃ else J (i + 1) s₃) E' s₂) E' s₁) E' s₁) E' s)
    (done : ∀ s E', J N s → wpAny (model prog w) A (pyNext it) (fun r s₁ => r = none ∧ R (.ok .next) s₁) E' s)
    (h : J 0 s) :
    codeAny (model prog w) A (.compLoop (.ListComp elt [⟨target, iter, [c], 0⟩] scope pos) 0 it acc env) R s := by
  refine codeAny_loop rfl (fun n s => ∃ i, i ≤ N ∧ n = N - i ∧ J i s) (fun n s hI => ?_) N ⟨0, Nat.zero_le _, rfl, h⟩
  show wpAny _ A ((compTurn (.ListComp elt [⟨target, iter, [c], 0⟩] scope pos) 0 it acc env).onRaise (fun x => do noteFrame x env; theTreesLotGoes x)) _ _ s
  refine wpAny_noted ?_
  rw [compTurn_list]
  refine wpAny_bind (wpAny_standAt (wpAny_bind ?_))
  obtain ⟨i, hi, rfl, hJ⟩ := hI
  rcases Nat.lt_or_eq_of_le hi with hlt | rfl
  · refine wpAny_mono (turn i s _ hlt hJ) (fun r s₁ h₁ => ?_) fun _ _ e => e
    obtain ⟨v, rfl, h₁⟩ := h₁
    refine wpAny_bind (wpAny_mono h₁ (fun _ s₁ h₁ => ?_) fun _ _ e => e)
    refine wpAny_bind (wpAny_mono h₁ (fun _ s₂ h₂ => wpAny_bind (wpAny_tests_one (wpAny_mono h₂ (fun ok s₃ h₃ => ?_) fun _ _ e => e))) fun _ _ h' => h')
    cases ok with
    | false =>
      rw [if_neg (by simp)] at h₃
      exact wpAny_pure ⟨rfl, N - (i + 1), by omega, i + 1, hlt, rfl, h₃⟩
    | true =>
      rw [if_pos rfl] at h₃
      exact wpAny_bind (wpAny_bind (wpAny_mono h₃ (fun x s₄ h₄ => wpAny_bind (wpAny_mono h₄ (fun _ s₅ h₅ => wpAny_pure (wpAny_pure ⟨rfl, N - (i + 1), by omega, i + 1, hlt, rfl, h₅⟩)) fun _ _ h' => h')) fun _ _ h' => h'))
  · refine wpAny_mono (done s _ hJ) (fun r s₁ h₁ => ?_) fun _ _ e => e
    obtain ⟨rfl, h₁⟩ := h₁
    exact wpAny_pure h₁
theorem letGoList {elts : List Expr} {x1} {l it T : Addr} {i : Nat} {Q : Unit → Shared → Prop} (H : St b s cs) (h : Has (.p it (LIter l i)) cs) (k : Q () s) : wpAny (model prog w) A (letOwnedTupleGo (.Tuple elts x1 pos) (.ref it) (.ref T)) Q E s := by
  obtain ⟨⟨o, ho, h1, h2⟩, _⟩ := H.sat _ h.mem
  exact wpAny_letOwnedTupleGo_listiter ⟨o, ho, h1, h2⟩ k
/-- [] == [] -/
theorem eq_nils {l1 l2 : Addr} (H : St b s cs) (h1 : Has (.p l1 (lstP [])) cs) (h2 : Has (.p l2 (lstP [])) cs) (hu : A.units < cLine) (k : Q (.bool true) s) : wpAny (model prog w) A (compareOp .Eq (.ref l1) (.ref l2)) Q E s := by
  have R := SeqAt.RcAt.lists (A := A) (e := fun _ => true) (H.list h1) (H.list h2) rfl hu (fun j h1 _ => by simp at h1)
  exact R prog w E _ k
theorem ne_n {x y : Int} {t u : Tok} (k : Q (.bool (x != y)) s) : wpAny (model prog w) A (compareOp .NotEq (.int x t) (.int y u)) Q E s := PyProof.Rows.ne_int k
end
theorem perm_back {α : Type} (P R O X : List α) (x y : α) : (P ++ (R ++ (O ++ (x :: y :: X)))).Perm (x :: y :: (P ++ (R ++ (O ++ X)))) := by
  haveI : DecidableEq α := fun a b => Classical.propDecidable (a = b)
  refine List.perm_iff_count.mpr fun z => ?_
  simp only [List.count_append, List.count_cons, List.count_nil]
  ac_rfl
end Mine
end
section
open PySem PySem.W PySem.Calls PyProof.Rows
set_option Elab.async false
set_option maxRecDepth 100000
set_option maxHeartbeats 4000000
set_option linter.unusedVariables false
namespace Mine
abbrev prog := PySem.Challenge.pw_ez0279_01
abbrev D0 : Adr := ⟨145, 59, 360, 227, 297⟩
local macro_rules | `(tactic| walk_at "m_fill") => `(tactic| ((have dummy : PySem.Challenge.rw_ez0279_01 = PySem.Challenge.rw_ez0279_01 ∧ hd.heap_39 = hd.heap_39 := by k_fill; exact ⟨rfl, rfl⟩); clear dummy))
local macro_rules | `(tactic| walk_at "m_facts") => `(tactic| (constructor <;> first | k_dflt k_is | decide +kernel))
theorem sl_fill : True := by walk_at "m_fill"; trivial
theorem sl_step (w : World) : SlotOf (hd.heap_39 w.params) 227 (PySem.Str.ofString "step") 229 1 := by walk_at "m_facts"
theorem sl_node (w : World) : SlotOf (hd.heap_39 w.params) 227 (PySem.Str.ofString "node") 228 0 := by walk_at "m_facts"
theorem sl_children (w : World) : SlotOf (hd.heap_39 w.params) 360 (PySem.Str.ofString "children") 361 0 := by walk_at "m_facts"
theorem sl_value (w : World) : SlotOf (hd.heap_39 w.params) 360 (PySem.Str.ofString "value") 362 1 := by walk_at "m_facts"
abbrev gaO : String := "object.__getattribute__"
abbrev gaD : String := "dict.__getattribute__"
abbrev tF : Value := .type "function"
abbrev tM : Value := .type "method_descriptor"
theorem me_no_get (w : World) : MethOf (hd.heap_39 w.params) 141 (PySem.Str.ofString "get") (.ref 102) gaO tF := by walk_at "m_facts"
theorem me_one_get (w : World) : MethOf (hd.heap_39 w.params) 227 (PySem.Str.ofString "get") (.ref 188) gaO tF := by walk_at "m_facts"
theorem me_many_get (w : World) : MethOf (hd.heap_39 w.params) 297 (PySem.Str.ofString "get") (.builtin "dict.get") gaD tM := by walk_at "m_facts"
theorem nc_look (w : World) : List.lookup D0.nc (hd.heap_39 w.params) = some ⟨.ref 141, some 144, .plain, #[]⟩ := by (show List.lookup 145 (hd.heap_39 w.params) = _); k_dflt k_is
theorem nc_dict (w : World) : List.lookup 144 (hd.heap_39 w.params) = some noDict := by k_dflt k_is
theorem many_dict (w : World) : mroIn (hd.heap_39 w.params) 297 (.type "dict") = some true := by k_dflt k_is
theorem kp_no_get (w : World) : keepIn (hd.heap_39 w.params) (.ref 102) = true := by k_dflt k_is
theorem kp_one_get (w : World) : keepIn (hd.heap_39 w.params) (.ref 188) = true := by k_dflt k_is

local macro_rules | `(tactic| walk_at "m_has") => `(tactic| with_reducible first | exact Has.head | (refine Has.tail ?_; walk_at "m_has") | (refine Has.of ?_; assumption) | assumption)
local macro_rules | `(tactic| walk_at "m_at") => `(tactic| with_reducible first | exact At.head | (refine At.tail ?_; walk_at "m_at"))
local macro_rules | `(tactic| walk_at "m_sub") => `(tactic| with_reducible first | exact Sub1.head | (apply Sub1.tail; walk_at "m_sub"))
local macro_rules | `(tactic| walk_at "m_put") => `(tactic| with_reducible first | exact PutAt.head | (apply PutAt.tail; walk_at "m_put"))
local macro_rules | `(tactic| walk_at "m_room") => `(tactic| first | assumption | omega)
local macro_rules | `(tactic| walk_at "m_name") => `(tactic| refine nm (by assumption) (by assumption) (by walk_at "m_has") (by walk_at "m_at") (by decide) (by decide) ?_)
local macro_rules | `(tactic| walk_at "m_slotget") => `(tactic| (refine attr_slot (by assumption) (by first | exact sl_step _ | exact sl_node _ | exact sl_children _ | exact sl_value _) (by assumption) (by walk_at "m_has") (by exact rfl) (by walk_at "m_has") (by exact rfl) (by exact rfl) ?_))
local macro_rules | `(tactic| walk_at "m_glob") => `(tactic| (refine glob (by assumption) (by assumption) (by assumption) (by decide) (by k_dflt k_is) (by decide) ?_))
variable {w : World} {A : Around} {E : Value → Shared → Prop} {b s : Shared} {cs cs' : List Cell} {R : Result → Shared → Prop}

theorem no_get {x : Addr} {v : Value} (B : Base (hd.heap_39 w.params) b) (H : St b s cs) (hA : A.depth < recursionLimit)
   (hR : ∀ s', St b s' cs → R (.ok (.ret .none)) s') : codeAny (model prog w) A (.call (.ref 102) ⟨[.ref x, v], []⟩) R s := by
  refine enterN (K := (hd.heap_39 w.params)) (nk := [((PySem.Str.ofString "self"), .local), ((PySem.Str.ofString "step"), .local)]) ⟨⟨_, _, _, by k_dflt k_is⟩, by k_dflt k_is, by exact rfl, by exact rfl, by exact rfl, by exact rfl, by exact rfl, by exact rfl⟩ (by exact rfl) [(PySem.Str.ofString "self"), (PySem.Str.ofString "step")] [some (.ref x), some (v)] (by assumption) (by assumption) (by walk_at "m_room") (by exact BindsTo.of_eq rfl) (by decide) (by exact locsN rfl) (by decide) (by exact rfl) (by exact rfl) ?_
  clear H; intro s L env V H
  refine wpAny_execs_cons (wpAny_Return_some (wpAny_Constant_none ?_))
  exact hR _ (H.mono (List.sublist_cons_self _ _))
theorem one_get {x dx : Addr} {nd : Value} {st st2 : Str} {tk tk2 : Tok} (B : Base (hd.heap_39 w.params) b) (H : St b s cs) (hx : Has (.o x (oneObj D0 dx nd (.str st2 tk2))) cs) (hdx : Has (.o dx noDict) cs) (hA : A.depth < recursionLimit) (hh : handedIn nd = true)
   (hR : ∀ s', St b s' cs → R (.ok (.ret (if (st == st2) = true then nd else .none))) s') : codeAny (model prog w) A (.call (.ref 188) ⟨[.ref x, .str st tk], []⟩) R s := by
  refine enterN (K := (hd.heap_39 w.params)) (nk := [((PySem.Str.ofString "self"), .local), ((PySem.Str.ofString "step"), .local)]) ⟨⟨_, _, _, by k_dflt k_is⟩, by k_dflt k_is, by exact rfl, by exact rfl, by exact rfl, by exact rfl, by exact rfl, by exact rfl⟩ (by exact rfl) [(PySem.Str.ofString "self"), (PySem.Str.ofString "step")] [some (.ref x), some (.str st tk)] (by assumption) (by assumption) (by walk_at "m_room") (by exact BindsTo.of_eq rfl) (by decide) (by exact locsN rfl) (by decide) (by exact rfl) (by exact rfl) ?_
  clear H; intro s L env V H
  refine wpAny_execs_cons (wpAny_Return_some (wpAny_IfExp (wpAny_isTrue_Compare1 ?_)))
  walk_at "m_name"
  refine Attribute_Name_ ?_
  walk_at "m_name"
  walk_at "m_slotget"
  clear H; intro s H
  refine eq_str (wpAny_truthy_bool ?_)
  split <;> rename_i hc
  · refine Attribute_Name_ ?_
    walk_at "m_name"
    refine attr_slot (by assumption) (sl_node _) (by assumption) (by walk_at "m_has") (by exact rfl) (by walk_at "m_has") (by exact rfl) hh ?_
    clear H; intro s H
    have := hR s (H.mono (List.sublist_cons_self _ _))
    rw [if_pos hc] at this; exact this
  · refine wpAny_Constant_none ?_
    have := hR s (H.mono (List.sublist_cons_self _ _))
    rw [if_neg hc] at this; exact this
theorem many_get {c dx : Addr} {l : List (Nat × Tok × Addr)} {ep x : Nat} {tk : Tok} (B : Base (hd.heap_39 w.params) b) (H : St b s cs) (hx : Has (.o c (manyObj D0 dx (l.map (entOf w.params)) ep)) cs) (hdx : Has (.o dx noDict) cs)
   (hR : ∀ s', St b s' cs → R (.ok (.ret (((l.find? (·.1 == x)).map fun e => Value.ref e.2.2).getD .none))) s') : codeAny (model prog w) A (.call (.builtin "dict.get") ⟨[.ref c, .str (letter x) tk], []⟩) R s := by
  refine call_sub (owner := "dict") (n := "get") B H (inst_ (H.obj hx.mem) rfl (H.obj hdx.mem)) (many_dict w) (by decide +kernel) F.entry_dict_get (.inr (by decide +kernel)) (by decide +kernel) (F.args_dict_get_2 _ _) ?_
  show wpAny _ _ (dictGet c (.str (letter x) tk) >>= _) _ _ s
  refine wpAny_bind (wp_dictGet (H.obj hx.mem) rfl ?_)
  have := hR _ (H.toks (t := s.toks + 1))
  cases e : l.find? (·.1 == x) with
  | some v => rw [e] at this; exact wpAny_pure this
  | none =>
    rw [e] at this
    show wpAny _ _ (Builtin.Dict.missed c (.str (letter x) tk) >>= _) _ _ _
    have hlow : (c == sysModules) = false := by
      have h1 := Cell.base (H.sat _ hx.mem) rfl
      have h2 := B.low
      rw [beq_eq_false_iff_ne]
      intro e; rw [e] at h1; exact absurd (Nat.lt_of_lt_of_le h2 h1) (by decide)
    exact wpAny_bind (wpAny_missed_other hlow (wpAny_pure this))
end Mine
end
section
open PySem PySem.W PySem.Calls PyProof.Rows
set_option Elab.async false
set_option maxRecDepth 100000
set_option maxHeartbeats 4000000
set_option linter.unusedVariables false
namespace Mine
local macro_rules | `(tactic| walk_at "m_fill") => `(tactic| ((have dummy : PySem.Challenge.rw_ez0279_01 = PySem.Challenge.rw_ez0279_01 ∧ hd.heap_39 = hd.heap_39 := by k_fill; exact ⟨rfl, rfl⟩); clear dummy))
local macro_rules | `(tactic| walk_at "m_facts") => `(tactic| (constructor <;> first | k_dflt k_is | decide +kernel))
theorem sl_fill_T2 : True := by walk_at "m_fill"; trivial
local macro_rules | `(tactic| walk_at "m_has") => `(tactic| with_reducible first | exact Has.head | (refine Has.tail ?_; walk_at "m_has") | (refine Has.of ?_; assumption) | assumption)
local macro_rules | `(tactic| walk_at "m_at") => `(tactic| with_reducible first | exact At.head | (refine At.tail ?_; walk_at "m_at"))
local macro_rules | `(tactic| walk_at "m_sub") => `(tactic| with_reducible first | exact Sub1.head | (apply Sub1.tail; walk_at "m_sub"))
local macro_rules | `(tactic| walk_at "m_put") => `(tactic| with_reducible first | exact PutAt.head | (apply PutAt.tail; walk_at "m_put"))
local macro_rules | `(tactic| walk_at "m_rem") => `(tactic| with_reducible first | exact Rem.head | (apply Rem.tail; walk_at "m_rem"))
local macro_rules | `(tactic| walk_at "m_pick") => `(tactic| with_reducible first | exact Pick.all | (apply Pick.take; (focus (walk_at "m_rem")); walk_at "m_pick") | (apply Pick.skip; walk_at "m_pick"))
local macro_rules | `(tactic| walk_at "m_room") => `(tactic| first | assumption | omega)
local macro_rules | `(tactic| walk_at "m_name") => `(tactic| refine nm (by assumption) (by assumption) (by walk_at "m_has") (by walk_at "m_at") (by decide) (by decide) ?_)
local macro_rules | `(tactic| walk_at "m_slotget") => `(tactic| (refine attr_slot (by assumption) (by first | exact sl_step _ | exact sl_node _ | exact sl_children _ | exact sl_value _) (by assumption) (by walk_at "m_has") (by exact rfl) (by walk_at "m_has") (by exact rfl) (by exact rfl) ?_))
local macro_rules | `(tactic| walk_at "m_store") => `(tactic| refine st_ (by assumption) (by assumption) (by decide) (by walk_at "m_sub") (by walk_at "m_put") ?_)
local macro_rules | `(tactic| walk_at "m_glob") => `(tactic| (refine glob (by assumption) (by assumption) (by assumption) (by decide) (by k_dflt k_is) (by decide) ?_))
variable {w : World} {A : Around} {E : Value → Shared → Prop} {b s : Shared} {cs cs' : List Cell} {R : Result → Shared → Prop} {env : Env} {pos : Pos}

theorem letter_beq (x k : Nat) : (letter x == letter k) = (k == x) := by
  by_cases h : k = x
  · subst h; simp
  · have : (letter x == letter k) = false := by
      rw [beq_eq_false_iff_ne]; intro e; injection e with e; simp at e; exact h e.symm
    rw [this]; simp [h]
/-- node.children.get(letter) -/
theorem kid_get {n : Nd} {x : Nat} {tk : Tok} {arg : Expr} {pl : Sem Bool} {Q : Value → Shared → Prop} (B : Base (hd.heap_39 w.params) b) (H : St b s cs) (hin : ∀ c ∈ n.cells w.params D0, c ∈ cs) (hok : n.ok D0) (hA : A.depth < recursionLimit)
  (he : starEach [arg] env = (false, eval arg env) :: starEach [] env)
  (harg : ∀ s' (Q' : Value → Shared → Prop), St b s' cs → (∀ s'', St b s'' cs → Q' (.str (letter x) tk) s'') → wpAny (model prog w) A (eval arg env) Q' E s')
  (h : ∀ s', St b s' cs → Q (match n.ch.look x with | some m => .ref m.a | none => .none) s') :
  wpAny (model prog w) A (getMethod (chVal D0 n.kd) "get" pl) (fun fx s₂ => wpAny (model prog w) A (callWith pos fx.1 fx.2 (backTo pos (starEach [arg] env)) []) Q E s₂) E s := by
  obtain ⟨a, dx, v, kd, ch⟩ := n
  cases kd with
  | no =>
    have hch : ch = .nil := by
      have := hok.2.1
      cases ch with
      | nil => rfl
      | cons => cases this
    subst hch
    refine methTop B (me_no_get w) H (nc_look w) rfl (nc_dict w) rfl ?_
    refine callK B H (kp_no_get w) he rfl ?_
    rw [he]
    rw [show backTo pos ((false, eval arg env) :: starEach [] env) = backTo pos (starEach [arg] env) from by rw [he]]
    refine spliced_more (harg _ _ H fun s' H' => spliced_none ⟨⟨_, H'⟩, ?_⟩) he
    exact wpAny_call (no_get B H' hA fun s' H' => h s' H')
  | one c dx' =>
    obtain ⟨k, hk⟩ := hok.2.1
    cases ch with
    | nil => cases hk
    | cons k' tk' a' dx2 v' kd' ch' r =>
      cases r with
      | cons => cases hk
      | nil =>
        have h1 : Has (.o c (oneObj D0 dx' (.ref a') (.str (letter k') tk'))) cs := .of (hin _ (by simp [Nd.cells, chCells, Fo.ents]))
        have h2 : Has (.o dx' noDict) cs := .of (hin _ (by simp [Nd.cells, chCells, Fo.ents]))
        refine meth B (me_one_get w) H h1 rfl h2 rfl ?_
        refine callK B H (kp_one_get w) he rfl ?_
        refine spliced_more (harg _ _ H fun s' H' => spliced_none ⟨⟨_, H'⟩, ?_⟩) he
        refine wpAny_call (one_get B H' h1 h2 hA rfl fun s' H' => ?_)
        have := h s' H'
        rw [letter_beq]
        by_cases q : k' = x
        · simpa [Fo.look, q] using this
        · simpa [Fo.look, q] using this
  | many c dx' ep =>
    have h1 : Has (.o c (manyObj D0 dx' (ch.ents.map (entOf w.params)) ep)) cs := .of (hin _ (by simp [Nd.cells, chCells]))
    have h2 : Has (.o dx' noDict) cs := .of (hin _ (by simp [Nd.cells, chCells]))
    refine meth B (me_many_get w) H h1 rfl h2 rfl ?_
    refine callWith_method1 (spliced_more (harg _ _ H fun s' H' => spliced_none ?_) he) he rfl
    refine wpAny_call (many_get B H' h1 h2 fun s' H' => ?_)
    have := h s' H'
    have e := Fo.look_ent (x := x) (f := ch)
    cases q : ch.look x with
    | none => rw [q] at e this; cases q2 : ch.ents.find? (·.1 == x) with
      | none => exact this
      | some p => rw [q2] at e; cases e
    | some m => rw [q] at e this; cases q2 : ch.ents.find? (·.1 == x) with
      | none => rw [q2] at e; cases e
      | some p => rw [q2] at e; injection e with e; dsimp only at e this ⊢; rw [e] at this; exact this
end Mine
end
section
open PySem PySem.W PySem.Calls PyProof.Rows
set_option Elab.async false
set_option maxRecDepth 100000
set_option maxHeartbeats 4000000
set_option linter.unusedVariables false
namespace Mine
local macro_rules | `(tactic| walk_at "m_fill") => `(tactic| ((have dummy : PySem.Challenge.rw_ez0279_01 = PySem.Challenge.rw_ez0279_01 ∧ hd.heap_39 = hd.heap_39 := by k_fill; exact ⟨rfl, rfl⟩); clear dummy))
local macro_rules | `(tactic| walk_at "m_facts") => `(tactic| (constructor <;> first | k_dflt k_is | decide +kernel))
theorem sl_fill_T3 : True := by walk_at "m_fill"; trivial
local macro_rules | `(tactic| walk_at "m_has") => `(tactic| with_reducible first | exact Has.head | (refine Has.tail ?_; walk_at "m_has") | (refine Has.of ?_; assumption) | assumption)
local macro_rules | `(tactic| walk_at "m_at") => `(tactic| with_reducible first | exact At.head | (refine At.tail ?_; walk_at "m_at"))
local macro_rules | `(tactic| walk_at "m_sub") => `(tactic| with_reducible first | exact Sub1.head | (apply Sub1.tail; walk_at "m_sub"))
local macro_rules | `(tactic| walk_at "m_put") => `(tactic| with_reducible first | exact PutAt.head | (apply PutAt.tail; walk_at "m_put"))
local macro_rules | `(tactic| walk_at "m_rem") => `(tactic| with_reducible first | exact Rem.head | (apply Rem.tail; walk_at "m_rem"))
local macro_rules | `(tactic| walk_at "m_pick") => `(tactic| with_reducible first | exact Pick.all | (apply Pick.take; (focus (walk_at "m_rem")); walk_at "m_pick") | (apply Pick.skip; walk_at "m_pick"))
local macro_rules | `(tactic| walk_at "m_room") => `(tactic| first | assumption | omega)
local macro_rules | `(tactic| walk_at "m_name") => `(tactic| refine nm (by assumption) (by assumption) (by walk_at "m_has") (by walk_at "m_at") (by decide) (by decide) ?_)
local macro_rules | `(tactic| walk_at "m_slotget") => `(tactic| (refine attr_slot (by assumption) (by first | exact sl_step _ | exact sl_node _ | exact sl_children _ | exact sl_value _) (by assumption) (by walk_at "m_has") (by exact rfl) (by walk_at "m_has") (by exact rfl) (by exact rfl) ?_))
local macro_rules | `(tactic| walk_at "m_store") => `(tactic| refine st_ (by assumption) (by assumption) (by decide) (by walk_at "m_sub") (by walk_at "m_put") ?_)
local macro_rules | `(tactic| walk_at "m_glob") => `(tactic| (refine glob (by assumption) (by assumption) (by assumption) (by decide) (by k_dflt k_is) (by decide) ?_))
variable {w : World} {A : Around} {E : Value → Shared → Prop} {b s : Shared} {cs cs' : List Cell} {R : Result → Shared → Prop} {env : Env} {pos : Pos}

abbrev S (x : String) : Str := PySem.Str.ofString x
/-- a CharTrie: its object and its dict -/
abbrev trieObj (td : Addr) : Obj := ⟨.ref 839, some td, .plain, #[]⟩
def trieEs (P : Params) (r cb : Value) (t1 t2 : Tok) : List DictEntry := [⟨PyData.keyHash P (S "_root"), .str (S "_root") t1, r⟩, ⟨PyData.keyHash P (S "_items_callback"), .str (S "_items_callback") t2, cb⟩]
theorem ow_root (w : World) : OwnOf (hd.heap_39 w.params) 839 (PySem.Str.ofString "_root") := by walk_at "m_facts"
theorem ow_items (w : World) : OwnOf (hd.heap_39 w.params) 839 (PySem.Str.ofString "_items_callback") := by walk_at "m_facts"
theorem chVal_handed (kd : Kd) : handedIn (chVal D0 kd) = true := by cases kd <;> rfl
set_option pp.maxSteps 4000
theorem find_along {a td : Addr} {r : Nd} {cb : Value} {t1 t2 : Tok} {ep : Nat} {x : Str} {tk : Tok} (B : Base (hd.heap_39 w.params) b) (H : St b s cs) (h1 : Has (.o a (trieObj td)) cs) (h2 : Has (.o td (dictOf (trieEs w.params (.ref r.a) cb t1 t2) ep)) cs)
   (hin : ∀ c ∈ r.cells w.params D0, c ∈ cs) (hok : r.ok D0) (hx : (x.cps.all fun c => decide (c < 128)) = true) (hA : A.depth + 2 < recursionLimit) (hh : A.handled = none)
   (hR : ∀ s', St b s' cs → R (.ok (.ret (match r.find x.cps.toList with | some m => .ref m.a | none => .none))) s') : codeAny (model prog w) A (.call (.ref 547) ⟨[.ref a, .str x tk], []⟩) R s := by
  have hA0 : A.depth < recursionLimit := by omega
  refine enterN (K := (hd.heap_39 w.params)) (nk := [((PySem.Str.ofString "self"), .local), ((PySem.Str.ofString "path"), .local), ((PySem.Str.ofString "node"), .local), ((PySem.Str.ofString "step"), .local), ((PySem.Str.ofString "n"), .local)]) ⟨⟨_, _, _, by k_dflt k_is⟩, by k_dflt k_is, by exact rfl, by exact rfl, by exact rfl, by exact rfl, by exact rfl, by exact rfl⟩ (by exact rfl) [(PySem.Str.ofString "self"), (PySem.Str.ofString "path"), (PySem.Str.ofString "node"), (PySem.Str.ofString "step"), (PySem.Str.ofString "n")] [some (.ref a), some (.str x tk), none, none, none] (by assumption) (by assumption) (by walk_at "m_room") (by exact BindsTo.of_eq rfl) (by decide) (by exact locsN rfl) (by decide) (by exact rfl) (by exact rfl) ?_
  clear H; intro s L env V H
  refine wpAny_execs_cons (wpAny_Assign_Name (Attribute_Name_ ?_))
  walk_at "m_name"
  refine attr_own (by assumption) (ow_root _) (by assumption) (by walk_at "m_has") (by walk_at "m_has") (v := .ref r.a) (by exact rfl) (by exact rfl) ?_
  clear H; intro s H
  walk_at "m_store"
  clear H; intro s H
  refine wpAny_execs_cons (wpAny_For ?_ (fun _ => rfl))
  walk_at "m_name"
  refine iterStr H hx ?_
  clear H; intro s it H
  refine forName (fun n s => ∃ i m v1 v2, n + i = x.cps.size ∧ r.find (x.cps.toList.take i) = some m ∧ St b s (.p it (StrIt x tk i) :: .f L [S "self", S "path", S "node", S "step", S "n"] [some (.ref a), some (.str x tk), some (.ref m.a), v1, v2] :: cs)) ?_ x.cps.size ⟨0, r, none, none, by omega, rfl, H⟩
  rintro n s ⟨i, m, v1, v2, hn, hm, H⟩
  have hme := Nd.find_cells (P := w.params) (D := D0) hm
  have hmo := Nd.find_ok hm hok
  cases n with
  | zero =>
    refine endStr (d := .f L _ _) hh H (by rw [Array.getElem?_eq_none_iff]; omega) .head rfl ?_
    clear H; intro s H
    refine wpAny_execs_cons (wpAny_Return_some ?_)
    walk_at "m_name"
    have := hR s (H.mono (List.sublist_cons_self _ _))
    rw [List.take_of_length_le (by simp; omega)] at hm
    rw [hm] at this
    exact this
  | succ n =>
    have hi : i < x.cps.size := by omega
    refine nextStr H .head (Array.getElem?_eq_getElem hi) ?_
    clear H; intro s tk' H
    walk_at "m_store"
    clear H; intro s H
    refine wpAny_execs_cons (wpAny_Assign_Name (MethodCall_ (Attribute_Name_ ?_)))
    walk_at "m_name"
    have hn1 : Cell.o m.a (nodeObj D0 m.dx (chVal D0 m.kd) m.v) ∈ cs := hin _ (hme _ (List.mem_cons_self ..))
    have hn2 : Cell.o m.dx noDict ∈ cs := hin _ (hme _ (List.mem_cons_of_mem _ (List.mem_cons_self ..)))
    refine attr_slot B (sl_children w) H (by walk_at "m_has") rfl (by walk_at "m_has") rfl (chVal_handed _) ?_
    clear H; intro s H
    refine kid_get B H (fun c hc => .tail _ (.tail _ (hin c (hme c hc)))) hmo (show A.depth + 1 < recursionLimit by omega) rfl (fun s' Q' H' k => nm V H' (by walk_at "m_has") (by walk_at "m_at") (by decide) (by decide) (k s' H')) ?_
    clear H; intro s H
    walk_at "m_store"
    clear H; intro s H
    have hfind : r.find (x.cps.toList.take (i + 1)) = m.ch.look (x.cps[i]) := by
      have e : x.cps.toList.take (i + 1) = x.cps.toList.take i ++ [x.cps[i]] := by
        rw [List.take_add_one]; simp [hi]
      rw [e, Nd.find_append, hm]
      cases q : m.ch.look (x.cps[i]) <;> simp [Nd.find, q]
    refine wpAny_execs_cons (wpAny_If (wpAny_isTrue_Compare1 ?_))
    walk_at "m_name"
    refine wpAny_Constant_none ?_
    cases q : m.ch.look (x.cps[i]) with
    | none =>
      refine wpAny_is_plain rfl (wpAny_truthy_bool ?_)
      refine wpAny_execs_cons (wpAny_Return_some (wpAny_Constant_none ?_))
      have := hR s (H.mono ((List.sublist_cons_self _ _).trans (List.sublist_cons_self _ _)))
      have e : r.find x.cps.toList = none := by
        have h2 : x.cps.toList = x.cps.toList.take (i + 1) ++ x.cps.toList.drop (i + 1) := (List.take_append_drop _ _).symm
        rw [h2, Nd.find_append, hfind, q]; rfl
      rw [e] at this; exact this
    | some m' =>
      rw [q] at H
      refine wpAny_is_plain rfl (wpAny_truthy_bool ?_)
      refine wpAny_execs_nil ?_
      refine wpAny_execs_cons (wpAny_Assign_Name ?_)
      walk_at "m_name"
      walk_at "m_store"
      clear H; intro s H
      refine wpAny_execs_nil ⟨n, Nat.lt_succ_self _, i + 1, m', _, _, by omega, by rw [hfind, q], H⟩
end Mine
end
section
open PySem PySem.W PySem.Calls PyProof.Rows
set_option Elab.async false
set_option maxRecDepth 100000
set_option maxHeartbeats 4000000
set_option linter.unusedVariables false
namespace Mine
local macro_rules | `(tactic| walk_at "m_fill") => `(tactic| ((have dummy : PySem.Challenge.rw_ez0279_01 = PySem.Challenge.rw_ez0279_01 ∧ hd.heap_39 = hd.heap_39 := by k_fill; exact ⟨rfl, rfl⟩); clear dummy))
local macro_rules | `(tactic| walk_at "m_facts") => `(tactic| (constructor <;> first | k_dflt k_is | decide +kernel))
theorem sl_fill_T4 : True := by walk_at "m_fill"; trivial
local macro_rules | `(tactic| walk_at "m_has") => `(tactic| with_reducible first | exact Has.head | (refine Has.tail ?_; walk_at "m_has") | (refine Has.of ?_; assumption) | assumption)
local macro_rules | `(tactic| walk_at "m_at") => `(tactic| with_reducible first | exact At.head | (refine At.tail ?_; walk_at "m_at"))
local macro_rules | `(tactic| walk_at "m_sub") => `(tactic| with_reducible first | exact Sub1.head | (apply Sub1.tail; walk_at "m_sub"))
local macro_rules | `(tactic| walk_at "m_put") => `(tactic| with_reducible first | exact PutAt.head | (apply PutAt.tail; walk_at "m_put"))
local macro_rules | `(tactic| walk_at "m_rem") => `(tactic| with_reducible first | exact Rem.head | (apply Rem.tail; walk_at "m_rem"))
local macro_rules | `(tactic| walk_at "m_pick") => `(tactic| with_reducible first | exact Pick.all | (apply Pick.take; (focus (walk_at "m_rem")); walk_at "m_pick") | (apply Pick.skip; walk_at "m_pick"))
local macro_rules | `(tactic| walk_at "m_room") => `(tactic| first | assumption | omega)
local macro_rules | `(tactic| walk_at "m_name") => `(tactic| refine nm (by assumption) (by assumption) (by walk_at "m_has") (by walk_at "m_at") (by decide) (by decide) ?_)
local macro_rules | `(tactic| walk_at "m_slotget") => `(tactic| (refine attr_slot (by assumption) (by first | exact sl_step _ | exact sl_node _ | exact sl_children _ | exact sl_value _) (by assumption) (by walk_at "m_has") (by exact rfl) (by walk_at "m_has") (by exact rfl) (by exact rfl) ?_))
local macro_rules | `(tactic| walk_at "m_store") => `(tactic| refine st_ (by assumption) (by assumption) (by decide) (by walk_at "m_sub") (by walk_at "m_put") ?_)
local macro_rules | `(tactic| walk_at "m_glob") => `(tactic| (refine glob (by assumption) (by assumption) (by assumption) (by decide) (by k_dflt k_is) (by decide) ?_))
variable {w : World} {A : Around} {E : Value → Shared → Prop} {b s : Shared} {cs cs' : List Cell} {R : Result → Shared → Prop} {env : Env} {pos : Pos}

theorem me_pfk (w : World) : MethOf (hd.heap_39 w.params) 839 (S "_Trie__path_from_key") (.ref 793) gaO tF := by walk_at "m_facts"
theorem me_pfk1 (w : World) : MethOf (hd.heap_39 w.params) 839 (S "_path_from_key") (.ref 800) gaO tF := by walk_at "m_facts"
theorem me_fna (w : World) : MethOf (hd.heap_39 w.params) 839 (S "_find_node_along") (.ref 547) gaO tF := by walk_at "m_facts"
theorem me_fn (w : World) : MethOf (hd.heap_39 w.params) 839 (S "_find_node") (.ref 540) gaO tF := by walk_at "m_facts"
theorem kp_pfk (w : World) : keepIn (hd.heap_39 w.params) (.ref 793) = true := by k_dflt k_is
theorem kp_pfk1 (w : World) : keepIn (hd.heap_39 w.params) (.ref 800) = true := by k_dflt k_is
theorem kp_fna (w : World) : keepIn (hd.heap_39 w.params) (.ref 547) = true := by k_dflt k_is
theorem kp_fn (w : World) : keepIn (hd.heap_39 w.params) (.ref 540) = true := by k_dflt k_is
theorem kp_ins (w : World) : keepIn (hd.heap_39 w.params) (.ref 57) = true := by k_dflt k_is

theorem is_not_sentinel {v : Value} {r : Bool} (B : Base (hd.heap_39 w.params) b) (H : St b s cs) (hv : PySem.plainIs v (.ref 50) = true) (hr : (!(v == .ref 50)) = r) (hA : A.depth < recursionLimit)
   (hR : ∀ s', St b s' cs → R (.ok (.ret (.bool r))) s') : codeAny (model prog w) A (.call (.ref 57) ⟨[v], []⟩) R s := by
  refine enterN (K := (hd.heap_39 w.params)) (nk := [((PySem.Str.ofString "value"), .local), ((PySem.Str.ofString "_SENTINEL"), .globalImplicit)]) ⟨⟨_, _, _, by k_dflt k_is⟩, by k_dflt k_is, by exact rfl, by exact rfl, by exact rfl, by exact rfl, by exact rfl, by exact rfl⟩ (by exact rfl) [(PySem.Str.ofString "value")] [some (v)] (by assumption) (by assumption) (by walk_at "m_room") (by exact BindsTo.of_eq rfl) (by decide) (by exact locsN rfl) (by decide) (by exact rfl) (by exact rfl) ?_
  clear H; intro s L env V H
  refine wpAny_execs_cons (wpAny_Return_some (wpAny_Compare1 ?_))
  walk_at "m_name"
  walk_at "m_glob"
  refine wpAny_isNot_plain hv ?_
  rw [hr]
  exact hR _ (H.mono (List.sublist_cons_self _ _))
theorem pfk1 {a : Addr} {v : Value} (B : Base (hd.heap_39 w.params) b) (H : St b s cs) (hA : A.depth < recursionLimit)
   (hR : ∀ s', St b s' cs → R (.ok (.ret v)) s') : codeAny (model prog w) A (.call (.ref 800) ⟨[.ref a, v], []⟩) R s := by
  refine enterN (K := (hd.heap_39 w.params)) (nk := [((PySem.Str.ofString "self"), .local), ((PySem.Str.ofString "key"), .local)]) ⟨⟨_, _, _, by k_dflt k_is⟩, by k_dflt k_is, by exact rfl, by exact rfl, by exact rfl, by exact rfl, by exact rfl, by exact rfl⟩ (by exact rfl) [(PySem.Str.ofString "self"), (PySem.Str.ofString "key")] [some (.ref a), some (v)] (by assumption) (by assumption) (by walk_at "m_room") (by exact BindsTo.of_eq rfl) (by decide) (by exact locsN rfl) (by decide) (by exact rfl) (by exact rfl) ?_
  clear H; intro s L env V H
  refine wpAny_execs_cons (wpAny_Return_some ?_)
  walk_at "m_name"
  exact hR _ (H.mono (List.sublist_cons_self _ _))
theorem pfk {a td : Addr} {r cb : Value} {t1 t2 : Tok} {ep : Nat} {x : Str} {tk : Tok} (B : Base (hd.heap_39 w.params) b) (H : St b s cs) (h1 : Has (.o a (trieObj td)) cs) (h2 : Has (.o td (dictOf (trieEs w.params r cb t1 t2) ep)) cs) (hA : A.depth + 2 < recursionLimit)
   (hR : ∀ s', St b s' cs → R (.ok (.ret (.str x tk))) s') : codeAny (model prog w) A (.call (.ref 793) ⟨[.ref a, .str x tk], []⟩) R s := by
  have hA0 : A.depth < recursionLimit := by omega
  refine enterN (K := (hd.heap_39 w.params)) (nk := [((PySem.Str.ofString "self"), .local), ((PySem.Str.ofString "key"), .local), ((PySem.Str.ofString "_is_not_sentinel"), .globalImplicit)]) ⟨⟨_, _, _, by k_dflt k_is⟩, by k_dflt k_is, by exact rfl, by exact rfl, by exact rfl, by exact rfl, by exact rfl, by exact rfl⟩ (by exact rfl) [(PySem.Str.ofString "self"), (PySem.Str.ofString "key")] [some (.ref a), some (.str x tk)] (by assumption) (by assumption) (by walk_at "m_room") (by exact BindsTo.of_eq rfl) (by decide) (by exact locsN rfl) (by decide) (by exact rfl) (by exact rfl) ?_
  clear H; intro s L env V H
  have hA1 : (A.deeper env).depth < recursionLimit := show A.depth + 1 < recursionLimit by omega
  refine wpAny_execs_cons (wpAny_Return_some (wpAny_IfExp (isTrue_plain (Call_ ?_))))
  walk_at "m_glob"
  refine callK B H (kp_ins w) rfl rfl (spliced_more ?_)
  walk_at "m_name"
  refine spliced_none ⟨⟨_, H⟩, wpAny_call (is_not_sentinel B H rfl rfl hA1 ?_)⟩
  clear H; intro s H
  refine wpAny_truthy_bool ?_
  refine MethodCall_ ?_
  walk_at "m_name"
  refine meth B (me_pfk1 w) H (by walk_at "m_has") rfl (by walk_at "m_has") rfl ?_
  refine callK B H (kp_pfk1 w) rfl rfl (spliced_more ?_)
  walk_at "m_name"
  refine spliced_none ⟨⟨_, H⟩, wpAny_call (pfk1 B H hA1 ?_)⟩
  clear H; intro s H
  exact hR _ (H.mono (List.sublist_cons_self _ _))
theorem find_node {a td : Addr} {r : Nd} {cb : Value} {t1 t2 : Tok} {ep : Nat} {x : Str} {tk : Tok} (B : Base (hd.heap_39 w.params) b) (H : St b s cs) (h1 : Has (.o a (trieObj td)) cs) (h2 : Has (.o td (dictOf (trieEs w.params (.ref r.a) cb t1 t2) ep)) cs)
   (hin : ∀ c ∈ r.cells w.params D0, c ∈ cs) (hok : r.ok D0) (hx : (x.cps.all fun c => decide (c < 128)) = true) (hA : A.depth + 4 < recursionLimit) (hh : A.handled = none)
   (hR : ∀ s', St b s' cs → R (.ok (.ret (match r.find x.cps.toList with | some m => .ref m.a | none => .none))) s') : codeAny (model prog w) A (.call (.ref 540) ⟨[.ref a, .str x tk], []⟩) R s := by
  have hA0 : A.depth < recursionLimit := by omega
  refine enterN (K := (hd.heap_39 w.params)) (nk := [((PySem.Str.ofString "self"), .local), ((PySem.Str.ofString "key"), .local)]) ⟨⟨_, _, _, by k_dflt k_is⟩, by k_dflt k_is, by exact rfl, by exact rfl, by exact rfl, by exact rfl, by exact rfl, by exact rfl⟩ (by exact rfl) [(PySem.Str.ofString "self"), (PySem.Str.ofString "key")] [some (.ref a), some (.str x tk)] (by assumption) (by assumption) (by walk_at "m_room") (by exact BindsTo.of_eq rfl) (by decide) (by exact locsN rfl) (by decide) (by exact rfl) (by exact rfl) ?_
  clear H; intro s L env V H
  refine wpAny_execs_cons (wpAny_Return_some (MethodCall_ ?_))
  walk_at "m_name"
  refine meth B (me_fna w) H (by walk_at "m_has") rfl (by walk_at "m_has") rfl ?_
  refine callK B H (kp_fna w) rfl rfl (spliced_more (MethodCall_ ?_))
  walk_at "m_name"
  refine meth B (me_pfk w) H (by walk_at "m_has") rfl (by walk_at "m_has") rfl ?_
  refine callK B H (kp_pfk w) rfl rfl (spliced_more ?_)
  walk_at "m_name"
  refine spliced_none ⟨⟨_, H⟩, wpAny_call (pfk B H (.tail h1) (.tail h2) (show A.depth + 1 + 2 < _ by omega) ?_)⟩
  clear H; intro s H
  refine spliced_none ⟨⟨_, H⟩, wpAny_call (find_along B H (.tail h1) (.tail h2) (fun c hc => .tail _ (hin c hc)) hok hx (show A.depth + 1 + 2 < _ by omega) hh ?_)⟩
  clear H; intro s H
  exact hR _ (H.mono (List.sublist_cons_self _ _))
end Mine
end
section
open PySem PySem.W PySem.Calls PyProof.Rows
set_option Elab.async false
set_option maxRecDepth 100000
set_option maxHeartbeats 4000000
set_option linter.unusedVariables false
namespace Mine
local macro_rules | `(tactic| walk_at "m_fill") => `(tactic| ((have dummy : PySem.Challenge.rw_ez0279_01 = PySem.Challenge.rw_ez0279_01 ∧ hd.heap_39 = hd.heap_39 := by k_fill; exact ⟨rfl, rfl⟩); clear dummy))
local macro_rules | `(tactic| walk_at "m_facts") => `(tactic| (constructor <;> first | k_dflt k_is | decide +kernel))
theorem sl_fill_T5 : True := by walk_at "m_fill"; trivial
local macro_rules | `(tactic| walk_at "m_has") => `(tactic| with_reducible first | exact Has.head | (refine Has.tail ?_; walk_at "m_has") | (refine Has.of ?_; assumption) | assumption)
local macro_rules | `(tactic| walk_at "m_at") => `(tactic| with_reducible first | exact At.head | (refine At.tail ?_; walk_at "m_at"))
local macro_rules | `(tactic| walk_at "m_sub") => `(tactic| with_reducible first | exact Sub1.head | (apply Sub1.tail; walk_at "m_sub"))
local macro_rules | `(tactic| walk_at "m_put") => `(tactic| with_reducible first | exact PutAt.head | (apply PutAt.tail; walk_at "m_put"))
local macro_rules | `(tactic| walk_at "m_rem") => `(tactic| with_reducible first | exact Rem.head | (apply Rem.tail; walk_at "m_rem"))
local macro_rules | `(tactic| walk_at "m_pick") => `(tactic| with_reducible first | exact Pick.all | (apply Pick.take; (focus (walk_at "m_rem")); walk_at "m_pick") | (apply Pick.skip; walk_at "m_pick"))
local macro_rules | `(tactic| walk_at "m_room") => `(tactic| first | assumption | omega)
local macro_rules | `(tactic| walk_at "m_name") => `(tactic| refine nm (by assumption) (by assumption) (by walk_at "m_has") (by walk_at "m_at") (by decide) (by decide) ?_)
local macro_rules | `(tactic| walk_at "m_slotget") => `(tactic| (refine attr_slot (by assumption) (by first | exact sl_step _ | exact sl_node _ | exact sl_children _ | exact sl_value _) (by assumption) (by walk_at "m_has") (by exact rfl) (by walk_at "m_has") (by exact rfl) (by exact rfl) ?_))
local macro_rules | `(tactic| walk_at "m_store") => `(tactic| refine st_ (by assumption) (by assumption) (by decide) (by walk_at "m_sub") (by walk_at "m_put") ?_)
local macro_rules | `(tactic| walk_at "m_glob") => `(tactic| (refine glob (by assumption) (by assumption) (by assumption) (by decide) (by k_dflt k_is) (by decide) ?_))
variable {w : World} {A : Around} {E : Value → Shared → Prop} {b s : Shared} {cs cs' : List Cell} {R : Result → Shared → Prop} {env : Env} {pos : Pos}

theorem ss_step (w : World) : SlotSet (hd.heap_39 w.params) 227 (S "step") 229 1 := by walk_at "m_facts"
theorem ss_node (w : World) : SlotSet (hd.heap_39 w.params) 227 (S "node") 228 0 := by walk_at "m_facts"
theorem ss_children (w : World) : SlotSet (hd.heap_39 w.params) 360 (S "children") 361 0 := by walk_at "m_facts"
theorem ss_value (w : World) : SlotSet (hd.heap_39 w.params) 360 (S "value") 362 1 := by walk_at "m_facts"
theorem mk_node (w : World) : makesIn (hd.heap_39 w.params) 360 = true := by k_dflt k_is
theorem mk_one (w : World) : makesIn (hd.heap_39 w.params) 227 = true := by k_dflt k_is
theorem in_node (w : World) : findIn (hd.heap_39 w.params) (.ref 360) "__init__" = some (some (.ref 314)) := by k_dflt k_is
theorem in_one (w : World) : findIn (hd.heap_39 w.params) (.ref 227) "__init__" = some (some (.ref 160)) := by k_dflt k_is
theorem ty_inode (w : World) : typeIn (hd.heap_39 w.params) (.ref 314) = some (.type "function") := by k_dflt k_is
theorem ty_ione (w : World) : typeIn (hd.heap_39 w.params) (.ref 160) = some (.type "function") := by k_dflt k_is
theorem kp_node (w : World) : keepIn (hd.heap_39 w.params) (.ref 360) = true := by k_dflt k_is
theorem kp_one (w : World) : keepIn (hd.heap_39 w.params) (.ref 227) = true := by k_dflt k_is
theorem node_new (B : Base (hd.heap_39 w.params) b) (H : St b s cs) (hA : A.depth + 2 < recursionLimit)
  (hR : ∀ s' x dx, St b s' (.o x (nodeObj D0 dx (.ref D0.nc) (.ref D0.noval)) :: .o dx noDict :: cs) → R (.ok (.ret (.ref x))) s') : codeAny (model prog w) A (.call (.ref 360) ⟨[], []⟩) R s := by
  refine make B H (mk_node w) (in_node w) (ty_inode w) ?_
  clear H; intro s x dx H
  have hA' : (A.under (.builtin "type.__call__" ⟨.ref 360 :: [], []⟩)).depth < recursionLimit := by rw [depth_under_make]; omega
  refine enterN (K := (hd.heap_39 w.params)) (nk := [((PySem.Str.ofString "self"), .local), ((PySem.Str.ofString "_NO_CHILDREN"), .globalImplicit), ((PySem.Str.ofString "_NOVAL"), .globalImplicit)]) ⟨⟨_, _, _, by k_dflt k_is⟩, by k_dflt k_is, by exact rfl, by exact rfl, by exact rfl, by exact rfl, by exact rfl, by exact rfl⟩ (by exact rfl) [(PySem.Str.ofString "self")] [some (.ref x)] (by assumption) (by assumption) (by walk_at "m_room") (by exact BindsTo.of_eq rfl) (by decide) (by exact locsN rfl) (by decide) (by exact rfl) (by exact rfl) ?_
  clear H; intro s L env V H
  refine wpAny_execs_cons (plainObj_wpAny_Assign_Attribute ?_)
  walk_at "m_glob"
  walk_at "m_name"
  refine set_slot_ B (ss_children w) H (by walk_at "m_has") (by walk_at "m_sub") rfl (by walk_at "m_has") (by decide) rfl rfl ?_
  clear H; intro s H
  refine wpAny_execs_cons (plainObj_wpAny_Assign_Attribute ?_)
  walk_at "m_glob"
  walk_at "m_name"
  refine set_slot_ B (ss_value w) H (by walk_at "m_has") (by walk_at "m_sub") rfl (by walk_at "m_has") (by decide) rfl rfl ?_
  clear H; intro s H
  refine wpAny_execs_nil ?_
  exact ⟨rfl, hR _ _ _ (H.mono (List.sublist_cons_self _ _))⟩
theorem one_new {nd st : Value} (B : Base (hd.heap_39 w.params) b) (H : St b s cs) (hA : A.depth + 2 < recursionLimit)
  (hR : ∀ s' x dx, St b s' (.o x (oneObj D0 dx nd st) :: .o dx noDict :: cs) → R (.ok (.ret (.ref x))) s') : codeAny (model prog w) A (.call (.ref 227) ⟨[st, nd], []⟩) R s := by
  refine make B H (mk_one w) (in_one w) (ty_ione w) ?_
  clear H; intro s x dx H
  have hA' : (A.under (.builtin "type.__call__" ⟨.ref 227 :: [st, nd], []⟩)).depth < recursionLimit := by rw [depth_under_make]; omega
  refine enterN (K := (hd.heap_39 w.params)) (nk := [((PySem.Str.ofString "self"), .local), ((PySem.Str.ofString "step"), .local), ((PySem.Str.ofString "node"), .local)]) ⟨⟨_, _, _, by k_dflt k_is⟩, by k_dflt k_is, by exact rfl, by exact rfl, by exact rfl, by exact rfl, by exact rfl, by exact rfl⟩ (by exact rfl) [(PySem.Str.ofString "self"), (PySem.Str.ofString "step"), (PySem.Str.ofString "node")] [some (.ref x), some (st), some (nd)] (by assumption) (by assumption) (by walk_at "m_room") (by exact BindsTo.of_eq rfl) (by decide) (by exact locsN rfl) (by decide) (by exact rfl) (by exact rfl) ?_
  clear H; intro s L env V H
  refine wpAny_execs_cons (plainObj_wpAny_Assign_Attribute ?_)
  walk_at "m_name"
  walk_at "m_name"
  refine set_slot_ B (ss_step w) H (by walk_at "m_has") (by walk_at "m_sub") rfl (by walk_at "m_has") (by decide) rfl rfl ?_
  clear H; intro s H
  refine wpAny_execs_cons (plainObj_wpAny_Assign_Attribute ?_)
  walk_at "m_name"
  walk_at "m_name"
  refine set_slot_ B (ss_node w) H (by walk_at "m_has") (by walk_at "m_sub") rfl (by walk_at "m_has") (by decide) rfl rfl ?_
  clear H; intro s H
  refine wpAny_execs_nil ?_
  exact ⟨rfl, hR _ _ _ (H.mono (List.sublist_cons_self _ _))⟩
end Mine
end
section
open PySem PySem.W PySem.Calls PyProof.Rows
set_option Elab.async false
set_option maxRecDepth 100000
set_option maxHeartbeats 4000000
set_option linter.unusedVariables false
namespace Mine
local macro_rules | `(tactic| walk_at "m_fill") => `(tactic| ((have dummy : PySem.Challenge.rw_ez0279_01 = PySem.Challenge.rw_ez0279_01 ∧ hd.heap_39 = hd.heap_39 := by k_fill; exact ⟨rfl, rfl⟩); clear dummy))
local macro_rules | `(tactic| walk_at "m_facts") => `(tactic| (constructor <;> first | k_dflt k_is | decide +kernel))
theorem sl_fill_T6 : True := by walk_at "m_fill"; trivial
local macro_rules | `(tactic| walk_at "m_has") => `(tactic| with_reducible first | exact Has.head | (refine Has.tail ?_; walk_at "m_has") | (refine Has.of ?_; assumption) | assumption)
local macro_rules | `(tactic| walk_at "m_at") => `(tactic| with_reducible first | exact At.head | (refine At.tail ?_; walk_at "m_at"))
local macro_rules | `(tactic| walk_at "m_sub") => `(tactic| with_reducible first | exact Sub1.head | (apply Sub1.tail; walk_at "m_sub"))
local macro_rules | `(tactic| walk_at "m_put") => `(tactic| with_reducible first | exact PutAt.head | (apply PutAt.tail; walk_at "m_put"))
local macro_rules | `(tactic| walk_at "m_rem") => `(tactic| with_reducible first | exact Rem.head | (apply Rem.tail; walk_at "m_rem"))
local macro_rules | `(tactic| walk_at "m_pick") => `(tactic| with_reducible first | exact Pick.all | (apply Pick.take; (focus (walk_at "m_rem")); walk_at "m_pick") | (apply Pick.skip; walk_at "m_pick"))
local macro_rules | `(tactic| walk_at "m_room") => `(tactic| first | assumption | omega)
local macro_rules | `(tactic| walk_at "m_name") => `(tactic| refine nm (by assumption) (by assumption) (by walk_at "m_has") (by walk_at "m_at") (by decide) (by decide) ?_)
local macro_rules | `(tactic| walk_at "m_slotget") => `(tactic| (refine attr_slot (by assumption) (by first | exact sl_step _ | exact sl_node _ | exact sl_children _ | exact sl_value _) (by assumption) (by walk_at "m_has") (by exact rfl) (by walk_at "m_has") (by exact rfl) (by exact rfl) ?_))
local macro_rules | `(tactic| walk_at "m_store") => `(tactic| refine st_ (by assumption) (by assumption) (by decide) (by walk_at "m_sub") (by walk_at "m_put") ?_)
local macro_rules | `(tactic| walk_at "m_glob") => `(tactic| (refine glob (by assumption) (by assumption) (by assumption) (by decide) (by k_dflt k_is) (by decide) ?_))
variable {w : World} {A : Around} {E : Value → Shared → Prop} {b s : Shared} {cs cs' : List Cell} {R : Result → Shared → Prop} {env : Env} {pos : Pos}

theorem no_add {pa pdx nc' : Addr} {cv v : Value} {x : Str} {tk : Tok} (B : Base (hd.heap_39 w.params) b) (H : St b s (.o pa (nodeObj D0 pdx cv v) :: .o pdx noDict :: cs)) (hA : A.depth + 4 < recursionLimit)
  (hR : ∀ s' c cdx n dx, St b s' (.o pa (nodeObj D0 pdx (.ref c) v) :: .o pdx noDict :: .o c (oneObj D0 cdx (.ref n) (.str x tk)) :: .o cdx noDict :: .o n (nodeObj D0 dx (.ref D0.nc) (.ref D0.noval)) :: .o dx noDict :: cs) → R (.ok (.ret (.ref n))) s') :
  codeAny (model prog w) A (.call (.ref 109) ⟨[.ref nc', .ref pa, .str x tk], []⟩) R s := by
  have hA0 : A.depth < recursionLimit := by omega
  refine enterN (K := (hd.heap_39 w.params)) (nk := [((PySem.Str.ofString "self"), .local), ((PySem.Str.ofString "parent"), .local), ((PySem.Str.ofString "step"), .local), ((PySem.Str.ofString "node"), .local), ((PySem.Str.ofString "_Node"), .globalImplicit), ((PySem.Str.ofString "_OneChild"), .globalImplicit)]) ⟨⟨_, _, _, by k_dflt k_is⟩, by k_dflt k_is, by exact rfl, by exact rfl, by exact rfl, by exact rfl, by exact rfl, by exact rfl⟩ (by exact rfl) [(PySem.Str.ofString "self"), (PySem.Str.ofString "parent"), (PySem.Str.ofString "step"), (PySem.Str.ofString "node")] [some (.ref nc'), some (.ref pa), some (.str x tk), none] (by assumption) (by assumption) (by walk_at "m_room") (by exact BindsTo.of_eq rfl) (by decide) (by exact locsN rfl) (by decide) (by exact rfl) (by exact rfl) ?_
  clear H; intro s L env V H
  have hA1 : (A.deeper env).depth + 2 < recursionLimit := show A.depth + 1 + 2 < recursionLimit by omega
  refine wpAny_execs_cons (wpAny_Assign_Name (Call_ ?_))
  walk_at "m_glob"
  refine callK0 B H (kp_node w) (wpAny_call (node_new B H hA1 ?_))
  clear H; intro s n dx H
  walk_at "m_store"
  clear H; intro s H
  refine wpAny_execs_cons (plainObj_wpAny_Assign_Attribute (Call_ ?_))
  walk_at "m_glob"
  refine callK B H (kp_one w) rfl rfl (spliced_more ?_)
  walk_at "m_name"
  refine spliced_more ?_
  walk_at "m_name"
  refine spliced_none ⟨⟨_, H⟩, wpAny_call (one_new B H hA1 ?_)⟩
  clear H; intro s c cdx H
  walk_at "m_name"
  refine set_slot_ (sl' := #[some (.ref c), some v]) B (ss_children w) H (by walk_at "m_has") (by walk_at "m_sub") rfl (by walk_at "m_has") (by decide) rfl rfl ?_
  clear H; intro s H
  refine wpAny_execs_cons (wpAny_Return_some ?_)
  walk_at "m_name"
  exact hR s c cdx n dx (H.pick (by walk_at "m_pick"))
end Mine
end
section
open PySem PySem.W PySem.Calls PyProof.Rows
set_option Elab.async false
set_option maxRecDepth 100000
set_option maxHeartbeats 4000000
set_option linter.unusedVariables false
namespace Mine
local macro_rules | `(tactic| walk_at "m_fill") => `(tactic| ((have dummy : PySem.Challenge.rw_ez0279_01 = PySem.Challenge.rw_ez0279_01 ∧ hd.heap_39 = hd.heap_39 := by k_fill; exact ⟨rfl, rfl⟩); clear dummy))
local macro_rules | `(tactic| walk_at "m_facts") => `(tactic| (constructor <;> first | k_dflt k_is | decide +kernel))
theorem sl_fill_T7 : True := by walk_at "m_fill"; trivial
local macro_rules | `(tactic| walk_at "m_has") => `(tactic| with_reducible first | exact Has.head | (refine Has.tail ?_; walk_at "m_has") | (refine Has.of ?_; assumption) | assumption)
local macro_rules | `(tactic| walk_at "m_at") => `(tactic| with_reducible first | exact At.head | (refine At.tail ?_; walk_at "m_at"))
local macro_rules | `(tactic| walk_at "m_sub") => `(tactic| with_reducible first | exact Sub1.head | (apply Sub1.tail; walk_at "m_sub"))
local macro_rules | `(tactic| walk_at "m_put") => `(tactic| with_reducible first | exact PutAt.head | (apply PutAt.tail; walk_at "m_put"))
local macro_rules | `(tactic| walk_at "m_rem") => `(tactic| with_reducible first | exact Rem.head | (apply Rem.tail; walk_at "m_rem"))
local macro_rules | `(tactic| walk_at "m_pick") => `(tactic| with_reducible first | exact Pick.all | (apply Pick.take; (focus (walk_at "m_rem")); walk_at "m_pick") | (apply Pick.skip; walk_at "m_pick"))
local macro_rules | `(tactic| walk_at "m_room") => `(tactic| first | assumption | omega)
local macro_rules | `(tactic| walk_at "m_name") => `(tactic| refine nm (by assumption) (by assumption) (by walk_at "m_has") (by walk_at "m_at") (by decide) (by decide) ?_)
local macro_rules | `(tactic| walk_at "m_slotget") => `(tactic| (refine attr_slot (by assumption) (by first | exact sl_step _ | exact sl_node _ | exact sl_children _ | exact sl_value _) (by assumption) (by walk_at "m_has") (by exact rfl) (by walk_at "m_has") (by exact rfl) (by exact rfl) ?_))
local macro_rules | `(tactic| walk_at "m_store") => `(tactic| refine st_ (by assumption) (by assumption) (by decide) (by walk_at "m_sub") (by walk_at "m_put") ?_)
local macro_rules | `(tactic| walk_at "m_glob") => `(tactic| (refine glob (by assumption) (by assumption) (by assumption) (by decide) (by k_dflt k_is) (by decide) ?_))
variable {w : World} {A : Around} {E : Value → Shared → Prop} {b s : Shared} {cs cs' : List Cell} {R : Result → Shared → Prop} {env : Env} {pos : Pos}

theorem me_setdefault (w : World) : MethOf (hd.heap_39 w.params) 297 (S "setdefault") (.builtin "dict.setdefault") gaD tM := by walk_at "m_facts"
theorem many_ordered (w : World) : mroIn (hd.heap_39 w.params) 297 (.type "collections.OrderedDict") = some false := by k_dflt k_is
theorem many_low {c : Addr} (B : Base (hd.heap_39 w.params) b) (h1 : b.heap.objs.size ≤ c) : (c == sysModules) = false := by
  have h2 := B.low
  rw [beq_eq_false_iff_ne]
  intro e; rw [e] at h1; exact absurd (Nat.lt_of_lt_of_le h2 h1) (by decide)
abbrev mObj (P : Params) (dx : Addr) (l : List (Nat × Tok × Addr)) (ep : Nat) : Obj := dObj P (.ref 297) (some dx) #[] l ep
theorem many_require {c cdx pa : Addr} {l : List (Nat × Tok × Addr)} {ep x : Nat} {tk : Tok} (B : Base (hd.heap_39 w.params) b) (H : St b s (.o c (mObj w.params cdx l ep) :: .o cdx noDict :: cs)) (hz : l.length ≤ 1000) (hA : A.depth + 4 < recursionLimit)
  (hR1 : ∀ s' p, l.find? (·.1 == x) = some p → St b s' (.o c (mObj w.params cdx l ep) :: .o cdx noDict :: cs) → R (.ok (.ret (.ref p.2.2))) s')
  (hR2 : ∀ s' n dx, l.find? (·.1 == x) = none → St b s' (.o c (mObj w.params cdx (l ++ [(x, tk, n)]) (ep + 1)) :: .o cdx noDict :: .o n (nodeObj D0 dx (.ref D0.nc) (.ref D0.noval)) :: .o dx noDict :: cs) → R (.ok (.ret (.ref n))) s') :
  codeAny (model prog w) A (.call (.ref 274) ⟨[.ref c, .ref pa, .str (letter x) tk], []⟩) R s := by
  have hA0 : A.depth < recursionLimit := by omega
  refine enterN (K := (hd.heap_39 w.params)) (nk := [((PySem.Str.ofString "self"), .local), ((PySem.Str.ofString "parent"), .local), ((PySem.Str.ofString "step"), .local), ((PySem.Str.ofString "_Node"), .globalImplicit)]) ⟨⟨_, _, _, by k_dflt k_is⟩, by k_dflt k_is, by exact rfl, by exact rfl, by exact rfl, by exact rfl, by exact rfl, by exact rfl⟩ (by exact rfl) [(PySem.Str.ofString "self"), (PySem.Str.ofString "parent"), (PySem.Str.ofString "step")] [some (.ref c), some (.ref pa), some (.str (letter x) tk)] (by assumption) (by assumption) (by walk_at "m_room") (by exact BindsTo.of_eq rfl) (by decide) (by exact locsN rfl) (by decide) (by exact rfl) (by exact rfl) ?_
  clear H; intro s L env V H
  have hA1 : (A.deeper env).depth + 2 < recursionLimit := show A.depth + 1 + 2 < recursionLimit by omega
  refine wpAny_execs_cons (wpAny_Return_some (MethodCall_ ?_))
  walk_at "m_name"
  refine meth B (me_setdefault w) H (by walk_at "m_has") rfl (by walk_at "m_has") rfl ?_
  refine callWith_method1 (spliced_more ?_ rfl) rfl rfl
  walk_at "m_name"
  refine spliced_more (Call_ ?_)
  walk_at "m_glob"
  refine callK0 B H (kp_node w) (wpAny_call (node_new B H hA1 ?_))
  clear H; intro s n dx H
  refine spliced_none (wpAny_call ?_)
  have hm : Has (.o c (mObj w.params cdx l ep)) (.o n (nodeObj D0 dx (.ref D0.nc) (.ref D0.noval)) :: .o dx noDict :: .f L [S "self", S "parent", S "step"] [some (.ref c), some (.ref pa), some (.str (letter x) tk)] :: .o c (mObj w.params cdx l ep) :: .o cdx noDict :: cs) := by walk_at "m_has"
  have hd : Has (.o cdx noDict) (.o n (nodeObj D0 dx (.ref D0.nc) (.ref D0.noval)) :: .o dx noDict :: .f L [S "self", S "parent", S "step"] [some (.ref c), some (.ref pa), some (.str (letter x) tk)] :: .o c (mObj w.params cdx l ep) :: .o cdx noDict :: cs) := by walk_at "m_has"
  have I := inst_ (H.obj hm.mem) rfl (H.obj hd.mem)
  refine call_sub (owner := "dict") (n := "setdefault") B H I (many_dict w) (by decide +kernel) F.entry_dict_setdefault (.inr (by decide +kernel)) (by decide +kernel) (F.args_dict_setdefault_3 _ _ _) ?_
  have hlow := many_low B (Cell.base (H.sat _ hm.mem) rfl)
  have X := H.in_ B.X
  have L0 := I.type (M := model prog w)
  have L1 : Looks (model prog w) s.heap (isInstance (.ref c) (.type "collections.OrderedDict")) false := L0.andThen (looks_mroIn X (many_ordered w))
  show wpAny _ _ (Builtin.Dict.keyAndDefault "setdefault" ⟨[.ref c, .str (letter x) tk, .ref n], []⟩ >>= _) _ _ _
  refine wpAny_bind ?_
  show wpAny _ _ (Builtin.Dict.notOrdered "setdefault" ⟨[.ref c, .str (letter x) tk, .ref n], []⟩ >>= _) _ _ _
  refine wpAny_bind (notOrdered_sub rfl L0 L1 ?_)
  refine wpAny_of_eq (a := (c, Value.str (letter x) tk, some (Value.ref n))) rfl ?_
  dsimp only
  rw [hlow]
  refine wpAny_bind (wp_setdefault (l := l) (ep := ep) (C := .ref 297) (dx := some cdx) (sl := #[]) H (by walk_at "m_sub") hz ⟨fun s' p hp H' => ?_, fun s' hp H' => ?_⟩)
  · refine wpAny_pure ?_
    exact hR1 s' p hp (H'.pick (by walk_at "m_pick"))
  · refine wpAny_pure ?_
    exact hR2 s' n dx hp (H'.pick (by walk_at "m_pick"))
end Mine
end
section
open PySem PySem.W PySem.Calls PyProof.Rows
set_option Elab.async false
set_option maxRecDepth 100000
set_option maxHeartbeats 4000000
set_option linter.unusedVariables false
namespace Mine
local macro_rules | `(tactic| walk_at "m_fill") => `(tactic| ((have dummy : PySem.Challenge.rw_ez0279_01 = PySem.Challenge.rw_ez0279_01 ∧ hd.heap_39 = hd.heap_39 := by k_fill; exact ⟨rfl, rfl⟩); clear dummy))
local macro_rules | `(tactic| walk_at "m_facts") => `(tactic| (constructor <;> first | k_dflt k_is | decide +kernel))
theorem sl_fill_T8 : True := by walk_at "m_fill"; trivial
local macro_rules | `(tactic| walk_at "m_has") => `(tactic| with_reducible first | exact Has.head | (refine Has.tail ?_; walk_at "m_has") | (refine Has.of ?_; assumption) | assumption)
local macro_rules | `(tactic| walk_at "m_at") => `(tactic| with_reducible first | exact At.head | (refine At.tail ?_; walk_at "m_at"))
local macro_rules | `(tactic| walk_at "m_sub") => `(tactic| with_reducible first | exact Sub1.head | (apply Sub1.tail; walk_at "m_sub"))
local macro_rules | `(tactic| walk_at "m_put") => `(tactic| with_reducible first | exact PutAt.head | (apply PutAt.tail; walk_at "m_put"))
local macro_rules | `(tactic| walk_at "m_rem") => `(tactic| with_reducible first | exact Rem.head | (apply Rem.tail; walk_at "m_rem"))
local macro_rules | `(tactic| walk_at "m_pick") => `(tactic| with_reducible first | exact Pick.all | (apply Pick.take; (focus (walk_at "m_rem")); walk_at "m_pick") | (apply Pick.skip; walk_at "m_pick"))
local macro_rules | `(tactic| walk_at "m_room") => `(tactic| first | assumption | omega)
local macro_rules | `(tactic| walk_at "m_name") => `(tactic| refine nm (by assumption) (by assumption) (by walk_at "m_has") (by walk_at "m_at") (by decide) (by decide) ?_)
local macro_rules | `(tactic| walk_at "m_slotget") => `(tactic| (refine attr_slot (by assumption) (by first | exact sl_step _ | exact sl_node _ | exact sl_children _ | exact sl_value _) (by assumption) (by walk_at "m_has") (by exact rfl) (by walk_at "m_has") (by exact rfl) (by exact rfl) ?_))
local macro_rules | `(tactic| walk_at "m_store") => `(tactic| refine st_ (by assumption) (by assumption) (by decide) (by walk_at "m_sub") (by walk_at "m_put") ?_)
local macro_rules | `(tactic| walk_at "m_glob") => `(tactic| (refine glob (by assumption) (by assumption) (by assumption) (by decide) (by k_dflt k_is) (by decide) ?_))
variable {w : World} {A : Around} {E : Value → Shared → Prop} {b s : Shared} {cs cs' : List Cell} {R : Result → Shared → Prop} {env : Env} {pos : Pos}

theorem kp_many (w : World) : keepIn (hd.heap_39 w.params) (.ref 297) = true := by k_dflt k_is
theorem mk_many (w : World) : DMk (hd.heap_39 w.params) 297 := ⟨⟨_, _, _, _, by k_dflt k_is, by exact rfl, by exact rfl, by exact rfl, by decide, by decide, by decide⟩, by k_dflt k_is, by k_dflt k_is⟩
theorem in_many (w : World) : findIn (hd.heap_39 w.params) (.ref 297) "__init__" = some (some (.builtin "dict.__init__")) := by k_dflt k_is
theorem me_one_add (w : World) : MethOf (hd.heap_39 w.params) 227 (S "add") (.ref 195) gaO tF := by walk_at "m_facts"
theorem kp_one_add (w : World) : keepIn (hd.heap_39 w.params) (.ref 195) = true := by k_dflt k_is
theorem one_add {pa pdx c cdx a1 k : Addr} {v : Value} {x : Nat} {tk tk1 : Tok} (B : Base (hd.heap_39 w.params) b) (hne : k ≠ x) (H : St b s (.o pa (nodeObj D0 pdx (.ref c) v) :: .o pdx noDict :: .o c (oneObj D0 cdx (.ref a1) (.str (letter k) tk1)) :: .o cdx noDict :: cs)) (hA : A.depth + 4 < recursionLimit)
  (hR : ∀ s' c cdx n dx t1 t2 ep, St b s' (.o pa (nodeObj D0 pdx (.ref c) v) :: .o pdx noDict :: .o c (mObj w.params cdx [(k, t1, a1), (x, t2, n)] ep) :: .o cdx noDict :: .o n (nodeObj D0 dx (.ref D0.nc) (.ref D0.noval)) :: .o dx noDict :: cs) → R (.ok (.ret (.ref n))) s') :
  codeAny (model prog w) A (.call (.ref 195) ⟨[.ref c, .ref pa, .str (letter x) tk], []⟩) R s := by
  have hA0 : A.depth < recursionLimit := by omega
  refine enterN (K := (hd.heap_39 w.params)) (nk := [((PySem.Str.ofString "self"), .local), ((PySem.Str.ofString "parent"), .local), ((PySem.Str.ofString "step"), .local), ((PySem.Str.ofString "node"), .local), ((PySem.Str.ofString "_Node"), .globalImplicit), ((PySem.Str.ofString "_Children"), .globalImplicit)]) ⟨⟨_, _, _, by k_dflt k_is⟩, by k_dflt k_is, by exact rfl, by exact rfl, by exact rfl, by exact rfl, by exact rfl, by exact rfl⟩ (by exact rfl) [(PySem.Str.ofString "self"), (PySem.Str.ofString "parent"), (PySem.Str.ofString "step"), (PySem.Str.ofString "node")] [some (.ref c), some (.ref pa), some (.str (letter x) tk), none] (by assumption) (by assumption) (by walk_at "m_room") (by exact BindsTo.of_eq rfl) (by decide) (by exact locsN rfl) (by decide) (by exact rfl) (by exact rfl) ?_
  clear H; intro s L env V H
  have hA1 : (A.deeper env).depth + 2 < recursionLimit := show A.depth + 1 + 2 < recursionLimit by omega
  refine wpAny_execs_cons (wpAny_Assign_Name (Call_ ?_))
  walk_at "m_glob"
  refine callK0 B H (kp_node w) (wpAny_call (node_new B H hA1 ?_))
  clear H; intro s n dx H
  walk_at "m_store"
  clear H; intro s H
  refine wpAny_execs_cons (plainObj_wpAny_Assign_Attribute (Call_ ?_))
  walk_at "m_glob"
  refine callK B H (kp_many w) rfl rfl (spliced_more ?_)
  refine dict2 H ?_
  clear H; intro s d H
  refine Attribute_Name_ ?_
  walk_at "m_name"
  walk_at "m_slotget"
  clear H; intro s H
  refine Attribute_Name_ ?_
  walk_at "m_name"
  walk_at "m_slotget"
  clear H; intro s H
  walk_at "m_name"
  walk_at "m_name"
  refine ⟨k, tk1, a1, x, tk, n, _, rfl, rfl, rfl, rfl, hne, H, ?_⟩
  clear H; intro s t1 t2 ep H
  refine spliced_none ⟨⟨_, H⟩, wpAny_call (make_dict B (mk_many w) (in_many w) (many_ordered w) hne H ?_)⟩
  clear H; intro s c2 cdx2 ep2 H
  walk_at "m_name"
  refine set_slot_ (sl' := #[some (.ref c2), some v]) B (ss_children w) H (by walk_at "m_has") (by walk_at "m_sub") rfl (by walk_at "m_has") (by decide) rfl rfl ?_
  clear H; intro s H
  refine wpAny_execs_cons (wpAny_Return_some ?_)
  walk_at "m_name"
  exact hR s c2 cdx2 n dx t1 t2 ep2 (H.pick (by walk_at "m_pick"))
theorem one_require {pa pdx c cdx a1 k : Addr} {v : Value} {x : Nat} {tk tk1 : Tok} (B : Base (hd.heap_39 w.params) b) (H : St b s (.o pa (nodeObj D0 pdx (.ref c) v) :: .o pdx noDict :: .o c (oneObj D0 cdx (.ref a1) (.str (letter k) tk1)) :: .o cdx noDict :: cs)) (hA : A.depth + 6 < recursionLimit)
  (hR1 : ∀ s', k = x → St b s' (.o pa (nodeObj D0 pdx (.ref c) v) :: .o pdx noDict :: .o c (oneObj D0 cdx (.ref a1) (.str (letter k) tk1)) :: .o cdx noDict :: cs) → R (.ok (.ret (.ref a1))) s')
  (hR2 : ∀ s' c cdx n dx t1 t2 ep, k ≠ x → St b s' (.o pa (nodeObj D0 pdx (.ref c) v) :: .o pdx noDict :: .o c (mObj w.params cdx [(k, t1, a1), (x, t2, n)] ep) :: .o cdx noDict :: .o n (nodeObj D0 dx (.ref D0.nc) (.ref D0.noval)) :: .o dx noDict :: cs) → R (.ok (.ret (.ref n))) s') :
  codeAny (model prog w) A (.call (.ref 202) ⟨[.ref c, .ref pa, .str (letter x) tk], []⟩) R s := by
  have hA0 : A.depth < recursionLimit := by omega
  refine enterN (K := (hd.heap_39 w.params)) (nk := [((PySem.Str.ofString "self"), .local), ((PySem.Str.ofString "parent"), .local), ((PySem.Str.ofString "step"), .local)]) ⟨⟨_, _, _, by k_dflt k_is⟩, by k_dflt k_is, by exact rfl, by exact rfl, by exact rfl, by exact rfl, by exact rfl, by exact rfl⟩ (by exact rfl) [(PySem.Str.ofString "self"), (PySem.Str.ofString "parent"), (PySem.Str.ofString "step")] [some (.ref c), some (.ref pa), some (.str (letter x) tk)] (by assumption) (by assumption) (by walk_at "m_room") (by exact BindsTo.of_eq rfl) (by decide) (by exact locsN rfl) (by decide) (by exact rfl) (by exact rfl) ?_
  clear H; intro s L env V H
  have hA1 : (A.deeper env).depth + 4 < recursionLimit := show A.depth + 1 + 4 < recursionLimit by omega
  refine wpAny_execs_cons (wpAny_Return_some (wpAny_IfExp (wpAny_isTrue_Compare1 ?_)))
  refine Attribute_Name_ ?_
  walk_at "m_name"
  walk_at "m_slotget"
  clear H; intro s H
  walk_at "m_name"
  refine eq_str (wpAny_truthy_bool ?_)
  rw [letter_beq]
  by_cases hc : x = k
  · rw [if_pos (by simp [hc])]
    refine Attribute_Name_ ?_
    walk_at "m_name"
    walk_at "m_slotget"
    clear H; intro s H
    exact hR1 s hc.symm (H.mono (List.sublist_cons_self _ _))
  · rw [if_neg (by simp [hc])]
    refine MethodCall_ ?_
    walk_at "m_name"
    refine meth B (me_one_add w) H (by walk_at "m_has") rfl (by walk_at "m_has") rfl ?_
    refine callK B H (kp_one_add w) rfl rfl (spliced_more ?_)
    walk_at "m_name"
    refine spliced_more ?_
    walk_at "m_name"
    refine spliced_none ⟨⟨_, H⟩, wpAny_call (one_add B (fun e => hc e.symm) (cs := .f L [S "self", S "parent", S "step"] [some (.ref c), some (.ref pa), some (.str (letter x) tk)] :: cs) (H.pick (by walk_at "m_pick")) hA1 ?_)⟩
    clear H; intro s c2 cdx2 n dx t1 t2 ep2 H
    exact hR2 s c2 cdx2 n dx t1 t2 ep2 (fun e => hc e.symm) (H.pick (by walk_at "m_pick"))
end Mine
end
section
open PySem PySem.W PySem.Calls PyProof.Rows
set_option Elab.async false
set_option maxRecDepth 100000
set_option maxHeartbeats 4000000
set_option linter.unusedVariables false
namespace Mine
local macro_rules | `(tactic| walk_at "m_fill") => `(tactic| ((have dummy : PySem.Challenge.rw_ez0279_01 = PySem.Challenge.rw_ez0279_01 ∧ hd.heap_39 = hd.heap_39 := by k_fill; exact ⟨rfl, rfl⟩); clear dummy))
local macro_rules | `(tactic| walk_at "m_facts") => `(tactic| (constructor <;> first | k_dflt k_is | decide +kernel))
theorem sl_fill_T9 : True := by walk_at "m_fill"; trivial
local macro_rules | `(tactic| walk_at "m_has") => `(tactic| with_reducible first | exact Has.head | (refine Has.tail ?_; walk_at "m_has") | (refine Has.of ?_; assumption) | assumption)
local macro_rules | `(tactic| walk_at "m_at") => `(tactic| with_reducible first | exact At.head | (refine At.tail ?_; walk_at "m_at"))
local macro_rules | `(tactic| walk_at "m_sub") => `(tactic| with_reducible first | exact Sub1.head | (apply Sub1.tail; walk_at "m_sub"))
local macro_rules | `(tactic| walk_at "m_put") => `(tactic| with_reducible first | exact PutAt.head | (apply PutAt.tail; walk_at "m_put"))
local macro_rules | `(tactic| walk_at "m_rem") => `(tactic| with_reducible first | exact Rem.head | (apply Rem.tail; walk_at "m_rem"))
local macro_rules | `(tactic| walk_at "m_pick") => `(tactic| with_reducible first | exact Pick.all | (apply Pick.take; (focus (walk_at "m_rem")); walk_at "m_pick") | (apply Pick.skip; walk_at "m_pick"))
local macro_rules | `(tactic| walk_at "m_room") => `(tactic| first | assumption | omega)
local macro_rules | `(tactic| walk_at "m_name") => `(tactic| refine nm (by assumption) (by assumption) (by walk_at "m_has") (by walk_at "m_at") (by decide) (by decide) ?_)
local macro_rules | `(tactic| walk_at "m_slotget") => `(tactic| (refine attr_slot (by assumption) (by first | exact sl_step _ | exact sl_node _ | exact sl_children _ | exact sl_value _) (by assumption) (by walk_at "m_has") (by exact rfl) (by walk_at "m_has") (by exact rfl) (by exact rfl) ?_))
local macro_rules | `(tactic| walk_at "m_store") => `(tactic| refine st_ (by assumption) (by assumption) (by decide) (by walk_at "m_sub") (by walk_at "m_put") ?_)
local macro_rules | `(tactic| walk_at "m_glob") => `(tactic| (refine glob (by assumption) (by assumption) (by assumption) (by decide) (by k_dflt k_is) (by decide) ?_))
variable {w : World} {A : Around} {E : Value → Shared → Prop} {b s : Shared} {cs cs' : List Cell} {R : Result → Shared → Prop} {env : Env} {pos : Pos}

theorem me_no_req (w : World) : MethOf (hd.heap_39 w.params) 141 (S "require") (.ref 109) gaO tF := by walk_at "m_facts"
theorem me_one_req (w : World) : MethOf (hd.heap_39 w.params) 227 (S "require") (.ref 202) gaO tF := by walk_at "m_facts"
theorem me_many_req (w : World) : MethOf (hd.heap_39 w.params) 297 (S "require") (.ref 274) gaD tF := by walk_at "m_facts"
theorem kp_no_add (w : World) : keepIn (hd.heap_39 w.params) (.ref 109) = true := by k_dflt k_is
theorem kp_one_req (w : World) : keepIn (hd.heap_39 w.params) (.ref 202) = true := by k_dflt k_is
theorem kp_many_req (w : World) : keepIn (hd.heap_39 w.params) (.ref 274) = true := by k_dflt k_is
/-- node.children.require(node, letter) -/
theorem kid_require {m : Nd} {x : Nat} {tk : Tok} {arg1 arg2 : Expr} {pl : Sem Bool} {Q : Value → Shared → Prop} (B : Base (hd.heap_39 w.params) b) (H : St b s (m.cells w.params D0 ++ cs)) (hok : m.ok D0) (hx : x < 128) (hA : A.depth + 6 < recursionLimit)
  (he : starEach [arg1, arg2] env = (false, eval arg1 env) :: starEach [arg2] env) (he2 : starEach [arg2] env = (false, eval arg2 env) :: starEach [] env)
  (harg1 : ∀ s' (Q' : Value → Shared → Prop), St b s' (m.cells w.params D0 ++ cs) → (∀ s'', St b s'' (m.cells w.params D0 ++ cs) → Q' (.ref m.a) s'') → wpAny (model prog w) A (eval arg1 env) Q' E s')
  (harg2 : ∀ s' (Q' : Value → Shared → Prop), St b s' (m.cells w.params D0 ++ cs) → (∀ s'', St b s'' (m.cells w.params D0 ++ cs) → Q' (.str (letter x) tk) s'') → wpAny (model prog w) A (eval arg2 env) Q' E s')
  (h1 : ∀ s' c, m.ch.look x = some c → St b s' (m.cells w.params D0 ++ cs) → Q (.ref c.a) s')
  (h2 : ∀ s' kd ch n dx, m.ch.look x = none → St b s' (Nd.cells w.params D0 ⟨m.a, m.dx, m.v, kd, ch⟩ ++ cs) → Nd.ok D0 ⟨m.a, m.dx, m.v, kd, ch⟩ → ch.er D0 = (m.ch.er D0).set x .empty → ch.look x = some (newNd D0 n dx) → Q (.ref n) s') :
  wpAny (model prog w) A (getMethod (chVal D0 m.kd) "require" pl) (fun fx s₂ => wpAny (model prog w) A (callWith pos fx.1 fx.2 (backTo pos (starEach [arg1, arg2] env)) []) Q E s₂) E s := by
  obtain ⟨a, dx, v, kd, ch⟩ := m
  have hlen := Fo.ok_len hok.2.2
  cases kd with
  | no =>
    have hch : ch = .nil := by
      have := hok.2.1
      cases ch with
      | nil => rfl
      | cons => cases this
    subst hch
    refine methTop B (me_no_req w) H (nc_look w) rfl (nc_dict w) rfl ?_
    refine callK B H (kp_no_add w) he (by rw [he2]; rfl) ?_
    refine spliced_more (harg1 _ _ H fun s' H' => ?_) he
    refine spliced_more (harg2 _ _ H' fun s' H' => spliced_none ⟨⟨_, H'⟩, ?_⟩) he2
    refine wpAny_call (no_add B H' (by omega) fun s' c cdx n ndx H2 => ?_)
    refine h2 s' (.one c cdx) (.cons x tk n ndx (.ref D0.noval) .no .nil .nil) n ndx rfl (H2.perm ?_) ⟨hok.1, ⟨x, rfl⟩, hx, by simp [Fo.keys], .no, rfl, trivial, trivial⟩ ?_ (by simp [Fo.look, newNd])
    · simp only [Nd.cells, chCells, Fo.ents, Fo.cells, chVal, List.append_nil, List.nil_append, List.cons_append, List.append_assoc]
      exact .refl _
    · simp [Fo.er, Tf.set, Tn.empty, valOf, isSet]
  | one c cdx =>
    obtain ⟨k, hk⟩ := hok.2.1
    cases ch with
    | nil => cases hk
    | cons k' tk' a' dx2 v' kd' ch' r =>
      cases r with
      | cons => cases hk
      | nil =>
        have hc1 : Has (.o c (oneObj D0 cdx (.ref a') (.str (letter k') tk'))) (Nd.cells w.params D0 ⟨a, dx, v, .one c cdx, .cons k' tk' a' dx2 v' kd' ch' .nil⟩ ++ cs) := .of (by simp [Nd.cells, chCells, Fo.ents])
        have hc2 : Has (.o cdx noDict) (Nd.cells w.params D0 ⟨a, dx, v, .one c cdx, .cons k' tk' a' dx2 v' kd' ch' .nil⟩ ++ cs) := .of (by simp [Nd.cells, chCells, Fo.ents])
        refine meth B (me_one_req w) H hc1 rfl hc2 rfl ?_
        refine callK B H (kp_one_req w) he (by rw [he2]; rfl) ?_
        refine spliced_more (harg1 _ _ H fun s' H' => ?_) he
        refine spliced_more (harg2 _ _ H' fun s' H' => spliced_none ⟨⟨_, H'⟩, ?_⟩) he2
        refine wpAny_call (one_require B (cs := Fo.cells w.params D0 (.cons k' tk' a' dx2 v' kd' ch' .nil) ++ cs) (pa := a) (pdx := dx) (c := c) (cdx := cdx) (a1 := a') (k := k') (v := v) (tk1 := tk') H' hA (fun s' e H2 => ?_) fun s' c2 cdx2 n ndx t1 t2 ep e H2 => ?_)
        · have := h1 s' ⟨a', dx2, v', kd', ch'⟩ (by simp [Fo.look, e]) H2
          exact this
        · have H3 := H2.move2 (p := [_, _, _, _])
          refine h2 s' (.many c2 cdx2 ep) (.cons k' t1 a' dx2 v' kd' ch' (.cons x t2 n ndx (.ref D0.noval) .no .nil .nil)) n ndx (by simp [Fo.look, e]) (H3.perm ?_) ?_ ?_ (by simp [Fo.look, newNd, e])
          · simp only [Nd.cells, chCells, Fo.ents, Fo.cells, chVal, List.append_nil, List.nil_append, List.cons_append, List.append_assoc]
            exact .refl _
          · obtain ⟨o1, o2, o3⟩ := hok
            refine ⟨o1, by simp [kdOk, Fo.keys], o3.1, by simp [Fo.keys, e], o3.2.2.1, o3.2.2.2.1, o3.2.2.2.2.1, hx, by simp [Fo.keys], .no, rfl, trivial, trivial⟩
          · simp [Fo.er, Tf.set, Tn.empty, valOf, isSet, e]
  | many c cdx ep =>
    have hc1 : Has (.o c (mObj w.params cdx ch.ents ep)) (Nd.cells w.params D0 ⟨a, dx, v, .many c cdx ep, ch⟩ ++ cs) := .of (by simp [Nd.cells, chCells])
    have hc2 : Has (.o cdx noDict) (Nd.cells w.params D0 ⟨a, dx, v, .many c cdx ep, ch⟩ ++ cs) := .of (by simp [Nd.cells, chCells])
    refine meth B (me_many_req w) H hc1 rfl hc2 rfl ?_
    refine callK B H (kp_many_req w) he (by rw [he2]; rfl) ?_
    refine spliced_more (harg1 _ _ H fun s' H' => ?_) he
    refine spliced_more (harg2 _ _ H' fun s' H' => spliced_none ⟨⟨_, H'⟩, ?_⟩) he2
    have hl := Fo.look_ent (x := x) (f := ch)
    refine wpAny_call (many_require B (cs := .o a (nodeObj D0 dx (.ref c) v) :: .o dx noDict :: (Fo.cells w.params D0 ch ++ cs)) (c := c) (cdx := cdx) (l := ch.ents) (ep := ep) (pa := a) (H'.perm ?_) hlen (by omega) (fun s' p e H2 => ?_) fun s' n ndx e H2 => ?_)
    · simp only [Nd.cells, chCells, chVal, List.append_nil, List.nil_append, List.cons_append, List.append_assoc]
      exact (List.perm_append_comm (l₁ := [Cell.o c _, Cell.o cdx _]) (l₂ := [Cell.o a _, Cell.o dx _])).append_right _
    · rw [e] at hl
      obtain ⟨c', hc', e2⟩ := Option.map_eq_some_iff.mp (show (ch.look x).map (·.a) = some p.2.2 from hl)
      have := h1 s' c' hc' (H2.perm ?_)
      · rw [e2] at this; exact this
      · simp only [Nd.cells, chCells, chVal, List.append_nil, List.nil_append, List.cons_append, List.append_assoc]
        exact (List.perm_append_comm (l₂ := [Cell.o c _, Cell.o cdx _]) (l₁ := [Cell.o a _, Cell.o dx _])).append_right _
    · rw [e] at hl
      have hn : ch.look x = none := by
        cases q : ch.look x with
        | none => rfl
        | some _ => rw [q] at hl; cases hl
      refine h2 s' (.many c cdx (ep + 1)) (ch.snoc x tk (newNd D0 n ndx)) n ndx hn ?_ ⟨hok.1, ?_, Fo.snoc_ok hx newNd_ok hok.2.2 hn⟩ (by rw [Fo.snoc_er _ _ _ _ _ hn, newNd_er]) (Fo.snoc_look_self _ _ _ _ hn)
      · have e1 : Nd.cells w.params D0 ⟨a, dx, v, .many c cdx (ep + 1), ch.snoc x tk (newNd D0 n ndx)⟩ = [.o a (nodeObj D0 dx (.ref c) v), .o dx noDict, .o c (mObj w.params cdx (ch.ents ++ [(x, tk, n)]) (ep + 1)), .o cdx noDict] ++ (Fo.cells w.params D0 ch ++ [.o n (nodeObj D0 ndx (.ref D0.nc) (.ref D0.noval)), .o ndx noDict]) := by
          simp only [Nd.cells, chCells, chVal, Fo.snoc_cells, Fo.snoc_ents, newNd, Fo.cells, Fo.ents, List.append_nil, List.nil_append, List.cons_append, List.append_assoc]
        rw [e1]
        have H3 := (H2.perm (cs' := [.o a (nodeObj D0 dx (.ref c) v), .o dx noDict, .o c (mObj w.params cdx (ch.ents ++ [(x, tk, n)]) (ep + 1)), .o cdx noDict] ++ (.o n (nodeObj D0 ndx (.ref D0.nc) (.ref D0.noval)) :: .o ndx noDict :: (Fo.cells w.params D0 ch ++ cs))) ?_).move2
        · simpa only [List.append_assoc, List.cons_append, List.nil_append] using H3
        · exact (List.perm_append_comm (l₁ := [Cell.o a _, Cell.o dx _]) (l₂ := [Cell.o c _, Cell.o cdx _, Cell.o n _, Cell.o ndx _])).append_right (Fo.cells w.params D0 ch ++ cs)
      · have := hok.2.1
        show kdOk _ _
        simp only [kdOk, Fo.snoc_keys, List.length_append] at this ⊢
        omega
end Mine
end
section
open PySem PySem.W PySem.Calls PyProof.Rows
set_option Elab.async false
set_option maxRecDepth 100000
set_option maxHeartbeats 4000000
set_option linter.unusedVariables false
namespace Mine
local macro_rules | `(tactic| walk_at "m_fill") => `(tactic| ((have dummy : PySem.Challenge.rw_ez0279_01 = PySem.Challenge.rw_ez0279_01 ∧ hd.heap_39 = hd.heap_39 := by k_fill; exact ⟨rfl, rfl⟩); clear dummy))
local macro_rules | `(tactic| walk_at "m_facts") => `(tactic| (constructor <;> first | k_dflt k_is | decide +kernel))
theorem sl_fill_T10 : True := by walk_at "m_fill"; trivial
local macro_rules | `(tactic| walk_at "m_has") => `(tactic| with_reducible first | exact Has.head | (refine Has.tail ?_; walk_at "m_has") | (refine Has.of ?_; assumption) | assumption)
local macro_rules | `(tactic| walk_at "m_at") => `(tactic| with_reducible first | exact At.head | (refine At.tail ?_; walk_at "m_at"))
local macro_rules | `(tactic| walk_at "m_sub") => `(tactic| with_reducible first | exact Sub1.head | (apply Sub1.tail; walk_at "m_sub"))
local macro_rules | `(tactic| walk_at "m_put") => `(tactic| with_reducible first | exact PutAt.head | (apply PutAt.tail; walk_at "m_put"))
local macro_rules | `(tactic| walk_at "m_rem") => `(tactic| with_reducible first | exact Rem.head | (apply Rem.tail; walk_at "m_rem"))
local macro_rules | `(tactic| walk_at "m_pick") => `(tactic| with_reducible first | exact Pick.all | (apply Pick.take; (focus (walk_at "m_rem")); walk_at "m_pick") | (apply Pick.skip; walk_at "m_pick"))
local macro_rules | `(tactic| walk_at "m_room") => `(tactic| first | assumption | omega)
local macro_rules | `(tactic| walk_at "m_name") => `(tactic| refine nm (by assumption) (by assumption) (by walk_at "m_has") (by walk_at "m_at") (by decide) (by decide) ?_)
local macro_rules | `(tactic| walk_at "m_slotget") => `(tactic| (refine attr_slot (by assumption) (by first | exact sl_step _ | exact sl_node _ | exact sl_children _ | exact sl_value _) (by assumption) (by walk_at "m_has") (by exact rfl) (by walk_at "m_has") (by exact rfl) (by exact rfl) ?_))
local macro_rules | `(tactic| walk_at "m_store") => `(tactic| refine st_ (by assumption) (by assumption) (by decide) (by walk_at "m_sub") (by walk_at "m_put") ?_)
local macro_rules | `(tactic| walk_at "m_glob") => `(tactic| (refine glob (by assumption) (by assumption) (by assumption) (by decide) (by k_dflt k_is) (by decide) ?_))
variable {w : World} {A : Around} {E : Value → Shared → Prop} {b s : Shared} {cs cs' : List Cell} {R : Result → Shared → Prop} {env : Env} {pos : Pos}

theorem perm_focus {α : Type} {p q : α} {pre mc post tail : List α} : (mc ++ (p :: q :: (pre ++ (post ++ tail)))).Perm (p :: q :: ((pre ++ (mc ++ post)) ++ tail)) := by
  have := List.perm_append_comm_assoc mc ([p, q] ++ pre) (post ++ tail)
  simpa only [List.append_assoc, List.cons_append, List.nil_append] using this
theorem perm_focus1 {α : Type} {p : α} {pre mc post tail : List α} : (mc ++ (p :: (pre ++ (post ++ tail)))).Perm (p :: ((pre ++ (mc ++ post)) ++ tail)) := by
  have := List.perm_append_comm_assoc mc ([p] ++ pre) (post ++ tail)
  simpa only [List.append_assoc, List.cons_append, List.nil_append] using this
theorem set_node {a td : Addr} {r : Nd} {cb v : Value} {t1 t2 : Tok} {ep : Nat} {x : Str} {tk : Tok} (B : Base (hd.heap_39 w.params) b) (H : St b s (r.cells w.params D0 ++ (.o a (trieObj td) :: .o td (dictOf (trieEs w.params (.ref r.a) cb t1 t2) ep) :: cs)))
   (hok : r.ok D0) (hx : (x.cps.all fun c => decide (c < 128)) = true) (hv : VOk D0 v) (hvs : isSet D0 v = true) (hA : A.depth + 8 < recursionLimit) (hh : A.handled = none)
   (hR : ∀ s' (r' m : Nd), r'.a = r.a → r'.ok D0 → r'.er D0 = (r.er D0).ins x.cps.toList v → St b s' (r'.cells w.params D0 ++ (.o a (trieObj td) :: .o td (dictOf (trieEs w.params (.ref r.a) cb t1 t2) ep) :: cs)) → R (.ok (.ret (.ref m.a))) s') :
   codeAny (model prog w) A (.call (.ref 562) ⟨[.ref a, .str x tk, v], []⟩) R s := by
  have hA0 : A.depth < recursionLimit := by omega
  refine enterN (K := (hd.heap_39 w.params)) (nk := [((PySem.Str.ofString "self"), .local), ((PySem.Str.ofString "key"), .local), ((PySem.Str.ofString "value"), .local), ((PySem.Str.ofString "only_if_missing"), .local), ((PySem.Str.ofString "node"), .local), ((PySem.Str.ofString "step"), .local), ((PySem.Str.ofString "_NOVAL"), .globalImplicit)]) ⟨⟨_, _, _, by k_dflt k_is⟩, by k_dflt k_is, by exact rfl, by exact rfl, by exact rfl, by exact rfl, by exact rfl, by exact rfl⟩ (by exact rfl) [(PySem.Str.ofString "self"), (PySem.Str.ofString "key"), (PySem.Str.ofString "value"), (PySem.Str.ofString "only_if_missing"), (PySem.Str.ofString "node"), (PySem.Str.ofString "step")] [some (.ref a), some (.str x tk), some (v), some (.bool false), none, none] (by assumption) (by assumption) (by walk_at "m_room") (by exact binds_K (B.X.keeps (St.keep (by assumption))) rfl (by k_dflt k_is) rfl rfl rfl) (by decide) (by exact locsN rfl) (by decide) (by exact rfl) (by exact rfl) ?_
  clear H; intro s L env V H
  refine wpAny_execs_cons (wpAny_Assign_Name (Attribute_Name_ ?_))
  walk_at "m_name"
  refine attr_own (a := a) (dx := td) (B := B) (S := ow_root _) (H := H) (hm := .tail (.of (List.mem_append_right _ (.head _)))) (hd := .tail (.of (List.mem_append_right _ (.tail _ (.head _))))) (v := .ref r.a) (by exact rfl) (by exact rfl) ?_
  clear H; intro s H
  walk_at "m_store"
  clear H; intro s H
  refine wpAny_execs_cons (wpAny_For ?_ (fun _ => rfl))
  refine MethodCall_ ?_
  walk_at "m_name"
  refine meth B (me_pfk w) H (.tail (.of (List.mem_append_right _ (.head _)))) rfl (.tail (.of (List.mem_append_right _ (.tail _ (.head _))))) rfl ?_
  refine callK B H (kp_pfk w) rfl rfl (spliced_more ?_)
  walk_at "m_name"
  refine spliced_none ⟨⟨_, H⟩, wpAny_call (pfk B H (.tail (.of (List.mem_append_right _ (.head _)))) (.tail (.of (List.mem_append_right _ (.tail _ (.head _))))) (show A.depth + 1 + 2 < _ by omega) ?_)⟩
  clear H; intro s H
  refine iterStr H hx ?_
  clear H; intro s it H
  refine forName (fun n s => ∃ i m rr v1, n + i = x.cps.size ∧ rr.a = r.a ∧ rr.ok D0 ∧ rr.find (x.cps.toList.take i) = some m ∧ (rr.er D0).ins x.cps.toList v = (r.er D0).ins x.cps.toList v ∧
     St b s (.p it (StrIt x tk i) :: .f L [S "self", S "key", S "value", S "only_if_missing", S "node", S "step"] [some (.ref a), some (.str x tk), some v, some (.bool false), some (.ref m.a), v1] :: (rr.cells w.params D0 ++ (.o a (trieObj td) :: .o td (dictOf (trieEs w.params (.ref r.a) cb t1 t2) ep) :: cs)))) ?_ x.cps.size ⟨0, r, r, none, by omega, rfl, hok, rfl, rfl, H⟩
  clear H
  rintro n s ⟨i, m, rr, v1, hn, hra, hro, hm, her, H⟩
  have hmo := Nd.find_ok hm hro
  obtain ⟨pre, post, e1, e2⟩ := Nd.split (P := w.params) (D := D0) hm
  have c1 : Cell.o m.a (nodeObj D0 m.dx (chVal D0 m.kd) m.v) ∈ rr.cells w.params D0 ++ (.o a (trieObj td) :: .o td (dictOf (trieEs w.params (.ref r.a) cb t1 t2) ep) :: cs) := by rw [e1]; simp [Nd.cells]
  have c2 : Cell.o m.dx noDict ∈ rr.cells w.params D0 ++ (.o a (trieObj td) :: .o td (dictOf (trieEs w.params (.ref r.a) cb t1 t2) ep) :: cs) := by rw [e1]; simp [Nd.cells]
  cases n with
  | zero =>
    rw [List.take_of_length_le (by simp; omega)] at hm e2
    have hsub : (rr.er D0).sub x.cps.toList = some (m.er D0) := by rw [Nd.find_er, hm]; rfl
    refine endStr (d := .f L _ _) hh H (by rw [Array.getElem?_eq_none_iff]; omega) .head rfl ?_
    clear H; intro s H
    have rest : ∀ s, St b s (.f L [S "self", S "key", S "value", S "only_if_missing", S "node", S "step"] [some (.ref a), some (.str x tk), some v, some (.bool false), some (.ref m.a), v1] :: (rr.cells w.params D0 ++ (.o a (trieObj td) :: .o td (dictOf (trieEs w.params (.ref r.a) cb t1 t2) ep) :: cs))) →
        wpAny (model prog w) (A.deeper env) (setAttr (.ref m.a) "value" v) (fun _ s => St b s (.f L [S "self", S "key", S "value", S "only_if_missing", S "node", S "step"] [some (.ref a), some (.str x tk), some v, some (.bool false), some (.ref m.a), v1] :: ((rr.put x.cps.toList { m with v := v }).cells w.params D0 ++ (.o a (trieObj td) :: .o td (dictOf (trieEs w.params (.ref r.a) cb t1 t2) ep) :: cs)))) (fun _ _ => False) s := by
      intro s H
      rw [e1] at H
      have H := (St.perm H (cs' := m.cells w.params D0 ++ (.f L [S "self", S "key", S "value", S "only_if_missing", S "node", S "step"] [some (.ref a), some (.str x tk), some v, some (.bool false), some (.ref m.a), v1] :: (pre ++ (post ++ (.o a (trieObj td) :: .o td (dictOf (trieEs w.params (.ref r.a) cb t1 t2) ep) :: cs))))) perm_focus1)
      refine set_slot_ (a := m.a) (dx := m.dx) (sl := #[some (chVal D0 m.kd), some m.v]) (sl' := #[some (chVal D0 m.kd), some v]) (cs' := Nd.cells w.params D0 { m with v := v } ++ (.f L [S "self", S "key", S "value", S "only_if_missing", S "node", S "step"] [some (.ref a), some (.str x tk), some v, some (.bool false), some (.ref m.a), v1] :: (pre ++ (post ++ (.o a (trieObj td) :: .o td (dictOf (trieEs w.params (.ref r.a) cb t1 t2) ep) :: cs))))) B (ss_value w) H (.of (List.mem_append_right _ (.head _))) Sub1.head rfl (od := noDict) (.of (by simp [Nd.cells])) (by decide) rfl rfl ?_
      intro s' H'
      rw [e2 { m with v := v } rfl]
      exact H'.perm perm_focus1.symm
    have done : ∀ s, St b s (.f L [S "self", S "key", S "value", S "only_if_missing", S "node", S "step"] [some (.ref a), some (.str x tk), some v, some (.bool false), some (.ref m.a), v1] :: ((rr.put x.cps.toList { m with v := v }).cells w.params D0 ++ (.o a (trieObj td) :: .o td (dictOf (trieEs w.params (.ref r.a) cb t1 t2) ep) :: cs))) → R (.ok (.ret (.ref m.a))) s := by
      intro s H
      refine hR s (rr.put x.cps.toList { m with v := v }) m ?_ (Nd.put_ok hm hro ⟨hv, hmo.2.1, hmo.2.2⟩) ?_ (H.mono (List.sublist_cons_self _ _))
      · exact (Nd.put_a (m' := { m with v := v }) hm rfl).trans hra
      · rw [← her, Nd.put_er hm]
        have := Tn.put_val (v := v) hsub
        rw [← this]
        simp only [Nd.er, valOf, hvs, if_true]
    refine wpAny_execs_cons (wpAny_If (isTrue_or (wpAny_isTrue_Compare1 ?_)))
    refine Attribute_Name_ ?_
    walk_at "m_name"
    refine attr_slot B (sl_value w) H (by walk_at "m_has") rfl (by walk_at "m_has") rfl hmo.1.handed ?_
    clear H; intro s H
    walk_at "m_glob"
    refine is_noval hmo.1 (wpAny_truthy_bool ?_)
    cases isSet D0 m.v with
    | false =>
      refine wpAny_execs_cons (plainObj_wpAny_Assign_Attribute ?_)
      walk_at "m_name"
      walk_at "m_name"
      refine wpAny_mono (rest _ H) (fun _ s H => ?_) fun _ _ z => z
      refine wpAny_execs_nil ?_
      refine wpAny_execs_cons (wpAny_Return_some ?_)
      walk_at "m_name"
      exact done s H
    | true =>
      refine isTrue_or (isTrue_not (isTrue_plain ?_))
      walk_at "m_name"
      refine wpAny_truthy_bool ?_
      refine wpAny_execs_cons (plainObj_wpAny_Assign_Attribute ?_)
      walk_at "m_name"
      walk_at "m_name"
      refine wpAny_mono (rest _ H) (fun _ s H => ?_) fun _ _ z => z
      refine wpAny_execs_nil ?_
      refine wpAny_execs_cons (wpAny_Return_some ?_)
      walk_at "m_name"
      exact done s H
  | succ n =>
    have hi : i < x.cps.size := by omega
    have hlt : x.cps[i] < 128 := by
      have := Array.all_eq_true.mp hx i hi
      exact of_decide_eq_true this
    have htk : x.cps.toList.take (i + 1) = x.cps.toList.take i ++ [x.cps[i]] := by rw [List.take_add_one]; simp [hi]
    have hall : x.cps.toList = x.cps.toList.take i ++ x.cps[i] :: x.cps.toList.drop (i + 1) := by
      have h2 : x.cps.toList = x.cps.toList.take (i + 1) ++ x.cps.toList.drop (i + 1) := (List.take_append_drop _ _).symm
      rw [htk, List.append_assoc] at h2; exact h2
    refine nextStr H .head (Array.getElem?_eq_getElem hi) ?_
    clear H; intro s tk' H
    walk_at "m_store"
    clear H; intro s H
    refine wpAny_execs_cons (wpAny_Assign_Name (MethodCall_ (Attribute_Name_ ?_)))
    walk_at "m_name"
    refine attr_slot B (sl_children w) H (by walk_at "m_has") rfl (by walk_at "m_has") rfl (chVal_handed _) ?_
    clear H; intro s H
    rw [e1] at H
    refine kid_require B (H.perm perm_focus) hmo hlt (show A.depth + 1 + 6 < recursionLimit by omega) rfl rfl
      (fun s' Q' H' k => nm V H' (.of (List.mem_append_right _ (.tail _ (.head _)))) (by walk_at "m_at") (by decide) (by decide) (k s' H'))
      (fun s' Q' H' k => nm V H' (.of (List.mem_append_right _ (.tail _ (.head _)))) (by walk_at "m_at") (by decide) (by decide) (k s' H')) (fun s c hc H => ?_) fun s kd ch n' dx hc H hok' hch hl => ?_
    · have H := H.perm perm_focus.symm
      rw [← e1] at H
      walk_at "m_store"
      clear H; intro s H
      refine wpAny_execs_nil ⟨n, Nat.lt_succ_self _, i + 1, c, rr, _, by omega, hra, hro, ?_, her, H⟩
      rw [htk, Nd.find_append, hm]; simp [Nd.find, hc]
    · have H := H.perm perm_focus.symm
      rw [← e2 ⟨m.a, m.dx, m.v, kd, ch⟩ rfl] at H
      walk_at "m_store"
      clear H; intro s H
      refine wpAny_execs_nil ⟨n, Nat.lt_succ_self _, i + 1, newNd D0 n' dx, rr.put (x.cps.toList.take i) ⟨m.a, m.dx, m.v, kd, ch⟩, _, by omega, ?_, Nd.put_ok hm hro hok', ?_, ?_, H⟩
      · exact (Nd.put_a (m' := ⟨m.a, m.dx, m.v, kd, ch⟩) hm rfl).trans hra
      · rw [htk, Nd.put_find hm]; simp [Nd.find, hl]
      · rw [← her, Nd.put_er hm]
        have hsub : (rr.er D0).sub (x.cps.toList.take i) = some (m.er D0) := by rw [Nd.find_er, hm]; rfl
        have hl0 : (m.er D0).ch.look (x.cps[i]) = none := by show (m.ch.er D0).look _ = none; rw [Fo.look_er, hc]; rfl
        have := Tn.ins_put_new (v := v) (w := x.cps.toList.drop (i + 1)) hsub hl0
        rw [← hall] at this
        rw [← this]
        simp only [Nd.er, hch]
end Mine
end
section
open PySem PySem.W PySem.Calls PyProof.Rows
set_option Elab.async false
set_option maxRecDepth 100000
set_option maxHeartbeats 4000000
set_option linter.unusedVariables false
namespace Mine
local macro_rules | `(tactic| walk_at "m_fill") => `(tactic| ((have dummy : PySem.Challenge.rw_ez0279_01 = PySem.Challenge.rw_ez0279_01 ∧ hd.heap_39 = hd.heap_39 := by k_fill; exact ⟨rfl, rfl⟩); clear dummy))
local macro_rules | `(tactic| walk_at "m_facts") => `(tactic| (constructor <;> first | k_dflt k_is | decide +kernel))
theorem sl_fill_T11 : True := by walk_at "m_fill"; trivial
local macro_rules | `(tactic| walk_at "m_has") => `(tactic| with_reducible first | exact Has.head | (refine Has.tail ?_; walk_at "m_has") | (refine Has.of ?_; assumption) | assumption)
local macro_rules | `(tactic| walk_at "m_at") => `(tactic| with_reducible first | exact At.head | (refine At.tail ?_; walk_at "m_at"))
local macro_rules | `(tactic| walk_at "m_sub") => `(tactic| with_reducible first | exact Sub1.head | (apply Sub1.tail; walk_at "m_sub"))
local macro_rules | `(tactic| walk_at "m_put") => `(tactic| with_reducible first | exact PutAt.head | (apply PutAt.tail; walk_at "m_put"))
local macro_rules | `(tactic| walk_at "m_rem") => `(tactic| with_reducible first | exact Rem.head | (apply Rem.tail; walk_at "m_rem"))
local macro_rules | `(tactic| walk_at "m_pick") => `(tactic| with_reducible first | exact Pick.all | (apply Pick.take; (focus (walk_at "m_rem")); walk_at "m_pick") | (apply Pick.skip; walk_at "m_pick"))
local macro_rules | `(tactic| walk_at "m_room") => `(tactic| first | assumption | omega)
local macro_rules | `(tactic| walk_at "m_name") => `(tactic| refine nm (by assumption) (by assumption) (by walk_at "m_has") (by walk_at "m_at") (by decide) (by decide) ?_)
local macro_rules | `(tactic| walk_at "m_slotget") => `(tactic| (refine attr_slot (by assumption) (by first | exact sl_step _ | exact sl_node _ | exact sl_children _ | exact sl_value _) (by assumption) (by walk_at "m_has") (by exact rfl) (by walk_at "m_has") (by exact rfl) (by exact rfl) ?_))
local macro_rules | `(tactic| walk_at "m_store") => `(tactic| refine st_ (by assumption) (by assumption) (by decide) (by walk_at "m_sub") (by walk_at "m_put") ?_)
local macro_rules | `(tactic| walk_at "m_glob") => `(tactic| (refine glob (by assumption) (by assumption) (by assumption) (by decide) (by k_dflt k_is) (by decide) ?_))
variable {w : World} {A : Around} {E : Value → Shared → Prop} {b s : Shared} {cs cs' : List Cell} {R : Result → Shared → Prop} {env : Env} {pos : Pos}

local macro_rules | `(tactic| walk_at "m_bi") => `(tactic| (refine builtin (by assumption) (by assumption) (by assumption) (by decide) (by k_dflt k_is) (by boot_by_name) (by decide) (by decide) ?_))
theorem isi_meta_slice : typeOf (.type "slice") = pure (.type "type") := by kernel_rfl
theorem str_slice {x : Str} {u : Tok} {Q : Value → Shared → Prop} (h : ∀ t, Q (.bool false) { s with toks := t }) : wpAny (model prog w) A (call (.builtin "isinstance") [.str x u, .type "slice"]) Q E s :=
  call_isinstance (isinstance_false_str (by decide +kernel) isi_meta_slice (by rw [isSubtype_type]; kernel_rfl)) (h _)
theorem gl_stop : True := trivial
theorem has_key {a td : Addr} {r : Nd} {cb : Value} {t1 t2 : Tok} {ep : Nat} {x : Str} {tk : Tok} (B : Base (hd.heap_39 w.params) b) (H : St b s cs) (h1 : Has (.o a (trieObj td)) cs) (h2 : Has (.o td (dictOf (trieEs w.params (.ref r.a) cb t1 t2) ep)) cs)
   (hin : ∀ c ∈ r.cells w.params D0, c ∈ cs) (hok : r.ok D0) (hx : (x.cps.all fun c => decide (c < 128)) = true) (hA : A.depth + 6 < recursionLimit) (hh : A.handled = none)
   (hR : ∀ s', St b s' cs → R (.ok (.ret (.bool ((r.er D0).get x.cps.toList).isSome))) s') : codeAny (model prog w) A (.call (.ref 652) ⟨[.ref a, .str x tk], []⟩) R s := by
  have hA0 : A.depth < recursionLimit := by omega
  refine enterN (K := (hd.heap_39 w.params)) (nk := [((PySem.Str.ofString "self"), .local), ((PySem.Str.ofString "key"), .local), ((PySem.Str.ofString "node"), .local), ((PySem.Str.ofString "_NOVAL"), .globalImplicit)]) ⟨⟨_, _, _, by k_dflt k_is⟩, by k_dflt k_is, by exact rfl, by exact rfl, by exact rfl, by exact rfl, by exact rfl, by exact rfl⟩ (by exact rfl) [(PySem.Str.ofString "self"), (PySem.Str.ofString "key"), (PySem.Str.ofString "node")] [some (.ref a), some (.str x tk), none] (by assumption) (by assumption) (by walk_at "m_room") (by exact BindsTo.of_eq rfl) (by decide) (by exact locsN rfl) (by decide) (by exact rfl) (by exact rfl) ?_
  clear H; intro s L env V H
  refine wpAny_execs_cons (wpAny_Assign_Name (MethodCall_ ?_))
  walk_at "m_name"
  refine meth B (me_fn w) H (by walk_at "m_has") rfl (by walk_at "m_has") rfl ?_
  refine callK B H (kp_fn w) rfl rfl (spliced_more ?_)
  walk_at "m_name"
  refine spliced_none ⟨⟨_, H⟩, wpAny_call (find_node B H (.tail h1) (.tail h2) (fun c hc => .tail _ (hin c hc)) hok hx (show A.depth + 1 + 4 < _ by omega) hh ?_)⟩
  clear H; intro s H
  have hg : (r.er D0).get x.cps.toList = (r.find x.cps.toList).bind fun m => valOf D0 m.v := by
    unfold Tn.get; rw [Nd.find_er]; cases r.find x.cps.toList <;> rfl
  walk_at "m_store"
  clear H; intro s H
  refine wpAny_execs_cons (wpAny_Return_some (BoolOp_and ?_))
  cases q : r.find x.cps.toList with
  | none =>
    rw [q] at H hg
    refine wpAny_Compare1 ?_
    walk_at "m_name"
    refine wpAny_Constant_none ?_
    refine wpAny_isNot_plain rfl (wpAny_truthy_bool ?_)
    have := hR _ (H.mono (List.sublist_cons_self _ _))
    rw [hg] at this; exact this
  | some m =>
    rw [q] at H hg
    have hmo := Nd.find_ok q hok
    refine wpAny_Compare1 ?_
    walk_at "m_name"
    refine wpAny_Constant_none ?_
    refine wpAny_isNot_plain rfl (wpAny_truthy_bool ?_)
    refine BoolOp_one (wpAny_Compare1 (Attribute_Name_ ?_))
    walk_at "m_name"
    have hn1 : Cell.o m.a (nodeObj D0 m.dx (chVal D0 m.kd) m.v) ∈ cs := hin _ (Nd.find_cells q _ (List.mem_cons_self ..))
    have hn2 : Cell.o m.dx noDict ∈ cs := hin _ (Nd.find_cells q _ (List.mem_cons_of_mem _ (List.mem_cons_self ..)))
    refine attr_slot B (sl_value w) H (by walk_at "m_has") rfl (by walk_at "m_has") rfl hmo.1.handed ?_
    clear H; intro s H
    walk_at "m_glob"
    refine isnt_noval hmo.1 ?_
    have := hR _ (H.mono (List.sublist_cons_self _ _))
    rw [hg] at this
    have e : ((some m).bind fun m => valOf D0 m.v).isSome = isSet D0 m.v := by
      show (valOf D0 m.v).isSome = _
      unfold valOf; cases isSet D0 m.v <;> rfl
    rw [e] at this; exact this
theorem slice_maybe {x : Str} {tk : Tok} (B : Base (hd.heap_39 w.params) b) (H : St b s cs) (hA : A.depth < recursionLimit)
   (hR : ∀ s' t, St b s' (.o t (tupObj #[.str x tk, .bool false]) :: cs) → R (.ok (.ret (.ref t))) s') : codeAny (model prog w) A (.call (.ref 666) ⟨[.str x tk], []⟩) R s := by
  refine enterN (K := (hd.heap_39 w.params)) (nk := [((PySem.Str.ofString "key_or_slice"), .local), ((PySem.Str.ofString "isinstance"), .globalImplicit), ((PySem.Str.ofString "slice"), .globalImplicit), ((PySem.Str.ofString "TypeError"), .globalImplicit)]) ⟨⟨_, _, _, by k_dflt k_is⟩, by k_dflt k_is, by exact rfl, by exact rfl, by exact rfl, by exact rfl, by exact rfl, by exact rfl⟩ (by exact rfl) [(PySem.Str.ofString "key_or_slice")] [some (.str x tk)] (by assumption) (by assumption) (by walk_at "m_room") (by exact BindsTo.of_eq rfl) (by decide) (by exact locsN rfl) (by decide) (by exact rfl) (by exact rfl) ?_
  clear H; intro s L env V H
  refine wpAny_execs_cons (wpAny_If (isTrue_not (isTrue_plain (Call_ ?_))))
  walk_at "m_bi"
  refine callWith_builtin1 (spliced_more ?_) rfl rfl
  walk_at "m_name"
  refine spliced_more ?_
  walk_at "m_bi"
  refine spliced_none (str_slice fun t => ?_)
  have H := H.toks (t := t)
  refine wpAny_truthy_bool ?_
  rw [if_pos (by decide)]
  refine wpAny_execs_cons (wpAny_Return_some (tuple_ (b := b) ?_))
  refine spliced_more ?_
  walk_at "m_name"
  refine spliced_more (wpAny_Constant_bool (spliced_none ⟨by simp, _, H, ?_⟩))
  clear H; intro s t H
  exact hR _ t (H.pick (by walk_at "m_pick"))
theorem st_slice (w : World) : StatOf (hd.heap_39 w.params) 839 (S "_slice_maybe") 668 (.ref 666) := by
  refine ⟨?_, ?_, ?_, ?_, ?_, ?_, ?_, ⟨[.bool false], ?_⟩, rfl⟩ <;> first | k_dflt k_is | decide +kernel
theorem me_set (w : World) : MethOf (hd.heap_39 w.params) 839 (S "_set_node") (.ref 562) gaO tF := by walk_at "m_facts"
theorem kp_set (w : World) : keepIn (hd.heap_39 w.params) (.ref 562) = true := by k_dflt k_is
theorem kp_sm (w : World) : keepIn (hd.heap_39 w.params) (.ref 666) = true := by k_dflt k_is
theorem perm_set2 {α : Type} {X : List α} {a td c f : α} {cs : List α} : (c :: f :: (X ++ (a :: td :: cs))).Perm (X ++ (a :: td :: c :: f :: cs)) := by
  have h1 := List.perm_append_comm_assoc [c, f] (X ++ [a, td]) cs
  simpa only [List.append_assoc, List.cons_append, List.nil_append] using h1
theorem set_item {a td : Addr} {r : Nd} {cb v : Value} {t1 t2 : Tok} {ep : Nat} {x : Str} {tk : Tok} (B : Base (hd.heap_39 w.params) b) (H : St b s (r.cells w.params D0 ++ (.o a (trieObj td) :: .o td (dictOf (trieEs w.params (.ref r.a) cb t1 t2) ep) :: cs)))
   (hok : r.ok D0) (hx : (x.cps.all fun c => decide (c < 128)) = true) (hv : VOk D0 v) (hvs : isSet D0 v = true) (hA : A.depth + 10 < recursionLimit) (hh : A.handled = none)
   (hR : ∀ s' (r' : Nd), r'.a = r.a → r'.ok D0 → r'.er D0 = (r.er D0).ins x.cps.toList v → St b s' (r'.cells w.params D0 ++ (.o a (trieObj td) :: .o td (dictOf (trieEs w.params (.ref r.a) cb t1 t2) ep) :: cs)) → R (.ok (.ret .none)) s') :
   codeAny (model prog w) A (.call (.ref 691) ⟨[.ref a, .str x tk, v], []⟩) R s := by
  have hA0 : A.depth < recursionLimit := by omega
  refine enterN (K := (hd.heap_39 w.params)) (nk := [((PySem.Str.ofString "self"), .local), ((PySem.Str.ofString "key_or_slice"), .local), ((PySem.Str.ofString "value"), .local), ((PySem.Str.ofString "key"), .local), ((PySem.Str.ofString "is_slice"), .local), ((PySem.Str.ofString "node"), .local), ((PySem.Str.ofString "_NO_CHILDREN"), .globalImplicit)]) ⟨⟨_, _, _, by k_dflt k_is⟩, by k_dflt k_is, by exact rfl, by exact rfl, by exact rfl, by exact rfl, by exact rfl, by exact rfl⟩ (by exact rfl) [(PySem.Str.ofString "self"), (PySem.Str.ofString "key_or_slice"), (PySem.Str.ofString "value"), (PySem.Str.ofString "key"), (PySem.Str.ofString "is_slice"), (PySem.Str.ofString "node")] [some (.ref a), some (.str x tk), some (v), none, none, none] (by assumption) (by assumption) (by walk_at "m_room") (by exact BindsTo.of_eq rfl) (by decide) (by exact locsN rfl) (by decide) (by exact rfl) (by exact rfl) ?_
  clear H; intro s L env V H
  refine wpAny_execs_cons (Assign_Tuple (MethodCall_ ?_))
  walk_at "m_name"
  refine method_stat B (st_slice w) H (.tail (.of (List.mem_append_right _ (.head _)))) rfl (.tail (.of (List.mem_append_right _ (.tail _ (.head _))))) rfl ?_
  clear H; intro s H
  refine callK B H (kp_sm w) rfl rfl (spliced_more ?_)
  walk_at "m_name"
  refine spliced_none ⟨⟨_, H⟩, wpAny_call (slice_maybe B H (show A.depth + 1 < _ by omega) ?_)⟩
  clear H; intro s t H
  refine unpackT hh H .head rfl rfl ?_
  clear H; intro s H
  refine assignInOrder_cons (assign_Name ?_)
  walk_at "m_store"
  clear H; intro s H
  refine assignInOrder_cons (assign_Name ?_)
  walk_at "m_store"
  clear H; intro s H
  refine assignInOrder_nil ?_
  refine wpAny_execs_cons (wpAny_Assign_Name (MethodCall_ ?_))
  walk_at "m_name"
  refine meth B (me_set w) H (.tail (.tail (.of (List.mem_append_right _ (.head _))))) rfl (.tail (.tail (.of (List.mem_append_right _ (.tail _ (.head _)))))) rfl ?_
  refine callK B H (kp_set w) rfl rfl (spliced_more ?_)
  walk_at "m_name"
  refine spliced_more ?_
  walk_at "m_name"
  have H1 := H.perm (cs' := r.cells w.params D0 ++ (.o a (trieObj td) :: .o td (dictOf (trieEs w.params (.ref r.a) cb t1 t2) ep) :: .o t (tupObj #[.str x tk, .bool false]) :: .f L [S "self", S "key_or_slice", S "value", S "key", S "is_slice", S "node"] [some (.ref a), some (.str x tk), some v, some (.str x tk), some (.bool false), none] :: cs)) ?_
  · refine spliced_none ⟨⟨_, H⟩, wpAny_call (set_node B H1 hok hx hv hvs (show A.depth + 1 + 8 < _ by omega) hh ?_)⟩
    clear H H1; intro s r' m hra hro her H
    have H := (H.perm (perm_set2 (c := Cell.o t (tupObj #[.str x tk, .bool false])) (f := Cell.f L [S "self", S "key_or_slice", S "value", S "key", S "is_slice", S "node"] [some (.ref a), some (.str x tk), some v, some (.str x tk), some (.bool false), none]))).mono (List.sublist_cons_self _ _)
    walk_at "m_store"
    clear H; intro s H
    refine wpAny_execs_cons (wpAny_If (isTrue_plain ?_))
    walk_at "m_name"
    refine wpAny_truthy_bool ?_
    rw [if_neg (by decide)]
    refine wpAny_execs_nil ?_
    refine wpAny_execs_nil ?_
    exact hR s r' hra hro her (H.mono (List.sublist_cons_self _ _))
  · exact perm_set2.symm
end Mine
end
section
open PySem PySem.W PySem.Calls PyProof.Rows
set_option Elab.async false
set_option maxRecDepth 100000
set_option maxHeartbeats 4000000
set_option linter.unusedVariables false
namespace Mine
local macro_rules | `(tactic| walk_at "m_fill") => `(tactic| ((have dummy : PySem.Challenge.rw_ez0279_01 = PySem.Challenge.rw_ez0279_01 ∧ hd.heap_39 = hd.heap_39 := by k_fill; exact ⟨rfl, rfl⟩); clear dummy))
local macro_rules | `(tactic| walk_at "m_facts") => `(tactic| (constructor <;> first | k_dflt k_is | decide +kernel))
theorem sl_fill_T12 : True := by walk_at "m_fill"; trivial
local macro_rules | `(tactic| walk_at "m_has") => `(tactic| with_reducible first | exact Has.head | (refine Has.tail ?_; walk_at "m_has") | (refine Has.of ?_; assumption) | assumption)
local macro_rules | `(tactic| walk_at "m_at") => `(tactic| with_reducible first | exact At.head | (refine At.tail ?_; walk_at "m_at"))
local macro_rules | `(tactic| walk_at "m_sub") => `(tactic| with_reducible first | exact Sub1.head | (apply Sub1.tail; walk_at "m_sub"))
local macro_rules | `(tactic| walk_at "m_put") => `(tactic| with_reducible first | exact PutAt.head | (apply PutAt.tail; walk_at "m_put"))
local macro_rules | `(tactic| walk_at "m_rem") => `(tactic| with_reducible first | exact Rem.head | (apply Rem.tail; walk_at "m_rem"))
local macro_rules | `(tactic| walk_at "m_pick") => `(tactic| with_reducible first | exact Pick.all | (apply Pick.take; (focus (walk_at "m_rem")); walk_at "m_pick") | (apply Pick.skip; walk_at "m_pick"))
local macro_rules | `(tactic| walk_at "m_room") => `(tactic| first | assumption | omega)
local macro_rules | `(tactic| walk_at "m_name") => `(tactic| refine nm (by assumption) (by assumption) (by walk_at "m_has") (by walk_at "m_at") (by decide) (by decide) ?_)
local macro_rules | `(tactic| walk_at "m_slotget") => `(tactic| (refine attr_slot (by assumption) (by first | exact sl_step _ | exact sl_node _ | exact sl_children _ | exact sl_value _) (by assumption) (by walk_at "m_has") (by exact rfl) (by walk_at "m_has") (by exact rfl) (by exact rfl) ?_))
local macro_rules | `(tactic| walk_at "m_store") => `(tactic| refine st_ (by assumption) (by assumption) (by decide) (by walk_at "m_sub") (by walk_at "m_put") ?_)
local macro_rules | `(tactic| walk_at "m_glob") => `(tactic| (refine glob (by assumption) (by assumption) (by assumption) (by decide) (by k_dflt k_is) (by decide) ?_))
variable {w : World} {A : Around} {E : Value → Shared → Prop} {b s : Shared} {cs cs' : List Cell} {R : Result → Shared → Prop} {env : Env} {pos : Pos}

local macro_rules | `(tactic| walk_at "m_bi") => `(tactic| (refine builtin (by assumption) (by assumption) (by assumption) (by decide) (by k_dflt k_is) (by boot_by_name) (by decide) (by decide) ?_))
theorem ty_items : typeOf (.builtin "dict.items") = pure (.type "method_descriptor") := by kernel_rfl
theorem update0 {a td oa : Addr} (hoa : List.lookup oa (hd.heap_39 w.params) = some (tupObj #[])) {r cb : Value} {t1 t2 : Tok} {ep : Nat} (B : Base (hd.heap_39 w.params) b) (H : St b s cs) (h1 : Has (.o a (trieObj td)) cs) (h2 : Has (.o td (dictOf (trieEs w.params r cb t1 t2) ep)) cs)
   (hA : A.depth + 2 < recursionLimit) (hh : A.handled = none)
   (hR : ∀ s', St b s' cs → R (.ok (.ret .none)) s') : codeAny (model prog w) A (.call (.ref 495) ⟨[.ref a, .ref oa], []⟩) R s := by
  have hA0 : A.depth < recursionLimit := by omega
  refine enterD (K := (hd.heap_39 w.params)) (nk := [((PySem.Str.ofString "self"), .local), ((PySem.Str.ofString "other"), .local), ((PySem.Str.ofString "kwargs"), .local), ((PySem.Str.ofString "key"), .local), ((PySem.Str.ofString "value"), .local), ((PySem.Str.ofString "isinstance"), .globalImplicit), ((PySem.Str.ofString "Trie"), .globalImplicit), ((PySem.Str.ofString "list"), .globalImplicit), ((PySem.Str.ofString "dict"), .globalImplicit)]) (T := @488) (oT := tupObj #[.ref 487]) ⟨⟨_, _, _, by k_dflt k_is⟩, by k_dflt k_is, by exact rfl, by exact rfl, by exact rfl, by exact rfl, by exact rfl, by exact rfl⟩ (by exact rfl) (by k_dflt k_is) [(PySem.Str.ofString "self"), (PySem.Str.ofString "other"), (PySem.Str.ofString "kwargs"), (PySem.Str.ofString "key"), (PySem.Str.ofString "value")] (fun d => [some (.ref a), some (.ref oa), some (.ref d), none, none]) (by assumption) (by assumption) (by walk_at "m_room") (by exact rfl) (by decide) (fun d => by exact locsN rfl) (by decide) (fun d => by exact rfl) (by exact rfl) ?_
  clear H; intro s L d env V H
  have nil : s.heap.get? oa = some (tupObj #[]) := H.in_ B.X _ _ hoa
  refine wpAny_execs_cons (wpAny_If (isTrue_plain (Call_ ?_)))
  walk_at "m_bi"
  refine callWith_builtin1 (spliced_more ?_) rfl rfl
  walk_at "m_name"
  refine spliced_more ?_
  walk_at "m_glob"
  refine spliced_none ?_
  refine isn_call (K := (hd.heap_39 w.params)) (T := "tuple") (P := fun h => ∃ o, h.get? oa = some o ∧ o.cls = .type "tuple") (H.in_ B.X) (fun M => (Looks.ld nil).andThen .now) (by k_not) (by intro e; cases e) ⟨_, nil, rfl⟩ tuple_cls ?_
  have H := H.toks (t := s.toks + 1)
  refine wpAny_truthy_bool ?_
  rw [if_neg (by decide)]
  refine wpAny_execs_nil ?_
  refine wpAny_execs_cons (wpAny_For ?_ (fun _ => rfl))
  refine wpAny_BinOp (Call_ ?_)
  walk_at "m_bi"
  refine PyProof.Rows.callWith_type1 (spliced_more ?_) rfl rfl
  refine wpAny_IfExp (isTrue_plain (Call_ ?_))
  walk_at "m_bi"
  refine callWith_builtin1 (spliced_more ?_) rfl rfl
  walk_at "m_name"
  refine spliced_more ?_
  walk_at "m_bi"
  refine spliced_none ?_
  have nil : s.heap.get? oa = some (tupObj #[]) := H.in_ B.X _ _ hoa
  refine PySem.IsiPair.tuple_dict nil rfl ?_
  have H := H.toks (t := s.toks + 1 + 1)
  refine wpAny_truthy_bool ?_
  rw [if_neg (by decide)]
  walk_at "m_name"
  refine spliced_none ?_
  refine list_seq (items := []) H (.inr rfl) nil rfl rfl (by decide) ?_
  clear H nil; intro s l1 H
  refine Call_ ?_
  walk_at "m_bi"
  refine PyProof.Rows.callWith_type1 (spliced_more ?_) rfl rfl
  refine MethodCall_ ?_
  walk_at "m_name"
  have hd : Has (.o d noDict) (.p l1 (lstP []) :: .f L [S "self", S "other", S "kwargs", S "key", S "value"] [some (.ref a), some (.ref oa), some (.ref d), none, none] :: .o d noDict :: cs) := by walk_at "m_has"
  refine meth_bi (H.obj hd.mem) rfl rfl PySem.F.plainAttrs_dict PySem.F.slot_dict_items ty_items ?_
  refine callWith_method0 (call_items0 B H hd ?_)
  clear H; intro s r0 H
  refine spliced_none ?_
  refine list_items0 (r := r0) (d := d) hh H .head (.tail hd) ?_
  clear H; intro s l2 H
  refine add_list_ (i1 := []) (i2 := []) H (by walk_at "m_has") (by walk_at "m_has") (by decide) ?_
  clear H; intro s l3 H
  refine iterList (items := []) H .head ?_
  clear H; intro s it H
  refine forEmpty (endList (items := []) hh H .head rfl ?_)
  clear H; intro s H
  refine ⟨rfl, ?_⟩
  refine wpAny_execs_nil ?_
  exact hR s (H.pick (by walk_at "m_pick"))
end Mine
end
section
open PySem PySem.W PySem.Calls PyProof.Rows
set_option Elab.async false
set_option maxRecDepth 100000
set_option maxHeartbeats 4000000
set_option linter.unusedVariables false
namespace Mine
local macro_rules | `(tactic| walk_at "m_fill") => `(tactic| ((have dummy : PySem.Challenge.rw_ez0279_01 = PySem.Challenge.rw_ez0279_01 ∧ hd.heap_39 = hd.heap_39 := by k_fill; exact ⟨rfl, rfl⟩); clear dummy))
local macro_rules | `(tactic| walk_at "m_facts") => `(tactic| (constructor <;> first | k_dflt k_is | decide +kernel))
theorem sl_fill_T13 : True := by walk_at "m_fill"; trivial
local macro_rules | `(tactic| walk_at "m_has") => `(tactic| with_reducible first | exact Has.head | (refine Has.tail ?_; walk_at "m_has") | (refine Has.of ?_; assumption) | assumption)
local macro_rules | `(tactic| walk_at "m_at") => `(tactic| with_reducible first | exact At.head | (refine At.tail ?_; walk_at "m_at"))
local macro_rules | `(tactic| walk_at "m_sub") => `(tactic| with_reducible first | exact Sub1.head | (apply Sub1.tail; walk_at "m_sub"))
local macro_rules | `(tactic| walk_at "m_put") => `(tactic| with_reducible first | exact PutAt.head | (apply PutAt.tail; walk_at "m_put"))
local macro_rules | `(tactic| walk_at "m_rem") => `(tactic| with_reducible first | exact Rem.head | (apply Rem.tail; walk_at "m_rem"))
local macro_rules | `(tactic| walk_at "m_pick") => `(tactic| with_reducible first | exact Pick.all | (apply Pick.take; (focus (walk_at "m_rem")); walk_at "m_pick") | (apply Pick.skip; walk_at "m_pick"))
local macro_rules | `(tactic| walk_at "m_room") => `(tactic| first | assumption | omega)
local macro_rules | `(tactic| walk_at "m_name") => `(tactic| refine nm (by assumption) (by assumption) (by walk_at "m_has") (by walk_at "m_at") (by decide) (by decide) ?_)
local macro_rules | `(tactic| walk_at "m_slotget") => `(tactic| (refine attr_slot (by assumption) (by first | exact sl_step _ | exact sl_node _ | exact sl_children _ | exact sl_value _) (by assumption) (by walk_at "m_has") (by exact rfl) (by walk_at "m_has") (by exact rfl) (by exact rfl) ?_))
local macro_rules | `(tactic| walk_at "m_store") => `(tactic| refine st_ (by assumption) (by assumption) (by decide) (by walk_at "m_sub") (by walk_at "m_put") ?_)
local macro_rules | `(tactic| walk_at "m_glob") => `(tactic| (refine glob (by assumption) (by assumption) (by assumption) (by decide) (by k_dflt k_is) (by decide) ?_))
variable {w : World} {A : Around} {E : Value → Shared → Prop} {b s : Shared} {cs cs' : List Cell} {R : Result → Shared → Prop} {env : Env} {pos : Pos}

theorem ds_root (w : World) : DictSet (hd.heap_39 w.params) 839 (S "_root") := by walk_at "m_facts"
theorem ds_items (w : World) : DictSet (hd.heap_39 w.params) 839 (S "_items_callback") := by walk_at "m_facts"
theorem cl_cb (w : World) : ClsOf (hd.heap_39 w.params) 839 (S "_ITEMS_CALLBACKS") (.ref 486) := by constructor <;> first | k_dflt k_is | decide +kernel | rfl
theorem mk_trie (w : World) : makesIn (hd.heap_39 w.params) 839 = true := by k_dflt k_is
theorem in_trie (w : World) : findIn (hd.heap_39 w.params) (.ref 839) "__init__" = some (some (.ref 471)) := by k_dflt k_is
theorem ty_itrie (w : World) : typeIn (hd.heap_39 w.params) (.ref 471) = some (.type "function") := by k_dflt k_is
theorem kp_trie (w : World) : keepIn (hd.heap_39 w.params) (.ref 839) = true := by k_dflt k_is
theorem cb_look (w : World) : List.lookup 486 (hd.heap_39 w.params) = some (tupObj #[.ref 478, .ref 485]) := by k_dflt k_is
theorem me_upd (w : World) : MethOf (hd.heap_39 w.params) 839 (S "update") (.ref 495) gaO tF := by walk_at "m_facts"
theorem nil_look (w : World) : List.lookup 463 (hd.heap_39 w.params) = some (tupObj #[]) := by k_dflt k_is
theorem fo_upd (w : World) : FnOf (hd.heap_39 w.params) 839 (S "update") 495 := by walk_at "m_facts"
theorem fn_upd (w : World) : fnIn (hd.heap_39 w.params) 495 = true := by k_dflt k_is
theorem trie_new (B : Base (hd.heap_39 w.params) b) (H : St b s cs) (hA : A.depth + 6 < recursionLimit) (hh : A.handled = none)
  (hR : ∀ s' a td n ndx t1 t2, St b s' (Nd.cells w.params D0 (newNd D0 n ndx) ++ (.o a (trieObj td) :: .o td (dictOf (trieEs w.params (.ref n) (.ref 478) t1 t2) 2) :: cs)) → R (.ok (.ret (.ref a))) s') :
  codeAny (model prog w) A (.call (.ref 839) ⟨[], []⟩) R s := by
  refine make B H (mk_trie w) (in_trie w) (ty_itrie w) ?_
  clear H; intro s x dx H
  have hd0 : (A.under (.builtin "type.__call__" ⟨.ref 839 :: [], []⟩)).depth = A.depth + 1 := depth_under_make ..
  have hh0 : (A.under (.builtin "type.__call__" ⟨.ref 839 :: [], []⟩)).handled = none := hh
  revert hd0 hh0
  generalize A.under (.builtin "type.__call__" ⟨.ref 839 :: [], []⟩) = A1
  intro hd0 hh0
  have hA' : A1.depth < recursionLimit := by omega
  refine enterD (K := (hd.heap_39 w.params)) (nk := [((PySem.Str.ofString "self"), .local), ((PySem.Str.ofString "other"), .local), ((PySem.Str.ofString "kwargs"), .local), ((PySem.Str.ofString "_Node"), .globalImplicit)]) (T := @464) (oT := tupObj #[.ref 463]) ⟨⟨_, _, _, by k_dflt k_is⟩, by k_dflt k_is, by exact rfl, by exact rfl, by exact rfl, by exact rfl, by exact rfl, by exact rfl⟩ (by exact rfl) (by k_dflt k_is) [(PySem.Str.ofString "self"), (PySem.Str.ofString "other"), (PySem.Str.ofString "kwargs")] (fun d => [some (.ref x), some (.ref 463), some (.ref d)]) (by assumption) (by assumption) (by walk_at "m_room") (by exact rfl) (by decide) (fun d => by exact locsN rfl) (by decide) (fun d => by exact rfl) (by exact rfl) ?_
  clear H; intro s L d env V H
  have hA1 : (A1.deeper env).depth + 2 < recursionLimit := show A1.depth + 1 + 2 < recursionLimit by omega
  refine wpAny_execs_cons (plainObj_wpAny_Assign_Attribute (Call_ ?_))
  walk_at "m_glob"
  refine callK0 B H (kp_node w) (wpAny_call (node_new B H hA1 ?_))
  clear H; intro s n ndx H
  walk_at "m_name"
  refine set_own_ (es' := fun t => [⟨PyData.keyHash w.params (S "_root"), .str (S "_root") t, .ref n⟩]) (es0 := []) (n := 0) (n' := 1) B (ds_root w) H (by walk_at "m_has") (by walk_at "m_has") rfl (by walk_at "m_has") rfl (fun t => rfl) (fun t => by simp) (fun t1 => ⟨_, by walk_at "m_sub", ?_⟩)
  clear H; intro s H
  refine wpAny_execs_cons (plainObj_wpAny_Assign_Attribute (Subscript_ (Attribute_Name_ ?_)))
  walk_at "m_name"
  refine attr_cls B (cl_cb w) H (by walk_at "m_has") rfl (by walk_at "m_has") rfl ?_
  clear H; intro s H
  refine kInt H ?_
  clear H; intro s tk H
  refine item_tup ⟨_, H.in_ B.X _ _ (cb_look w), rfl, _, rfl⟩ (by decide) (by decide) (j := 0) rfl rfl ?_
  walk_at "m_name"
  refine set_own_ (es' := fun t => trieEs w.params (.ref n) (.ref 478) t1 t) (es0 := [⟨PyData.keyHash w.params (S "_root"), .str (S "_root") t1, .ref n⟩]) (n := 1) (n' := 2) B (ds_items w) H (by walk_at "m_has") (by walk_at "m_has") rfl (by walk_at "m_has") rfl (fun t => rfl) (fun t => by simp [trieEs]) (fun t2 => ⟨_, by walk_at "m_sub", ?_⟩)
  clear H; intro s H
  refine wpAny_execs_cons (wpAny_Expr (MethodCallStar ?_) V.quiet)
  walk_at "m_name"
  refine attr_fn B (fo_upd w) H (by walk_at "m_has") rfl (by walk_at "m_has") rfl ?_
  clear H; intro s q H
  refine callStar1 (b := b) B rfl ?_
  refine spliced_more ?_
  walk_at "m_name"
  refine spliced_none ⟨_, H, ?_⟩
  clear H; intro s d2 H
  walk_at "m_name"
  refine ⟨d, _, rfl, H, by walk_at "m_has", by walk_at "m_has", keeps_meth B (fn_upd w) H (q := q) (a := x) (by walk_at "m_has"), wpAny_call (method_call (H.obj (a := q) (x := methodObj (.ref 495) (.ref x)) (Has.mem (by walk_at "m_has"))) (update0 (nil_look w) B H (by walk_at "m_has") (by walk_at "m_has") (show A1.depth + 1 + 2 < recursionLimit by omega) hh0 ?_))⟩
  clear H; intro s H
  refine wpAny_execs_nil ?_
  refine ⟨rfl, hR s x dx n ndx t1 t2 (show St b s (.o n (nodeObj D0 ndx (.ref D0.nc) (.ref D0.noval)) :: .o ndx noDict :: .o x (trieObj dx) :: .o dx (dictOf (trieEs w.params (.ref n) (.ref 478) t1 t2) 2) :: cs) from H.pick (by walk_at "m_pick"))⟩
end Mine
end
section
open PySem PySem.W PySem.Calls PyProof.Rows
set_option Elab.async false
set_option maxRecDepth 100000
set_option maxHeartbeats 4000000
set_option linter.unusedVariables false
namespace Mine
local macro_rules | `(tactic| walk_at "m_fill") => `(tactic| ((have dummy : PySem.Challenge.rw_ez0279_01 = PySem.Challenge.rw_ez0279_01 ∧ hd.heap_39 = hd.heap_39 := by k_fill; exact ⟨rfl, rfl⟩); clear dummy))
local macro_rules | `(tactic| walk_at "m_facts") => `(tactic| (constructor <;> first | k_dflt k_is | decide +kernel))
theorem sl_fill_T14 : True := by walk_at "m_fill"; trivial
local macro_rules | `(tactic| walk_at "m_has") => `(tactic| with_reducible first | exact Has.head | (refine Has.tail ?_; walk_at "m_has") | (refine Has.of ?_; assumption) | assumption)
local macro_rules | `(tactic| walk_at "m_at") => `(tactic| with_reducible first | exact At.head | (refine At.tail ?_; walk_at "m_at"))
local macro_rules | `(tactic| walk_at "m_sub") => `(tactic| with_reducible first | exact Sub1.head | (apply Sub1.tail; walk_at "m_sub"))
local macro_rules | `(tactic| walk_at "m_put") => `(tactic| with_reducible first | exact PutAt.head | (apply PutAt.tail; walk_at "m_put"))
local macro_rules | `(tactic| walk_at "m_rem") => `(tactic| with_reducible first | exact Rem.head | (apply Rem.tail; walk_at "m_rem"))
local macro_rules | `(tactic| walk_at "m_pick") => `(tactic| with_reducible first | exact Pick.all | (apply Pick.take; (focus (walk_at "m_rem")); walk_at "m_pick") | (apply Pick.skip; walk_at "m_pick"))
local macro_rules | `(tactic| walk_at "m_room") => `(tactic| first | assumption | omega)
local macro_rules | `(tactic| walk_at "m_name") => `(tactic| refine nm (by assumption) (by assumption) (by walk_at "m_has") (by walk_at "m_at") (by decide) (by decide) ?_)
local macro_rules | `(tactic| walk_at "m_slotget") => `(tactic| (refine attr_slot (by assumption) (by first | exact sl_step _ | exact sl_node _ | exact sl_children _ | exact sl_value _) (by assumption) (by walk_at "m_has") (by exact rfl) (by walk_at "m_has") (by exact rfl) (by exact rfl) ?_))
local macro_rules | `(tactic| walk_at "m_store") => `(tactic| refine st_ (by assumption) (by assumption) (by decide) (by walk_at "m_sub") (by walk_at "m_put") ?_)
local macro_rules | `(tactic| walk_at "m_glob") => `(tactic| (refine glob (by assumption) (by assumption) (by assumption) (by decide) (by k_dflt k_is) (by decide) ?_))
variable {w : World} {A : Around} {E : Value → Shared → Prop} {b s : Shared} {cs cs' : List Cell} {R : Result → Shared → Prop} {env : Env} {pos : Pos}

local macro_rules | `(tactic| walk_at "m_bi") => `(tactic| (refine builtin (by assumption) (by assumption) (by assumption) (by decide) (by k_dflt k_is) (by boot_by_name) (by decide) (by decide) ?_))
theorem is_value {v : Value} (B : Base (hd.heap_39 w.params) b) (H : St b s cs) (hv : VOk D0 v) (hA : A.depth < recursionLimit)
   (hR : ∀ s', St b s' cs → R (.ok (.ret (.bool (isSet D0 v)))) s') : codeAny (model prog w) A (.call (.ref 66) ⟨[v], []⟩) R s := by
  refine enterN (K := (hd.heap_39 w.params)) (nk := [((PySem.Str.ofString "value"), .local), ((PySem.Str.ofString "_NOVAL"), .globalImplicit)]) ⟨⟨_, _, _, by k_dflt k_is⟩, by k_dflt k_is, by exact rfl, by exact rfl, by exact rfl, by exact rfl, by exact rfl, by exact rfl⟩ (by exact rfl) [(PySem.Str.ofString "value")] [some (v)] (by assumption) (by assumption) (by walk_at "m_room") (by exact BindsTo.of_eq rfl) (by decide) (by exact locsN rfl) (by decide) (by exact rfl) (by exact rfl) ?_
  clear H; intro s L env V H
  refine wpAny_execs_cons (wpAny_Return_some (wpAny_Compare1 ?_))
  walk_at "m_name"
  walk_at "m_glob"
  refine isnt_noval hv ?_
  exact hR _ (H.mono (List.sublist_cons_self _ _))
theorem no_bool {v : Value} (B : Base (hd.heap_39 w.params) b) (H : St b s cs) (hA : A.depth < recursionLimit)
   (hR : ∀ s', St b s' cs → R (.ok (.ret (.bool false))) s') : codeAny (model prog w) A (.call (.ref 88) ⟨[v], []⟩) R s := by
  refine enterN (K := (hd.heap_39 w.params)) (nk := [((PySem.Str.ofString "self"), .local)]) ⟨⟨_, _, _, by k_dflt k_is⟩, by k_dflt k_is, by exact rfl, by exact rfl, by exact rfl, by exact rfl, by exact rfl, by exact rfl⟩ (by exact rfl) [(PySem.Str.ofString "self")] [some (v)] (by assumption) (by assumption) (by walk_at "m_room") (by exact BindsTo.of_eq rfl) (by decide) (by exact locsN rfl) (by decide) (by exact rfl) (by exact rfl) ?_
  clear H; intro s L env V H
  refine wpAny_execs_cons (wpAny_Return_some (wpAny_Constant_bool ?_))
  exact hR _ (H.mono (List.sublist_cons_self _ _))
theorem one_bool {v : Value} (B : Base (hd.heap_39 w.params) b) (H : St b s cs) (hA : A.depth < recursionLimit)
   (hR : ∀ s', St b s' cs → R (.ok (.ret (.bool true))) s') : codeAny (model prog w) A (.call (.ref 167) ⟨[v], []⟩) R s := by
  refine enterN (K := (hd.heap_39 w.params)) (nk := [((PySem.Str.ofString "self"), .local)]) ⟨⟨_, _, _, by k_dflt k_is⟩, by k_dflt k_is, by exact rfl, by exact rfl, by exact rfl, by exact rfl, by exact rfl, by exact rfl⟩ (by exact rfl) [(PySem.Str.ofString "self")] [some (v)] (by assumption) (by assumption) (by walk_at "m_room") (by exact BindsTo.of_eq rfl) (by decide) (by exact locsN rfl) (by decide) (by exact rfl) (by exact rfl) ?_
  clear H; intro s L env V H
  refine wpAny_execs_cons (wpAny_Return_some (wpAny_Constant_bool ?_))
  exact hR _ (H.mono (List.sublist_cons_self _ _))
theorem many_bool {v : Value} (B : Base (hd.heap_39 w.params) b) (H : St b s cs) (hA : A.depth < recursionLimit)
   (hR : ∀ s', St b s' cs → R (.ok (.ret (.bool true))) s') : codeAny (model prog w) A (.call (.ref 246) ⟨[v], []⟩) R s := by
  refine enterN (K := (hd.heap_39 w.params)) (nk := [((PySem.Str.ofString "self"), .local)]) ⟨⟨_, _, _, by k_dflt k_is⟩, by k_dflt k_is, by exact rfl, by exact rfl, by exact rfl, by exact rfl, by exact rfl, by exact rfl⟩ (by exact rfl) [(PySem.Str.ofString "self")] [some (v)] (by assumption) (by assumption) (by walk_at "m_room") (by exact BindsTo.of_eq rfl) (by decide) (by exact locsN rfl) (by decide) (by exact rfl) (by exact rfl) ?_
  clear H; intro s L env V H
  refine wpAny_execs_cons (wpAny_Return_some (wpAny_Constant_bool ?_))
  exact hR _ (H.mono (List.sublist_cons_self _ _))
/-- truth by a def of the class -/
theorem truthyBy {x C f : Addr} {ox : Obj} {od : Option Obj} {t : Bool} {Q : Bool → Shared → Prop} (X : ((hd.heap_39 w.params)).In s.heap) (I : InstAt s.heap x ox C od) (hs : findIn (hd.heap_39 w.params) (.ref C) "__bool__" = some (some (.ref f))) (hf : isFn (hd.heap_39 w.params) (.ref f) = true)
    (h : wpAny (model prog w) A (call (.ref f) [.ref x]) (fun r s' => r = .bool t ∧ Q t s') E s) : wpAny (model prog w) A (truthy (.ref x)) Q E s := by
  unfold truthy
  refine wpAny_bind (m := callSpecial? (.ref x) (Str.ofString "__bool__")) (special_fn X I hs (beq_iff_eq.mp hf) (wpAny_mono h (fun r s' hr => ?_) fun _ _ y => y))
  obtain ⟨rfl, hq⟩ := hr
  exact wpAny_pure hq
def Kd.any : Kd → Bool | .no => false | _ => true
theorem kid_truthy {n : Nd} {Q : Bool → Shared → Prop} (B : Base (hd.heap_39 w.params) b) (H : St b s cs) (hin : ∀ c ∈ n.cells w.params D0, c ∈ cs) (hok : n.ok D0) (hA : A.depth < recursionLimit) (h : ∀ s', St b s' cs → Q n.kd.any s') : wpAny (model prog w) A (truthy (chVal D0 n.kd)) Q E s := by
  obtain ⟨a, dx, v, kd, ch⟩ := n
  have X := H.in_ B.X
  cases kd with
  | no => exact truthyBy (t := false) X (inst_ (X _ _ (nc_look w)) rfl (X _ _ (nc_dict w))) (by k_dflt k_is) (by k_dflt k_is) (wpAny_call (no_bool B H hA fun s' H' => ⟨rfl, h s' H'⟩))
  | one c dx' =>
    obtain ⟨k, hk⟩ := hok.2.1
    cases ch with
    | nil => cases hk
    | cons k' tk' a' dx2 v' kd' ch' r =>
      cases r with
      | cons => cases hk
      | nil =>
        have h1 : Has (.o c (oneObj D0 dx' (.ref a') (.str (letter k') tk'))) cs := .of (hin _ (by simp [Nd.cells, chCells, Fo.ents]))
        have h2 : Has (.o dx' noDict) cs := .of (hin _ (by simp [Nd.cells, chCells, Fo.ents]))
        exact truthyBy (t := true) X (inst_ (H.obj h1.mem) rfl (H.obj h2.mem)) (by k_dflt k_is) (by k_dflt k_is) (wpAny_call (one_bool B H hA fun s' H' => ⟨rfl, h s' H'⟩))
  | many c dx' ep =>
    have h1 : Has (.o c (manyObj D0 dx' (ch.ents.map (entOf w.params)) ep)) cs := .of (hin _ (by simp [Nd.cells, chCells]))
    have h2 : Has (.o dx' noDict) cs := .of (hin _ (by simp [Nd.cells, chCells]))
    exact truthyBy (t := true) X (inst_ (H.obj h1.mem) rfl (H.obj h2.mem)) (by k_dflt k_is) (by k_dflt k_is) (wpAny_call (many_bool B H hA fun s' H' => ⟨rfl, h s' H'⟩))
theorem one_items {c cdx : Addr} {nd st : Value} (B : Base (hd.heap_39 w.params) b) (H : St b s cs) (h1 : Has (.o c (oneObj D0 cdx nd st)) cs) (h2 : Has (.o cdx noDict) cs) (hn : handedIn nd = true) (hs : handedIn st = true) (hA : A.depth < recursionLimit)
   (hR : ∀ s' t t2, St b s' (.o t (tupObj #[.ref t2]) :: .o t2 (tupObj #[st, nd]) :: cs) → R (.ok (.ret (.ref t))) s') : codeAny (model prog w) A (.call (.ref 174) ⟨[.ref c], []⟩) R s := by
  refine enterN (K := (hd.heap_39 w.params)) (nk := [((PySem.Str.ofString "self"), .local)]) ⟨⟨_, _, _, by k_dflt k_is⟩, by k_dflt k_is, by exact rfl, by exact rfl, by exact rfl, by exact rfl, by exact rfl, by exact rfl⟩ (by exact rfl) [(PySem.Str.ofString "self")] [some (.ref c)] (by assumption) (by assumption) (by walk_at "m_room") (by exact BindsTo.of_eq rfl) (by decide) (by exact locsN rfl) (by decide) (by exact rfl) (by exact rfl) ?_
  clear H; intro s L env V H
  refine wpAny_execs_cons (wpAny_Return_some (tuple_ (b := b) (spliced_more (tuple_ (b := b) ?_))))
  refine spliced_more (Attribute_Name_ ?_)
  walk_at "m_name"
  refine attr_slot B (sl_step w) H (by walk_at "m_has") rfl (by walk_at "m_has") rfl hs ?_
  clear H; intro s H
  refine spliced_more (Attribute_Name_ ?_)
  walk_at "m_name"
  refine attr_slot B (sl_node w) H (by walk_at "m_has") rfl (by walk_at "m_has") rfl hn ?_
  clear H; intro s H
  refine spliced_none ⟨by simp, _, H, ?_⟩
  clear H; intro s t2 H
  refine spliced_none ⟨by simp, _, H, ?_⟩
  clear H; intro s t H
  exact hR s t t2 (H.pick (by walk_at "m_pick"))
theorem me_one_items (w : World) : MethOf (hd.heap_39 w.params) 227 (S "items") (.ref 174) gaO tF := by walk_at "m_facts"
theorem me_many_items (w : World) : MethOf (hd.heap_39 w.params) 297 (S "items") (.builtin "dict.items") gaD tM := by walk_at "m_facts"
theorem kp_one_items (w : World) : keepIn (hd.heap_39 w.params) (.ref 174) = true := by k_dflt k_is
theorem many_items {c cdx : Addr} {es : List DictEntry} {ep : Nat} (B : Base (hd.heap_39 w.params) b) (H : St b s cs) (h1 : Has (.o c (manyObj D0 cdx es ep)) cs) (h2 : Has (.o cdx noDict) cs)
   (hR : ∀ s' v, St b s' (.o v (viewObj c) :: cs) → R (.ok (.ret (.ref v))) s') : codeAny (model prog w) A (.call (.builtin "dict.items") ⟨[.ref c], []⟩) R s := by
  have I := inst_ (H.obj h1.mem) rfl (H.obj h2.mem)
  refine call_sub (owner := "dict") (n := "items") B H I (many_dict w) (by decide +kernel) PySem.F.entry_dict_items (.inr (by decide +kernel)) (by decide +kernel) (PySem.F.args_dict_items_1 _) ?_
  have X := H.in_ B.X
  have L0 := I.type (M := model prog w)
  unfold Builtin.«dict.items»
  refine wpAny_bind ?_
  unfold Builtin.Dict.noArgs
  refine wpAny_bind (notOrdered_sub rfl L0 (L0.andThen (looks_mroIn X (many_ordered w))) ?_)
  show wpAny _ _ (pure c) _ _ s
  refine wpAny_pure ?_
  show wpAny _ _ (Builtin.Dict.showsAll c >>= _) _ _ s
  unfold Builtin.Dict.showsAll
  rw [if_neg (by rw [Cell.notSys B H h1]; decide)]
  refine wpAny_bind (wpAny_pure ?_)
  exact wpAny_bind (wpAny_newObj_type (wpAny_pure (hR _ _ (H.push (o := viewObj c)))))
theorem cb_one {c cdx : Addr} {nd st : Value} (B : Base (hd.heap_39 w.params) b) (H : St b s cs) (h1 : Has (.o c (oneObj D0 cdx nd st)) cs) (h2 : Has (.o cdx noDict) cs) (hn : handedIn nd = true) (hs : handedIn st = true) (hA : A.depth + 2 < recursionLimit)
   (hR : ∀ s' t t2, St b s' (.o t (tupObj #[.ref t2]) :: .o t2 (tupObj #[st, nd]) :: cs) → R (.ok (.ret (.ref t))) s') : codeAny (model prog w) A (.call (.ref 478) ⟨[.ref c], []⟩) R s := by
  have hA0 : A.depth < recursionLimit := by omega
  refine enterE (K := (hd.heap_39 w.params)) (nk := [((PySem.Str.ofString "x"), .local)]) ⟨⟨_, _, _, by k_dflt k_is⟩, by k_dflt k_is, by exact rfl, by exact rfl, by exact rfl, by exact rfl, by exact rfl, by exact rfl⟩ (by exact rfl) [(PySem.Str.ofString "x")] [some (.ref c)] (by assumption) (by assumption) (by walk_at "m_room") (by exact BindsTo.of_eq rfl) (by decide) (by exact locsN rfl) (by decide) (by exact rfl) (by exact rfl) ?_
  clear H; intro s L env V H
  refine MethodCall_ ?_
  walk_at "m_name"
  refine meth B (me_one_items w) H (by walk_at "m_has") rfl (by walk_at "m_has") rfl ?_
  refine callK0 B H (kp_one_items w) (wpAny_call (one_items B H (.tail h1) (.tail h2) hn hs (show A.depth + 1 < _ by omega) ?_))
  clear H; intro s t t2 H
  exact hR s t t2 (H.pick (by walk_at "m_pick"))
theorem cb_many {c cdx : Addr} {es : List DictEntry} {ep : Nat} (B : Base (hd.heap_39 w.params) b) (H : St b s cs) (h1 : Has (.o c (manyObj D0 cdx es ep)) cs) (h2 : Has (.o cdx noDict) cs) (hA : A.depth + 2 < recursionLimit)
   (hR : ∀ s' v, St b s' (.o v (viewObj c) :: cs) → R (.ok (.ret (.ref v))) s') : codeAny (model prog w) A (.call (.ref 478) ⟨[.ref c], []⟩) R s := by
  have hA0 : A.depth < recursionLimit := by omega
  refine enterE (K := (hd.heap_39 w.params)) (nk := [((PySem.Str.ofString "x"), .local)]) ⟨⟨_, _, _, by k_dflt k_is⟩, by k_dflt k_is, by exact rfl, by exact rfl, by exact rfl, by exact rfl, by exact rfl, by exact rfl⟩ (by exact rfl) [(PySem.Str.ofString "x")] [some (.ref c)] (by assumption) (by assumption) (by walk_at "m_room") (by exact BindsTo.of_eq rfl) (by decide) (by exact locsN rfl) (by decide) (by exact rfl) (by exact rfl) ?_
  clear H; intro s L env V H
  refine MethodCall_ ?_
  walk_at "m_name"
  refine meth B (me_many_items w) H (by walk_at "m_has") rfl (by walk_at "m_has") rfl ?_
  refine callWith_method0 (wpAny_call (many_items B H (.tail h1) (.tail h2) ?_))
  clear H; intro s v H
  exact hR s v (H.pick (by walk_at "m_pick"))
end Mine
end
section
open PySem PySem.W PySem.Calls PyProof.Rows
set_option Elab.async false
set_option maxRecDepth 100000
set_option maxHeartbeats 4000000
set_option linter.unusedVariables false
namespace Mine
local macro_rules | `(tactic| walk_at "m_fill") => `(tactic| ((have dummy : PySem.Challenge.rw_ez0279_01 = PySem.Challenge.rw_ez0279_01 ∧ hd.heap_39 = hd.heap_39 := by k_fill; exact ⟨rfl, rfl⟩); clear dummy))
local macro_rules | `(tactic| walk_at "m_facts") => `(tactic| (constructor <;> first | k_dflt k_is | decide +kernel))
theorem sl_fill_T15 : True := by walk_at "m_fill"; trivial
local macro_rules | `(tactic| walk_at "m_has") => `(tactic| with_reducible first | exact Has.head | (refine Has.tail ?_; walk_at "m_has") | (refine Has.of ?_; assumption) | assumption)
local macro_rules | `(tactic| walk_at "m_at") => `(tactic| with_reducible first | exact At.head | (refine At.tail ?_; walk_at "m_at"))
local macro_rules | `(tactic| walk_at "m_sub") => `(tactic| with_reducible first | exact Sub1.head | (apply Sub1.tail; walk_at "m_sub"))
local macro_rules | `(tactic| walk_at "m_put") => `(tactic| with_reducible first | exact PutAt.head | (apply PutAt.tail; walk_at "m_put"))
local macro_rules | `(tactic| walk_at "m_rem") => `(tactic| with_reducible first | exact Rem.head | (apply Rem.tail; walk_at "m_rem"))
local macro_rules | `(tactic| walk_at "m_pick") => `(tactic| with_reducible first | exact Pick.all | (apply Pick.take; (focus (walk_at "m_rem")); walk_at "m_pick") | (apply Pick.skip; walk_at "m_pick"))
local macro_rules | `(tactic| walk_at "m_room") => `(tactic| first | assumption | omega)
local macro_rules | `(tactic| walk_at "m_name") => `(tactic| refine nm (by assumption) (by assumption) (by walk_at "m_has") (by walk_at "m_at") (by decide) (by decide) ?_)
local macro_rules | `(tactic| walk_at "m_slotget") => `(tactic| (refine attr_slot (by assumption) (by first | exact sl_step _ | exact sl_node _ | exact sl_children _ | exact sl_value _) (by assumption) (by walk_at "m_has") (by exact rfl) (by walk_at "m_has") (by exact rfl) (by exact rfl) ?_))
local macro_rules | `(tactic| walk_at "m_store") => `(tactic| refine st_ (by assumption) (by assumption) (by decide) (by walk_at "m_sub") (by walk_at "m_put") ?_)
local macro_rules | `(tactic| walk_at "m_glob") => `(tactic| (refine glob (by assumption) (by assumption) (by assumption) (by decide) (by k_dflt k_is) (by decide) ?_))
variable {w : World} {A : Around} {E : Value → Shared → Prop} {b s : Shared} {cs cs' : List Cell} {R : Result → Shared → Prop} {env : Env} {pos : Pos}

local macro_rules | `(tactic| walk_at "m_bi") => `(tactic| (refine builtin (by assumption) (by assumption) (by assumption) (by decide) (by k_dflt k_is) (by boot_by_name) (by decide) (by decide) ?_))
abbrev cbA : Addr := 478
abbrev itNs : List Str := [S "self", S "path", S "shallow", S "items", S "node", S "stack", S "value", S "step"]
abbrev itNk : List (Str × NameKind) := [(S "self", .local), (S "path", .local), (S "shallow", .local), (S "items", .local), (S "node", .local), (S "stack", .local), (S "value", .local), (S "step", .local), (S "_is_value", .globalImplicit), (S "_NOVAL", .globalImplicit), (S "iter", .globalImplicit), (S "next", .globalImplicit), (S "StopIteration", .globalImplicit), (S "IndexError", .globalImplicit)]
abbrev itVs (se : Value) (pa nd stk : Addr) (va st : Option Value) : List (Option Value) := [some se, some (.ref pa), some (.bool false), some (.ref cbA), some (.ref nd), some (.ref stk), va, st]
/-- the frames' cells, one frame's own apart -/
def FsL (L : Addr) (A : Around) (cs : List Cell) : Prop := ∃ l, A.frames = some l ∧ (∃ e ∈ l, e.frame = some L) ∧ ∀ e ∈ l, e.scope.kind ≠ .module ∧ (e.frame = some L ∨ ∃ L' ns vs, e.frame = some L' ∧ Cell.f L' ns vs ∈ cs)
theorem FsL.fs {L : Addr} {A : Around} {cs cs' : List Cell} {ns vs} (F : FsL L A cs) (h : Cell.f L ns vs ∈ cs') (h2 : ∀ c ∈ cs, c ∈ cs') : Fs A cs' := by
  obtain ⟨l, a, _, k⟩ := F
  refine ⟨l, a, fun e he => ⟨(k e he).1, ?_⟩⟩
  rcases (k e he).2 with q | ⟨L', ns, vs, q, m⟩
  · exact ⟨L, _, _, q, h⟩
  · exact ⟨L', _, _, q, h2 _ m⟩
theorem FsL.hin {L : Addr} {A : Around} {cs : List Cell} (F : FsL L A cs) : ∀ l, A.frames = some l → ∃ e ∈ l, e.frame = some L := by
  obtain ⟨l, a, h, _⟩ := F
  intro l' e; rw [a] at e; cases e; exact h
/-- the walk has come to a node -/
structure AtNode (r : Nd) (X : List (List Nat × Value)) (N : Nat) (m : Nd) (um : List Nat) (pv : List Value) (lvs : List Lv) : Prop where
  find : r.find um.reverse = some m
  path : PathR um pv
  above : Above r um lvs
  out : X = (if isSet D0 m.v then [(um.reverse, m.v)] else []) ++ (m.ch.out D0 um.reverse ++ outA D0 um lvs)
  size : 1 + m.ch.sz + szL lvs ≤ N
/-- the walk looks for the next node -/
def Seek (r : Nd) (X : List (List Nat × Value)) (N : Nat) (pv : List Value) (lvs : List Lv) : Prop :=
  (lvs = [] ∧ pv = [] ∧ X = []) ∨ ∃ ur vs0 y, pv = vs0 ++ [y] ∧ PathR ur vs0 ∧ LvOk r lvs ur ∧ X = outL D0 lvs ur ∧ szL lvs ≤ N
theorem perm_lvl {f p k : Cell} {ics C cs : List Cell} : (ics ++ (f :: p :: k :: (C ++ cs))).Perm (f :: p :: k :: ((ics ++ C) ++ cs)) := by
  have := List.perm_append_comm_assoc ics [f, p, k] (C ++ cs)
  simpa only [List.append_assoc, List.cons_append, List.nil_append] using this
theorem drop_ex {f p k : Cell} {ics ex C cs : List Cell} (H : St b s (ics ++ (ex ++ (f :: p :: k :: (C ++ cs))))) : St b s (f :: p :: k :: ((ics ++ C) ++ cs)) := by
  have H := H.mono (cs' := ics ++ (f :: p :: k :: (C ++ cs))) (List.Sublist.append (List.Sublist.refl _) (List.sublist_append_right _ _))
  exact H.perm perm_lvl.symm
abbrev IterO (pa : Addr) (x : List Nat × Value) (v : Value) (vis own' : List Cell) : Prop := ∃ t pv, v = .ref t ∧ vis = [.o t (tupObj #[.ref pa, x.2])] ∧ PathR x.1.reverse pv ∧ Cell.p pa (lstP pv) ∈ own'
/-- at the head of the walk's loop -/
def Head (w : World) (b : Shared) (r : Nd) (L pa stk : Addr) (se : Value) (A : Around) (n : Nat) (s : Shared) (Φ : End → Shared → Prop) : Prop :=
  ∃ m um pv lvs va st X N D cs, Calm 60 A ∧ (∀ c ∈ r.cells w.params D0, c ∈ cs) ∧ Fs A cs ∧ AtNode r X n m um pv lvs ∧ Cps (model prog w) 60 b (r.cells w.params D0) (IterO pa) N D cs X ∧ Φ = Stop N D ∧
    St b s (.f L itNs (itVs se pa m.a stk va st) :: .p pa (lstP pv) :: .p stk (lstP (itsL lvs)) :: (cellsL lvs ++ cs))
/-- behind the yield -/
def Past (w : World) (b : Shared) (r : Nd) (L pa stk : Addr) (se : Value) (n : Nat) (A : Around) (s : Shared) (Φ : End → Shared → Prop) : Prop :=
  ∃ m um pv lvs va st X N D cs, Calm 60 A ∧ (∀ c ∈ r.cells w.params D0, c ∈ cs) ∧ Fs A cs ∧ r.find um.reverse = some m ∧ PathR um pv ∧ Above r um lvs ∧ X = m.ch.out D0 um.reverse ++ outA D0 um lvs ∧ 1 + m.ch.sz + szL lvs ≤ n ∧ Cps (model prog w) 60 b (r.cells w.params D0) (IterO pa) N D cs X ∧ Φ = Stop N D ∧
    St b s (.f L itNs (itVs se pa m.a stk va st) :: .p pa (lstP pv) :: .p stk (lstP (itsL lvs)) :: (cellsL lvs ++ cs))
theorem list0 {p : Pos} {Q : Value → Shared → Prop} {E : Value → Shared → Prop} (H : St b s cs) (h : ∀ s' l, St b s' (.p l (lstP []) :: cs) → Q (.ref l) s') : wpAny (model prog w) A (eval (.List [] p) env) Q E s :=
  wpAny_List_spliced (wpAny_pure ⟨by decide, h _ _ (H.newP (t := s.toks) (fun x y q => Heap.get?_push_of_some _ q) (Nat.le_refl _) (Heap.get?_push_size _ rfl) ⟨0, rfl⟩)⟩)
theorem kp_isv (w : World) : keepIn (hd.heap_39 w.params) (.ref 66) = true := by k_dflt k_is
theorem kp_cb (w : World) : keepIn (hd.heap_39 w.params) (.ref cbA) = true := by (show keepIn (hd.heap_39 w.params) (.ref 478) = true); k_dflt k_is
def Pre (m : Nd) (x : Addr) (pre : List Cell) : Prop := match m.kd with
  | .no => False
  | .one _ _ => ∃ t2 k tk a, m.ch.ents = [(k, tk, a)] ∧ pre = [.o x (tupObj #[.ref t2]), .o t2 (tupObj #[.str (letter k) tk, .ref a])]
  | .many c _ _ => pre = [.o x (viewObj c)]
theorem kid_cb {m : Nd} {Q : Value → Shared → Prop} {E : Value → Shared → Prop} (B : Base (hd.heap_39 w.params) b) (H : St b s cs) (hin : ∀ c ∈ m.cells w.params D0, c ∈ cs) (hok : m.ok D0) (hk : m.kd.any = true) (hA : A.depth + 2 < recursionLimit)
   (h : ∀ s' x pre, Pre m x pre → St b s' (pre ++ cs) → Q (.ref x) s') : wpAny (model prog w) A (call (.ref cbA) [chVal D0 m.kd]) Q E s := by
  obtain ⟨a, dx, v, kd, ch⟩ := m
  cases kd with
  | no => cases hk
  | one c dx' =>
    obtain ⟨k, hk⟩ := hok.2.1
    cases ch with
    | nil => cases hk
    | cons k' tk' a' dx2 v' kd' ch' r =>
      cases r with
      | cons => cases hk
      | nil =>
        have h1 : Has (.o c (oneObj D0 dx' (.ref a') (.str (letter k') tk'))) cs := .of (hin _ (by simp [Nd.cells, chCells, Fo.ents]))
        have h2 : Has (.o dx' noDict) cs := .of (hin _ (by simp [Nd.cells, chCells, Fo.ents]))
        exact wpAny_call (cb_one B H h1 h2 rfl rfl hA fun s' t t2 H' => h s' t [.o t (tupObj #[.ref t2]), .o t2 (tupObj #[.str (letter k') tk', .ref a'])] ⟨t2, k', tk', a', rfl, rfl⟩ H')
  | many c dx' ep =>
    have h1 : Has (.o c (manyObj D0 dx' (ch.ents.map (entOf w.params)) ep)) cs := .of (hin _ (by simp [Nd.cells, chCells]))
    have h2 : Has (.o dx' noDict) cs := .of (hin _ (by simp [Nd.cells, chCells]))
    exact wpAny_call (cb_many B H h1 h2 hA fun s' t H' => h s' t [.o t (viewObj c)] rfl H')
theorem kid_iter {m : Nd} {x : Addr} {pre : List Cell} {Q : Value → Shared → Prop} {E : Value → Shared → Prop} (H : St b s (pre ++ cs)) (hin : ∀ c ∈ m.cells w.params D0, c ∈ cs) (hok : m.ok D0) (hp : Pre m x pre)
   (h : ∀ s' it ics, ItC ⟨m, 0, it, ics⟩ → St b s' (ics ++ cs) → Q (.ref it) s') : wpAny (model prog w) A (call (.builtin "iter") [.ref x]) Q E s := by
  obtain ⟨a, dx, v, kd, ch⟩ := m
  cases kd with
  | no => exact hp.elim
  | one c dx' =>
    obtain ⟨t2, k, tk, a', he, rfl⟩ := hp
    exact call_iter (iterTup H .head fun s' it H' => h s' it [.p it (TIter x 0), .o x (tupObj #[.ref t2]), .o t2 (tupObj #[.str (letter k) tk, .ref a'])] ⟨x, t2, k, tk, a', he, rfl⟩ H')
  | many c dx' ep =>
    have hp : pre = [.o x (viewObj c)] := hp
    subst hp
    have hl := Fo.ok_len hok.2.2
    refine call_iter (iterView H .head (o := manyObj D0 dx' (ch.ents.map (entOf w.params)) ep) (.tail (.of (hin _ (by simp [Nd.cells, chCells])))) rfl (by simpa using hl) fun s' it H' => h s' it [.p it (DItP c 0 ch.ents.length ep)] rfl ?_)
    have e : (ch.ents.map (entOf w.params)).toArray.size = ch.ents.length := by simp
    rw [e] at H'
    exact H'.mono (List.Sublist.cons_cons _ (List.sublist_cons_self _ _))
theorem cellsL_cons (lv : Lv) (l : List Lv) : cellsL (lv :: l) = lv.ics ++ cellsL l := by simp [cellsL]
theorem drop_none {f : Fo} {i : Nat} (ho : f.ok D0) (h : f.ents[i]? = none) : f.drop i = .nil := by
  cases q : f.drop i with
  | nil => rfl
  | cons k tk a dx v kd ch r => rw [(Fo.drop_cons ho q).1] at h; cases h
theorem over_frames {A : Around} {c : Code} {fs : List Frame} : (A.over c fs).frames = pushEnvs c.envs (pushEnvs (envsOf (fs.map Frame.where_)) A.frames) := rfl
theorem fsl_while {A : Around} {L : Addr} {nk : List (Str × NameKind)} {t : Expr} {bd o body : List Stmt} {k : Result → Sem Fin} {h : Option Value} {g : Bool} {l : List Value} {p : Pos} {kp : List Value} (V : EnvIs env L nk []) (FS : Fs A cs) : FsL L (A.over (.whileLoop t bd o env) [.ret k h g l (.func body env) p kp]) cs := by
  obtain ⟨l, a, k⟩ := FS
  refine ⟨env :: l, ?_, ⟨env, .head _, V.frame⟩, fun e he => ?_⟩
  · rw [over_frames, a]
    simp [Code.envs, Code.isFrame, envsOf, Frame.where_, pushEnvs, Code.env?]
  · rcases List.mem_cons.mp he with rfl | he
    · exact ⟨by rw [V.kind]; decide, .inl V.frame⟩
    · exact ⟨(k e he).1, .inr (k e he).2⟩
theorem iterate_call {r : Nd} {pa : Addr} (B : Base (hd.heap_39 w.params) b) (hok : r.ok D0) (hdep : ∀ u m, r.find u = some m → u.length ≤ 500) (H : St b s (.p pa (lstP []) :: cs)) (hro : ∀ c ∈ r.cells w.params D0, c ∈ cs) (hA : A.depth + 60 < recursionLimit)
  (hR : ∀ s' a g gs own, Rdy (model prog w) 60 b (r.cells w.params D0) (IterO pa) ((if isSet D0 r.v then [([], r.v)] else []) ++ r.ch.out D0 []) gs own → St b s' (.p a (GenP g) :: .g g gs :: (own ++ cs)) → R (.ok (.ret (.ref a))) s') :
  codeAny (model prog w) A (.call (.ref 328) ⟨[.ref r.a, .ref pa, .bool false, .ref cbA], []⟩) R s := by
  have hA0 : A.depth < recursionLimit := by omega
  refine enterGen (K := (hd.heap_39 w.params)) (nk := [((PySem.Str.ofString "self"), .local), ((PySem.Str.ofString "path"), .local), ((PySem.Str.ofString "shallow"), .local), ((PySem.Str.ofString "items"), .local), ((PySem.Str.ofString "node"), .local), ((PySem.Str.ofString "stack"), .local), ((PySem.Str.ofString "value"), .local), ((PySem.Str.ofString "step"), .local), ((PySem.Str.ofString "_is_value"), .globalImplicit), ((PySem.Str.ofString "_NOVAL"), .globalImplicit), ((PySem.Str.ofString "iter"), .globalImplicit), ((PySem.Str.ofString "next"), .globalImplicit), ((PySem.Str.ofString "StopIteration"), .globalImplicit), ((PySem.Str.ofString "IndexError"), .globalImplicit)]) ⟨⟨_, _, _, by k_dflt k_is⟩, by k_dflt k_is, by exact rfl, by exact rfl, by exact rfl, by exact rfl, by exact rfl, by exact rfl⟩ (by exact rfl) [(PySem.Str.ofString "self"), (PySem.Str.ofString "path"), (PySem.Str.ofString "shallow"), (PySem.Str.ofString "items"), (PySem.Str.ofString "node"), (PySem.Str.ofString "stack"), (PySem.Str.ofString "value"), (PySem.Str.ofString "step")] [some (.ref r.a), some (.ref pa), some (.bool false), some (.ref cbA), none, none, none, none] (by assumption) (by assumption) (by walk_at "m_room") (by exact BindsTo.of_eq rfl) (by decide) (by exact locsN rfl) (by decide) (by exact rfl) (by exact rfl) ?_
  clear H; intro s L env a g V hco H
  refine hR s a g _ [.f L itNs [some (.ref r.a), some (.ref pa), some (.bool false), some (.ref cbA), none, none, none, none], .p pa (lstP [])] ?_ H
  clear H hR; clear hA hA0
  refine Rdy.intro fun A s cs N D hc hro FS H hcps => ?_
  have H : St b s (.f L itNs [some (.ref r.a), some (.ref pa), some (.bool false), some (.ref cbA), none, none, none, none] :: .p pa (lstP []) :: cs) := H
  have hi := V.quiet
  refine sg_func ?_
  refine sg_execs_cons (sg_wrap (wpAny_Assign_Name ?_))
  walk_at "m_name"
  walk_at "m_store"
  clear H; intro s H
  refine sg_execs_cons (sg_wrap (wpAny_Assign_Name ?_))
  refine list0 H ?_
  clear H; intro s stk H
  walk_at "m_store"
  clear H; intro s H
  refine sg_execs_cons (sg_While fun p => ?_)
  refine sg_induct (P := fun A n s Φ => Head w b r L pa stk (.ref r.a) A n s Φ) ?_ (1 + r.ch.sz) A s _ ⟨r, [], [], [], none, none, _, N, D, cs, hc, hro, FS, ⟨rfl, rfl, rfl, by simp [outA], by simp [szL]⟩, hcps, rfl, (show St b s (.f L itNs (itVs (.ref r.a) pa r.a stk none none) :: .p pa (lstP []) :: .p stk (lstP []) :: cs) from H.pick (by walk_at "m_pick"))⟩
  clear H hcps FS hro hc
  rintro n IH A s Φ ⟨m, um, pv, lvs, va, st, X, N, D, cs, hc, hro, FS, hat, hcps, rfl, H⟩
  have hfind := hat.find
  have hmo := Nd.find_ok hfind hok
  have hin := fun c hc => hro c (Nd.find_cells hfind c hc)
  have hm1 : Cell.o m.a (nodeObj D0 m.dx (chVal D0 m.kd) m.v) ∈ cellsL lvs ++ cs := List.mem_append_right _ (hin _ (List.mem_cons_self ..))
  have hm2 : Cell.o m.dx noDict ∈ cellsL lvs ++ cs := List.mem_append_right _ (hin _ (List.mem_cons_of_mem _ (List.mem_cons_self ..)))
  refine sg_whileLoop (isTrue_plain (wpAny_Constant_bool (wpAny_truthy_bool ?_)))
  rw [if_pos rfl]
  refine sg_execs_cons (sg_yield_If (Rst := fun A s Φ => Past w b r L pa stk (.ref r.a) n A s Φ) rfl rfl rfl hco hi ?rest ?test)
  case test =>
    refine isTrue_plain (Call_ ?_)
    walk_at "m_glob"
    refine callK B H (kp_isv w) rfl rfl (spliced_more (wpAny_NamedExpr (Attribute_Name_ ?_)))
    walk_at "m_name"
    refine attr_slot B (sl_value w) H (by walk_at "m_has") rfl (by walk_at "m_has") rfl hmo.1.handed ?_
    clear H; intro s H
    refine assign_Name ?_
    walk_at "m_store"
    clear H; intro s H
    refine spliced_none ⟨⟨_, H⟩, wpAny_call (is_value B H hmo.1 (show A.depth + 1 + 0 < _ by have := hc.room; omega) ?_)⟩
    clear H; intro s H
    refine wpAny_truthy_bool ?_
    cases hset : isSet D0 m.v with
    | true =>
      rw [if_pos rfl]
      have hX : X = (um.reverse, m.v) :: (m.ch.out D0 um.reverse ++ outA D0 um lvs) := by rw [hat.out, hset]; rfl
      rw [hX] at hcps
      refine tuple_ (b := b) (spliced_more ?_)
      walk_at "m_name"
      refine spliced_more ?_
      walk_at "m_name"
      refine spliced_none ⟨by simp, _, H, ?_⟩
      clear H; intro s t H
      intro gs hgb hgo e h1 h2 h3
      refine Stop.of h1 h2 h3 (hcps gs (.ref t) [.o t (tupObj #[.ref pa, m.v])] (.f L itNs (itVs (.ref r.a) pa m.a stk (some m.v) st) :: .p pa (lstP pv) :: .p stk (lstP (itsL lvs)) :: cellsL lvs) s hgb ⟨t, pv, rfl, rfl, ?_, by simp⟩ ?_ H)
      · show PathR um.reverse.reverse pv; rw [List.reverse_reverse]; exact hat.path
      · refine Rdy.intro fun A' s' cs' N' D' hc' hro' FS' H' hcps' => hgo A' s' _ ⟨m, um, pv, lvs, _, _, _, N', D', cs', hc', hro', FS', hat.find, hat.path, hat.above, rfl, hat.size, hcps', rfl, H'⟩
    | false =>
      rw [if_neg (by decide)]
      have hX : X = m.ch.out D0 um.reverse ++ outA D0 um lvs := by rw [hat.out, hset]; rfl
      exact ⟨m, um, pv, lvs, _, _, X, N, D, cs, hc, hro, FS, hat.find, hat.path, hat.above, hX, hat.size, hcps, rfl, H⟩
  case rest =>
    clear H hin hm1 hm2 hmo hfind hat hcps FS hro hc
    rintro A s Φ ⟨m, um, pv, lvs, va, st, X, N, D, cs, hc, hro, FS, hfind, hpath, habove, hX, hsz, hcps, rfl, H⟩
    have hmo := Nd.find_ok hfind hok
    have hin := fun c hc => hro c (Nd.find_cells hfind c hc)
    have hm1 : Cell.o m.a (nodeObj D0 m.dx (chVal D0 m.kd) m.v) ∈ cellsL lvs ++ cs := List.mem_append_right _ (hin _ (List.mem_cons_self ..))
    have hm2 : Cell.o m.dx noDict ∈ cellsL lvs ++ cs := List.mem_append_right _ (hin _ (List.mem_cons_of_mem _ (List.mem_cons_self ..)))
    have hlen : lvs.length ≤ 501 := by
      cases um with
      | nil => have : lvs = [] := habove; rw [this]; decide
      | cons x ur =>
        have := LvOk.length habove
        have h2 := hdep _ _ hfind
        simp at h2; omega
    have hpl : pv.length ≤ 501 := by rw [PathR.length hpath]; have h2 := hdep _ _ hfind; simp at h2; omega
    have hd0 : ∀ c fs, (A.over c fs).depth = A.depth + frameCount (fs.map Frame.where_) + c.weight := fun _ _ => rfl
    have hr := hc.room
    refine sg_execs_cons (sg_wrap (wpAny_mono (Q := fun f s' => f = .next ∧ ∃ pv' lvs', Seek r X (n - 1) pv' lvs' ∧ lvs'.length ≤ 502 ∧ St b s' (.f L itNs (itVs (.ref r.a) pa m.a stk va st) :: .p pa (lstP pv') :: .p stk (lstP (itsL lvs')) :: (cellsL lvs' ++ cs))) (E := fun _ _ => False) ?cond (fun f s' hf => ?cont) fun _ _ z => z.elim))
    case cond =>
      refine wpAny_If (isTrue_and (isTrue_or (isTrue_not (isTrue_plain ?_))))
      walk_at "m_name"
      refine wpAny_truthy_bool ?_
      rw [if_pos (by decide), if_pos rfl]
      refine isTrue_and (isTrue_plain (Attribute_Name_ ?_))
      walk_at "m_name"
      refine attr_slot B (sl_children w) H (by walk_at "m_has") rfl (by walk_at "m_has") rfl (chVal_handed _) ?_
      clear H; intro s H
      refine kid_truthy B H (fun c hc => .tail _ (.tail _ (.tail _ (List.mem_append_right _ (hin c hc))))) hmo (show A.depth + 1 + 0 < _ by omega) ?_
      clear H; intro s H
      cases hk : m.kd.any with
      | false =>
        rw [if_neg (by decide)]
        refine wpAny_execs_nil ⟨rfl, ?_⟩
        have hch : m.ch = .nil := by
          have h0 := hmo.2.1
          cases q : m.kd with
          | no => rw [q] at h0; cases q2 : m.ch with
            | nil => rfl
            | cons => rw [q2] at h0; cases h0
          | one => rw [q] at hk; cases hk
          | many => rw [q] at hk; cases hk
        refine ⟨pv, lvs, ?_, by omega, H⟩
        rw [hch] at hX
        cases um with
        | nil =>
          have hl : lvs = [] := habove
          have hp : pv = [] := hpath
          exact .inl ⟨hl, hp, by rw [hX]; rfl⟩
        | cons x ur =>
          obtain ⟨vs', t, hpv, hp⟩ := hpath
          exact .inr ⟨ur, vs', _, hpv, hp, habove, by rw [hX]; rfl, by rw [hch] at hsz; simp only [Fo.sz] at hsz; omega⟩
      | true =>
        rw [if_pos rfl]
        refine isTrue_and_nil ?_
        rw [if_pos rfl]
        refine wpAny_execs_cons (wpAny_Expr_any (MethodCall_ ?_) V.quiet)
        walk_at "m_name"
        obtain ⟨c0, g0⟩ := H.isList (a := stk) (items := itsL lvs) (.tail (.tail .head))
        refine meth_bi g0 rfl rfl PySem.F.plainAttrs_list PySem.F.slot_list_append PySem.F.type_list_append ?_
        refine append_ (b := b) (xs := itsL lvs) rfl ?_
        refine Call_ ?_
        walk_at "m_bi"
        refine callWith_builtin1 (spliced_more (Call_ ?_)) rfl rfl
        walk_at "m_name"
        refine callK B H (kp_cb w) rfl rfl (spliced_more (Attribute_Name_ ?_))
        walk_at "m_name"
        refine attr_slot B (sl_children w) H (by walk_at "m_has") rfl (by walk_at "m_has") rfl (chVal_handed _) ?_
        clear H; intro s H
        have hin4 : ∀ c ∈ m.cells w.params D0, c ∈ (.f L itNs (itVs (.ref r.a) pa m.a stk va st) :: .p pa (lstP pv) :: .p stk (lstP (itsL lvs)) :: (cellsL lvs ++ cs)) := fun c hc => .tail _ (.tail _ (.tail _ (List.mem_append_right _ (hin c hc))))
        refine spliced_none ⟨⟨_, H⟩, kid_cb B H hin4 hmo hk (show A.depth + 1 + 0 + 2 < _ by omega) ?_⟩
        clear H; intro s x pre hpre H
        refine spliced_none (kid_iter H hin4 hmo hpre ?_)
        clear H; intro s it ics hI H
        have H := H.perm perm_lvl.symm
        refine ⟨_, _, by rw [itsL_length]; omega, H, .tail (.tail .head), ?_⟩
        clear H; intro s H
        refine wpAny_execs_cons (wpAny_Expr_any (MethodCall_ ?_) V.quiet)
        walk_at "m_name"
        obtain ⟨c1, g1⟩ := H.isList (a := pa) (items := pv) (.tail .head)
        refine meth_bi g1 rfl rfl PySem.F.plainAttrs_list PySem.F.slot_list_append PySem.F.type_list_append ?_
        refine append_ (b := b) (xs := pv) rfl (wpAny_Constant_none ?_)
        refine ⟨_, _, by omega, H, .tail .head, ?_⟩
        clear H; intro s H
        refine wpAny_execs_nil ⟨rfl, pv ++ [.none], ⟨m, 0, it, ics⟩ :: lvs, .inr ⟨um, pv, .none, rfl, hpath, ⟨hfind, hI, ?_⟩, ?_, ?_⟩, by simp; omega, ?_⟩
        · cases um with
          | nil => exact habove
          | cons x ur => exact habove
        · rw [hX]
          cases um with
          | nil => have hl : lvs = [] := habove; rw [hl]; simp [outL, outA, Fo.drop]
          | cons x ur => simp [outL, outA, Fo.drop]
        · simp only [szL, Fo.drop]; omega
        · rw [cellsL_cons]; exact H
    case cont =>
      obtain ⟨rfl, pv', lvs', hS, hl', H'⟩ := hf
      refine sg_execs_cons (sg_wrap (wpAny_mono (Q := fun f s' => (f = .next ∧ ∃ m um pv lvs va st, AtNode r X (n - 1) m um pv lvs ∧ St b s' (.f L itNs (itVs (.ref r.a) pa m.a stk va st) :: .p pa (lstP pv) :: .p stk (lstP (itsL lvs)) :: (cellsL lvs ++ cs))) ∨ (f = .ret .none ∧ X = [] ∧ St b s' cs)) (E := fun _ _ => False) ?loop (fun f s' hf => ?fin) fun _ _ z => z.elim))
      case fin =>
        rcases hf with ⟨rfl, m, um, pv, lvs, va, st, hat, H⟩ | ⟨rfl, hX, H⟩
        · have hn : n - 1 < n := by have := hat.size; omega
          exact sg_again rfl (IH A (n - 1) s' _ hn ⟨m, um, pv, lvs, va, st, X, N, D, cs, hc, hro, FS, hat, hcps, rfl, H⟩)
        · subst hX
          refine sg_leaf (.ok (.ret .none)) ?_
          refine sg_end (.ok (.ret .none)) ⟨⟨_, rfl, rfl⟩, hcps s' H⟩
      case loop =>
        refine wpAny_While (codeAny_whileLoop (fun k s => ∃ pv lvs nd va st, lvs.length = k ∧ Seek r X (n - 1) pv lvs ∧ lvs.length ≤ 502 ∧ St b s (.f L itNs (itVs (.ref r.a) pa nd stk va st) :: .p pa (lstP pv) :: .p stk (lstP (itsL lvs)) :: (cellsL lvs ++ cs))) ?_ lvs'.length ⟨pv', lvs', _, _, _, rfl, hS, hl', H'⟩)
        rintro k s ⟨pv, lvs, nd, va, st, hk, hS, hl, H⟩
        refine isTrue_plain (wpAny_Constant_bool (wpAny_truthy_bool ?_))
        rw [if_pos rfl]
        refine wpAny_execs_cons (tryExc (b := b) (L := L) V.frame (fsl_while V FS).hin ?_)
        refine wpAny_execs_cons (Assign_Tuple (Call_ ?_))
        walk_at "m_bi"
        refine callWith_builtin1 (spliced_more (Subscript_ ?_)) rfl rfl
        walk_at "m_name"
        refine UnaryOp_ (kInt H ?_)
        clear H; intro s tk H
        refine PyProof.Rows.neg_int ?_
        have H := H.toks (t := s.toks + 1)
        refine subscriptTail_builtin (T := "list") (H.list (a := stk) (items := itsL lvs) (.tail (.tail .head))).typeIs PySem.slot_list_getitem.lookup ?_
        rcases hS with ⟨rfl, rfl, hX0⟩ | ⟨ur, vs0, y, rfl, hpr, hlv, hX1, hz⟩
        · refine last_out (by exact hc.handled) H (.tail (.tail .head)) fun s' e H' => ⟨"IndexError", e, _, rfl, H', (fsl_while V FS).fs (.tail _ (.head _)) (fun c hc => .tail _ (.tail _ (.tail _ (.tail _ (List.mem_append_right _ hc))))), fun s₂ tb H₂ => ?_⟩
          refine handle_miss (X := "IndexError") (T := "StopIteration") sub_sb not_tup_s sub_is H₂ (fun Q' E' q => builtin B V H₂ (by decide) (by k_dflt k_is) (by boot_by_name) (by decide) (by decide) q) ?_
          refine handle_hit (X := "IndexError") (T := "IndexError") sub_ib not_tup_i sub_ii H₂ (fun Q' E' q => builtin B V H₂ (by decide) (by k_dflt k_is) (by boot_by_name) (by decide) (by decide) q) fun s₃ H₃ => ?_
          refine wpAny_execs_cons (wpAny_Return_none ?_)
          refine .inr ⟨rfl, hX0, ?_⟩
          have H₃ : St b s₃ (.p e (ExcP "IndexError" (.ref tb)) :: .p tb (TbP .none) :: .f L itNs (itVs (.ref r.a) pa nd stk va st) :: .p pa (lstP []) :: .p stk (lstP []) :: cs) := H₃
          exact H₃.pick (by walk_at "m_pick")
        · cases lvs with
          | nil => exact hlv.elim
          | cons lv rest =>
            obtain ⟨hlf, hI, hab⟩ := hlv
            have hlo := Nd.find_ok hlf hok
            have hlin := fun c hc => hro c (Nd.find_cells hlf c hc)
            rw [cellsL_cons] at H
            refine last_ (xs := itsL rest) (y := .ref lv.it) H (.tail (.tail .head)) ?_
            have H := H.perm perm_lvl
            refine spliced_none (lvl_next (D := D0) (by exact hc.handled) H (fun c hc => .tail _ (.tail _ (.tail _ (List.mem_append_right _ (hlin c hc))))) hI ?_ ?_)
            · clear H; intro ck ctk ca s t2 ics' ex hent hI' hmem H
              refine unpackT (by exact hc.handled) H (.of hmem) rfl rfl ?_
              clear H; intro s H
              have H := drop_ex H
              refine assignInOrder_cons (assign_Name ?_)
              walk_at "m_store"
              clear H; intro s H
              refine assignInOrder_cons (assign_Name ?_)
              walk_at "m_store"
              clear H; intro s H
              refine assignInOrder_nil ?_
              refine wpAny_execs_cons (wpAny_Assign_Subscript ?_)
              walk_at "m_name"
              walk_at "m_name"
              refine UnaryOp_ (kInt H ?_)
              clear H; intro s tk H
              refine PyProof.Rows.neg_int ?_
              have H := H.toks (t := s.toks + 1)
              refine setlast_ (xs := vs0) (y := y) (v := .str (letter ck) ctk) H (.tail .head) ?_
              clear H; intro s H
              refine wpAny_execs_cons (wpAny_Break ?_)
              cases q : lv.n.ch.drop lv.i with
              | nil => rw [Fo.drop_nil q] at hent; cases hent
              | cons k tk0 a dx v kd ch rr =>
                obtain ⟨e1, e2, e3, _⟩ := Fo.drop_cons hlo.2.2 q
                rw [e1] at hent
                obtain ⟨rfl, rfl, rfl⟩ : k = ck ∧ tk0 = ctk ∧ a = ca := by
                  injection hent with hent; injection hent with x1 x2; injection x2 with x2 x3; exact ⟨x1, x2, x3⟩
                refine .inl ⟨rfl, ⟨a, dx, v, kd, ch⟩, k :: ur, _, { lv with i := lv.i + 1, ics := ics' } :: rest, _, _, ⟨?_, ⟨vs0, tk0, rfl, hpr⟩, ⟨hlf, hI', hab⟩, ?_, ?_⟩, by rw [cellsL_cons]; exact H⟩
                · rw [List.reverse_cons, Nd.find_append, hlf]; simp [Nd.find, e3]
                · rw [hX1]; simp [outL, outA, q, e2, Fo.out]
                · simp only [szL, q, Fo.sz, e2] at hz ⊢; omega
            · clear H; intro s e hent H
              refine ⟨"StopIteration", e, _, rfl, H, (fsl_while V FS).fs (.tail _ (.head _)) (fun c hc => .tail _ (.tail _ (.tail _ (.tail _ (List.mem_append_right _ hc))))), fun s₂ tb H₂ => ?_⟩
              refine handle_hit (X := "StopIteration") (T := "StopIteration") sub_sb not_tup_s sub_ss H₂ (fun Q' E' q => builtin B V H₂ (by decide) (by k_dflt k_is) (by boot_by_name) (by decide) (by decide) q) fun s₃ H => ?_
              clear H₂ s₂
              refine wpAny_execs_cons (wpAny_Expr_any (MethodCall_ ?_) V.quiet)
              walk_at "m_name"
              obtain ⟨c0, g0⟩ := H.isList (a := stk) (items := itsL rest ++ [.ref lv.it]) (.tail (.tail (.tail (.tail .head))))
              refine meth_bi g0 rfl rfl PySem.F.plainAttrs_list PySem.F.slot_list_pop PySem.F.type_list_pop ?_
              refine pop_ (xs := itsL rest) (y := .ref lv.it) H (.tail (.tail (.tail (.tail .head)))) (by rw [itsL_length]; simp only [List.length_cons] at hl; omega) ?_
              clear H; intro s H
              refine wpAny_execs_cons (wpAny_Expr_any (MethodCall_ ?_) V.quiet)
              walk_at "m_name"
              obtain ⟨c1, g1⟩ := H.isList (a := pa) (items := vs0 ++ [y]) (.tail (.tail (.tail .head)))
              refine meth_bi g1 rfl rfl PySem.F.plainAttrs_list PySem.F.slot_list_pop PySem.F.type_list_pop ?_
              refine pop_ (xs := vs0) (y := y) H (.tail (.tail (.tail .head))) (by rw [PathR.length hpr]; have := LvOk.length (l := lv :: rest) ⟨hlf, hI, hab⟩; omega) ?_
              clear H; intro s H
              refine wpAny_execs_nil ?_
              have hd := drop_none hlo.2.2 hent
              refine wpAny_execs_nil ⟨rest.length, by simp only [List.length_cons] at hk; omega, vs0, rest, nd, va, st, rfl, ?_, by simp only [List.length_cons] at hl; omega, H.mono ((List.sublist_cons_self _ _).trans (List.sublist_cons_self _ _))⟩
              cases ur with
              | nil =>
                have h1 : rest = [] := hab
                have h2 : vs0 = [] := hpr
                exact .inl ⟨h1, h2, by rw [hX1, h1]; simp [outL, hd, Fo.out]⟩
              | cons x ur' =>
                obtain ⟨vs', t, hv, hp⟩ := hpr
                exact .inr ⟨ur', vs', _, hv, hp, hab, by rw [hX1]; simp [outL, hd, Fo.out], by simp only [szL, hd, Fo.sz] at hz; omega⟩
end Mine
end
section
open PySem PySem.W PySem.Calls PyProof.Rows
set_option Elab.async false
set_option maxRecDepth 100000
set_option maxHeartbeats 4000000
set_option linter.unusedVariables false
namespace Mine
local macro_rules | `(tactic| walk_at "m_fill") => `(tactic| ((have dummy : PySem.Challenge.rw_ez0279_01 = PySem.Challenge.rw_ez0279_01 ∧ hd.heap_39 = hd.heap_39 := by k_fill; exact ⟨rfl, rfl⟩); clear dummy))
local macro_rules | `(tactic| walk_at "m_facts") => `(tactic| (constructor <;> first | k_dflt k_is | decide +kernel))
theorem sl_fill_T16 : True := by walk_at "m_fill"; trivial
local macro_rules | `(tactic| walk_at "m_has") => `(tactic| with_reducible first | exact Has.head | (refine Has.tail ?_; walk_at "m_has") | (refine Has.of ?_; assumption) | assumption)
local macro_rules | `(tactic| walk_at "m_at") => `(tactic| with_reducible first | exact At.head | (refine At.tail ?_; walk_at "m_at"))
local macro_rules | `(tactic| walk_at "m_sub") => `(tactic| with_reducible first | exact Sub1.head | (apply Sub1.tail; walk_at "m_sub"))
local macro_rules | `(tactic| walk_at "m_put") => `(tactic| with_reducible first | exact PutAt.head | (apply PutAt.tail; walk_at "m_put"))
local macro_rules | `(tactic| walk_at "m_rem") => `(tactic| with_reducible first | exact Rem.head | (apply Rem.tail; walk_at "m_rem"))
local macro_rules | `(tactic| walk_at "m_pick") => `(tactic| with_reducible first | exact Pick.all | (apply Pick.take; (focus (walk_at "m_rem")); walk_at "m_pick") | (apply Pick.skip; walk_at "m_pick"))
local macro_rules | `(tactic| walk_at "m_room") => `(tactic| first | assumption | omega)
local macro_rules | `(tactic| walk_at "m_name") => `(tactic| refine nm (by assumption) (by assumption) (by walk_at "m_has") (by walk_at "m_at") (by decide) (by decide) ?_)
local macro_rules | `(tactic| walk_at "m_slotget") => `(tactic| (refine attr_slot (by assumption) (by first | exact sl_step _ | exact sl_node _ | exact sl_children _ | exact sl_value _) (by assumption) (by walk_at "m_has") (by exact rfl) (by walk_at "m_has") (by exact rfl) (by exact rfl) ?_))
local macro_rules | `(tactic| walk_at "m_store") => `(tactic| refine st_ (by assumption) (by assumption) (by decide) (by walk_at "m_sub") (by walk_at "m_put") ?_)
local macro_rules | `(tactic| walk_at "m_glob") => `(tactic| (refine glob (by assumption) (by assumption) (by assumption) (by decide) (by k_dflt k_is) (by decide) ?_))
variable {w : World} {A : Around} {E : Value → Shared → Prop} {b s : Shared} {cs cs' : List Cell} {R : Result → Shared → Prop} {env : Env} {pos : Pos}

local macro_rules | `(tactic| walk_at "m_bi") => `(tactic| (refine builtin (by assumption) (by assumption) (by assumption) (by decide) (by k_dflt k_is) (by boot_by_name) (by decide) (by decide) ?_))
/-- a way as a text -/
theorem key_from_path {a pa : Addr} {ur : List Nat} {pv : List Value} (B : Base (hd.heap_39 w.params) b) (H : St b s cs) (hp : Has (.p pa (lstP pv)) cs) (hpr : PathR ur pv) (hl : ur.length ≤ 900) (hA : A.depth < recursionLimit)
   (hR : ∀ s' tk, St b s' cs → R (.ok (.ret (.str (wordOf ur.reverse) tk))) s') : codeAny (model prog w) A (.call (.ref 836) ⟨[.ref a, .ref pa], []⟩) R s := by
  refine enterN (K := (hd.heap_39 w.params)) (nk := [((PySem.Str.ofString "self"), .local), ((PySem.Str.ofString "path"), .local)]) ⟨⟨_, _, _, by k_dflt k_is⟩, by k_dflt k_is, by exact rfl, by exact rfl, by exact rfl, by exact rfl, by exact rfl, by exact rfl⟩ (by exact rfl) [(PySem.Str.ofString "self"), (PySem.Str.ofString "path")] [some (.ref a), some (.ref pa)] (by assumption) (by assumption) (by walk_at "m_room") (by exact BindsTo.of_eq rfl) (by decide) (by exact locsN rfl) (by decide) (by exact rfl) (by exact rfl) ?_
  clear H; intro s L env V H
  obtain ⟨ps, rfl, hps⟩ := hpr.lets
  have hpl : ps.length ≤ 1000 := by have := congrArg List.length hps; simp at this; omega
  refine wpAny_execs_cons (wpAny_Return_some (MethodCall_ ?_))
  refine kStr H ?_
  clear H; intro s tk H
  refine getMethod_builtin (T := "str") (typeIs_str _ _ _) PySem.F.plainAttrs_str PySem.F.slot_str_join PySem.F.type_str_join (fun _ e => nomatch e) ?_
  refine callWith_method1 (spliced_more ?_) rfl rfl
  walk_at "m_name"
  refine spliced_none ?_
  refine join_ (ps := lets ps) H (by walk_at "m_has") (joinOk_letters hpl) fun s' tk' H' => ?_
  have e : Txt.join (Str.ofString "") ((lets ps).map (·.1)) = wordOf ur.reverse := by
    show Builtin.Str.glued _ _ = _
    rw [StrLaws.glued_eq_join, join_letters, hps]
  have := hR s' tk' (H'.mono (List.sublist_cons_self _ _))
  rw [← e] at this; exact this
end Mine
end
section
open PySem PySem.W PySem.Calls PyProof.Rows
set_option Elab.async false
set_option maxRecDepth 100000
set_option maxHeartbeats 4000000
set_option linter.unusedVariables false
namespace Mine
local macro_rules | `(tactic| walk_at "m_fill") => `(tactic| ((have dummy : PySem.Challenge.rw_ez0279_01 = PySem.Challenge.rw_ez0279_01 ∧ hd.heap_39 = hd.heap_39 := by k_fill; exact ⟨rfl, rfl⟩); clear dummy))
local macro_rules | `(tactic| walk_at "m_facts") => `(tactic| (constructor <;> first | k_dflt k_is | decide +kernel))
theorem sl_fill_T17 : True := by walk_at "m_fill"; trivial
local macro_rules | `(tactic| walk_at "m_has") => `(tactic| with_reducible first | exact Has.head | (refine Has.tail ?_; walk_at "m_has") | (refine Has.of ?_; assumption) | assumption)
local macro_rules | `(tactic| walk_at "m_at") => `(tactic| with_reducible first | exact At.head | (refine At.tail ?_; walk_at "m_at"))
local macro_rules | `(tactic| walk_at "m_sub") => `(tactic| with_reducible first | exact Sub1.head | (apply Sub1.tail; walk_at "m_sub"))
local macro_rules | `(tactic| walk_at "m_put") => `(tactic| with_reducible first | exact PutAt.head | (apply PutAt.tail; walk_at "m_put"))
local macro_rules | `(tactic| walk_at "m_rem") => `(tactic| with_reducible first | exact Rem.head | (apply Rem.tail; walk_at "m_rem"))
local macro_rules | `(tactic| walk_at "m_pick") => `(tactic| with_reducible first | exact Pick.all | (apply Pick.take; (focus (walk_at "m_rem")); walk_at "m_pick") | (apply Pick.skip; walk_at "m_pick"))
local macro_rules | `(tactic| walk_at "m_room") => `(tactic| first | assumption | omega)
local macro_rules | `(tactic| walk_at "m_name") => `(tactic| refine nm (by assumption) (by assumption) (by walk_at "m_has") (by walk_at "m_at") (by decide) (by decide) ?_)
local macro_rules | `(tactic| walk_at "m_slotget") => `(tactic| (refine attr_slot (by assumption) (by first | exact sl_step _ | exact sl_node _ | exact sl_children _ | exact sl_value _) (by assumption) (by walk_at "m_has") (by exact rfl) (by walk_at "m_has") (by exact rfl) (by exact rfl) ?_))
local macro_rules | `(tactic| walk_at "m_store") => `(tactic| refine st_ (by assumption) (by assumption) (by decide) (by walk_at "m_sub") (by walk_at "m_put") ?_)
local macro_rules | `(tactic| walk_at "m_glob") => `(tactic| (refine glob (by assumption) (by assumption) (by assumption) (by decide) (by k_dflt k_is) (by decide) ?_))
variable {w : World} {A : Around} {E : Value → Shared → Prop} {b s : Shared} {cs cs' : List Cell} {R : Result → Shared → Prop} {env : Env} {pos : Pos}

local macro_rules | `(tactic| walk_at "m_bi") => `(tactic| (refine builtin (by assumption) (by assumption) (by assumption) (by decide) (by k_dflt k_is) (by boot_by_name) (by decide) (by decide) ?_))
abbrev sentA : Addr := 50
theorem not_sent0 (B : Base (hd.heap_39 w.params) b) (H : St b s cs) (hA : A.depth < recursionLimit)
   (hR : ∀ s', St b s' cs → R (.ok (.ret (.bool false))) s') : codeAny (model prog w) A (.call (.ref 57) ⟨[.ref sentA], []⟩) R s := by
  refine enterN (K := (hd.heap_39 w.params)) (nk := [((PySem.Str.ofString "value"), .local), ((PySem.Str.ofString "_SENTINEL"), .globalImplicit)]) ⟨⟨_, _, _, by k_dflt k_is⟩, by k_dflt k_is, by exact rfl, by exact rfl, by exact rfl, by exact rfl, by exact rfl, by exact rfl⟩ (by exact rfl) [(PySem.Str.ofString "value")] [some (.ref sentA)] (by assumption) (by assumption) (by walk_at "m_room") (by exact BindsTo.of_eq rfl) (by decide) (by exact locsN rfl) (by decide) (by exact rfl) (by exact rfl) ?_
  clear H; intro s L env V H
  refine wpAny_execs_cons (wpAny_Return_some (wpAny_Compare1 ?_))
  walk_at "m_name"
  walk_at "m_glob"
  refine isntSelf ?_
  exact hR _ (H.mono (List.sublist_cons_self _ _))
theorem pfk0 {a : Addr} (B : Base (hd.heap_39 w.params) b) (H : St b s cs) (hA : A.depth + 2 < recursionLimit)
   (hR : ∀ s' t, St b s' (.o t (tupObj #[]) :: cs) → R (.ok (.ret (.ref t))) s') : codeAny (model prog w) A (.call (.ref 793) ⟨[.ref a, .ref sentA], []⟩) R s := by
  have hA0 : A.depth < recursionLimit := by omega
  refine enterN (K := (hd.heap_39 w.params)) (nk := [((PySem.Str.ofString "self"), .local), ((PySem.Str.ofString "key"), .local), ((PySem.Str.ofString "_is_not_sentinel"), .globalImplicit)]) ⟨⟨_, _, _, by k_dflt k_is⟩, by k_dflt k_is, by exact rfl, by exact rfl, by exact rfl, by exact rfl, by exact rfl, by exact rfl⟩ (by exact rfl) [(PySem.Str.ofString "self"), (PySem.Str.ofString "key")] [some (.ref a), some (.ref sentA)] (by assumption) (by assumption) (by walk_at "m_room") (by exact BindsTo.of_eq rfl) (by decide) (by exact locsN rfl) (by decide) (by exact rfl) (by exact rfl) ?_
  clear H; intro s L env V H
  refine wpAny_execs_cons (wpAny_Return_some (wpAny_IfExp (isTrue_plain (Call_ ?_))))
  walk_at "m_glob"
  refine callK B H (kp_ins w) rfl rfl (spliced_more ?_)
  walk_at "m_name"
  refine spliced_none ⟨⟨_, H⟩, wpAny_call (not_sent0 B H (show A.depth + 1 < _ by omega) ?_)⟩
  clear H; intro s H
  refine wpAny_truthy_bool ?_
  rw [if_neg (by decide)]
  refine tuple_ (b := b) (spliced_none ⟨by simp, _, H, ?_⟩)
  clear H; intro s t H
  exact hR s t (H.pick (by walk_at "m_pick"))
theorem find_along0 {a td l : Addr} {r : Nd} {cb : Value} {t1 t2 : Tok} {ep : Nat} (B : Base (hd.heap_39 w.params) b) (H : St b s cs) (h1 : Has (.o a (trieObj td)) cs) (h2 : Has (.o td (dictOf (trieEs w.params (.ref r.a) cb t1 t2) ep)) cs) (hl : Has (.p l (lstP [])) cs) (hA : A.depth < recursionLimit) (hh : A.handled = none)
   (hR : ∀ s', St b s' cs → R (.ok (.ret (.ref r.a))) s') : codeAny (model prog w) A (.call (.ref 547) ⟨[.ref a, .ref l], []⟩) R s := by
  refine enterN (K := (hd.heap_39 w.params)) (nk := [((PySem.Str.ofString "self"), .local), ((PySem.Str.ofString "path"), .local), ((PySem.Str.ofString "node"), .local), ((PySem.Str.ofString "step"), .local), ((PySem.Str.ofString "n"), .local)]) ⟨⟨_, _, _, by k_dflt k_is⟩, by k_dflt k_is, by exact rfl, by exact rfl, by exact rfl, by exact rfl, by exact rfl, by exact rfl⟩ (by exact rfl) [(PySem.Str.ofString "self"), (PySem.Str.ofString "path"), (PySem.Str.ofString "node"), (PySem.Str.ofString "step"), (PySem.Str.ofString "n")] [some (.ref a), some (.ref l), none, none, none] (by assumption) (by assumption) (by walk_at "m_room") (by exact BindsTo.of_eq rfl) (by decide) (by exact locsN rfl) (by decide) (by exact rfl) (by exact rfl) ?_
  clear H; intro s L env V H
  refine wpAny_execs_cons (wpAny_Assign_Name (Attribute_Name_ ?_))
  walk_at "m_name"
  refine attr_own (by assumption) (ow_root _) (by assumption) (by walk_at "m_has") (by walk_at "m_has") (v := .ref r.a) (by exact rfl) (by exact rfl) ?_
  clear H; intro s H
  walk_at "m_store"
  clear H; intro s H
  refine wpAny_execs_cons (wpAny_For ?_ (fun _ => rfl))
  walk_at "m_name"
  refine iterList (items := []) H (by walk_at "m_has") ?_
  clear H; intro s it H
  refine forEmpty (endList (items := []) hh H (by walk_at "m_has") rfl ?_)
  clear H; intro s H
  refine ⟨rfl, ?_⟩
  refine wpAny_execs_cons (wpAny_Return_some ?_)
  walk_at "m_name"
  exact hR s (H.mono (List.sublist_cons_self _ _))
abbrev iiNs : List Str := [S "self", S "prefix", S "shallow", S "path", S "node", S "p", S "value"]
/-- an answer of items() -/
abbrev ItemT (x : List Nat × Value) (v : Value) (vis : List Cell) : Prop := ∃ t tk, v = .ref t ∧ vis = [.o t (tupObj #[.str (wordOf x.1) tk, x.2])]
def outR (r : Nd) : List (List Nat × Value) := (if isSet D0 r.v then [([], r.v)] else []) ++ r.ch.out D0 []
theorem outR_mem {r : Nd} {x : List Nat × Value} (hok : r.ok D0) (h : x ∈ outR r) : ∃ m, r.find x.1 = some m ∧ isSet D0 m.v = true ∧ m.v = x.2 := by
  unfold outR at h
  rcases List.mem_append.mp h with h | h
  · split at h
    · rename_i hs
      simp at h; subst h
      exact ⟨r, rfl, hs, rfl⟩
    · cases h
  · obtain ⟨k, w, c, m, h1, h2, h3, h4, h5⟩ := Fo.out_mem hok.2.2 h
    exact ⟨m, by rw [h1]; simp [Nd.find, h2, h3], h4, h5⟩
theorem outR_len {r : Nd} (hok : r.ok D0) (hdep : ∀ u m, r.find u = some m → u.length ≤ 500) : ∀ x ∈ outR r, x.1.length ≤ 900 := by
  intro x hx
  obtain ⟨m, h, _⟩ := outR_mem hok hx
  exact Nat.le_trans (hdep _ _ h) (by decide)
theorem me_iterate (w : World) : MethOf (hd.heap_39 w.params) 360 (S "iterate") (.ref 328) gaO tF := by walk_at "m_facts"
theorem kp_iterate (w : World) : keepIn (hd.heap_39 w.params) (.ref 328) = true := by k_dflt k_is
theorem me_kfp (w : World) : MethOf (hd.heap_39 w.params) 839 (S "_key_from_path") (.ref 836) gaO tF := by walk_at "m_facts"
theorem kp_kfp (w : World) : keepIn (hd.heap_39 w.params) (.ref 836) = true := by k_dflt k_is
theorem fsl_for {A : Around} {L : Addr} {nk : List (Str × NameKind)} {t : Expr} {it : Value} {bd o body : List Stmt} {k : Result → Sem Fin} {h : Option Value} {g : Bool} {l : List Value} {p : Pos} {kp : List Value} (V : EnvIs env L nk []) (FS : Fs A cs) : FsL L (A.over (.forLoop t it bd o env) [.ret k h g l (.func body env) p kp]) cs := by
  obtain ⟨l, a, k⟩ := FS
  refine ⟨env :: l, ?_, ⟨env, .head _, V.frame⟩, fun e he => ?_⟩
  · rw [over_frames, a]
    simp [Code.envs, Code.isFrame, envsOf, Frame.where_, pushEnvs, Code.env?]
  · rcases List.mem_cons.mp he with rfl | he
    · exact ⟨by rw [V.kind]; decide, .inl V.frame⟩
    · exact ⟨(k e he).1, .inr (k e he).2⟩
theorem letGo_gen {E : Value → Shared → Prop} {elts : List Expr} {k : Nat} {p : Pos} {ga : Addr} {gn : Nat} {t : Value} {Q : Unit → Shared → Prop} (H : St b s cs) (hg : Has (.p ga (GenP gn)) cs) (h : Q () s) : wpAny (model prog w) A (letOwnedTupleGo (.Tuple elts k p) (.ref ga) t) Q E s := by
  obtain ⟨⟨o, ho, h1, ⟨nm, qn, h2⟩, h3⟩, _⟩ := H.sat _ hg.mem
  obtain ⟨c, d, dt, sl⟩ := o
  dsimp only at h1 h2 h3
  subst h1 h2 h3
  unfold letOwnedTupleGo
  cases t with
  | ref t =>
    refine wpAny_bind (wpAny_load ho ?_)
    dsimp only
    rw [if_neg (by simp)]
    exact wpAny_pure h
  | _ => exact wpAny_pure h
theorem perm_front {f p q : Cell} {t o c : List Cell} : (f :: (t ++ (p :: q :: (o ++ c)))).Perm (t ++ (p :: q :: (o ++ (f :: c)))) := by
  have h := (List.perm_middle (l₁ := t ++ (p :: q :: o)) (l₂ := c) (a := f)).symm
  simpa only [List.append_assoc, List.cons_append] using h
theorem iteritems_call {a td : Addr} {r : Nd} {t1 t2 : Tok} {ep : Nat} (B : Base (hd.heap_39 w.params) b) (hok : r.ok D0) (hdep : ∀ u m, r.find u = some m → u.length ≤ 500) (H : St b s cs) (h1 : Cell.o a (trieObj td) ∈ cs) (h2 : Cell.o td (dictOf (trieEs w.params (.ref r.a) (.ref cbA) t1 t2) ep) ∈ cs)
  (hro : ∀ c ∈ r.cells w.params D0, c ∈ cs) (hA : A.depth + 80 < recursionLimit)
  (hR : ∀ s' g n gs own, Rdy (model prog w) 80 b (.o a (trieObj td) :: .o td (dictOf (trieEs w.params (.ref r.a) (.ref cbA) t1 t2) ep) :: r.cells w.params D0) (fun x v vis _ => ItemT x v vis) (outR r) gs own → St b s' (.p g (GenP n) :: .g n gs :: (own ++ cs)) → R (.ok (.ret (.ref g))) s') :
  codeAny (model prog w) A (.call (.ref 584) ⟨[.ref a], [(S "prefix", .ref sentA), (S "shallow", .bool false)]⟩) R s := by
  have hA0 : A.depth < recursionLimit := by omega
  refine enterGen (K := (hd.heap_39 w.params)) (nk := [((PySem.Str.ofString "self"), .local), ((PySem.Str.ofString "prefix"), .local), ((PySem.Str.ofString "shallow"), .local), ((PySem.Str.ofString "path"), .local), ((PySem.Str.ofString "node"), .local), ((PySem.Str.ofString "p"), .local), ((PySem.Str.ofString "value"), .local), ((PySem.Str.ofString "list"), .globalImplicit), ((PySem.Str.ofString "KeyError"), .globalImplicit)]) ⟨⟨_, _, _, by k_dflt k_is⟩, by k_dflt k_is, by exact rfl, by exact rfl, by exact rfl, by exact rfl, by exact rfl, by exact rfl⟩ (by exact rfl) [(PySem.Str.ofString "self"), (PySem.Str.ofString "prefix"), (PySem.Str.ofString "shallow"), (PySem.Str.ofString "path"), (PySem.Str.ofString "node"), (PySem.Str.ofString "p"), (PySem.Str.ofString "value")] [some (.ref a), some (.ref sentA), some (.bool false), none, none, none, none] (by assumption) (by assumption) (by walk_at "m_room") (by exact binds_K (B.X.keeps (St.keep (by assumption))) rfl (by k_dflt k_is) rfl rfl rfl) (by decide) (by exact locsN rfl) (by decide) (by exact rfl) (by exact rfl) ?_
  clear H; intro s L env g n V hco H
  refine hR s g n _ [.f L iiNs [some (.ref a), some (.ref sentA), some (.bool false), none, none, none, none]] ?_ H
  clear H hR; clear hA hA0 hro h1 h2
  refine Rdy.intro fun A s cs N D hc hro FS H hcps => ?_
  have h1 : Cell.o a (trieObj td) ∈ cs := hro _ (.head _)
  have h2 : Cell.o td (dictOf (trieEs w.params (.ref r.a) (.ref cbA) t1 t2) ep) ∈ cs := hro _ (.tail _ (.head _))
  have hro2 : ∀ c ∈ r.cells w.params D0, c ∈ cs := fun c hc => hro c (.tail _ (.tail _ hc))
  have hi := V.quiet
  have hr := hc.room
  have H : St b s (.f L iiNs [some (.ref a), some (.ref sentA), some (.bool false), none, none, none, none] :: cs) := H
  refine sg_func ?_
  refine sg_execs_cons (sg_wrap (wpAny_Assign_Name (Call_ ?_)))
  walk_at "m_bi"
  refine PyProof.Rows.callWith_type1 (spliced_more (MethodCall_ ?_)) rfl rfl
  walk_at "m_name"
  refine meth B (me_pfk w) H (by walk_at "m_has") rfl (by walk_at "m_has") rfl ?_
  refine callK B H (kp_pfk w) rfl rfl (spliced_more ?_)
  walk_at "m_name"
  refine spliced_none ⟨⟨_, H⟩, wpAny_call (pfk0 B H (show A.depth + 1 + 2 < _ by omega) ?_)⟩
  clear H; intro s t0 H
  refine spliced_none ?_
  refine list_seq (items := []) H (.inr rfl) (H.obj (.head _)) rfl rfl (by decide) ?_
  clear H; intro s pa H
  have H : St b s (.p pa (lstP []) :: .f L iiNs [some (.ref a), some (.ref sentA), some (.bool false), none, none, none, none] :: cs) := H.pick (by walk_at "m_pick")
  walk_at "m_store"
  clear H; intro s H
  refine sg_execs_cons (sg_wrap (wpAny_Assign_Name (MethodCall_ ?_)))
  walk_at "m_name"
  refine meth B (me_fna w) H (by walk_at "m_has") rfl (by walk_at "m_has") rfl ?_
  refine callK B H (kp_fna w) rfl rfl (spliced_more ?_)
  walk_at "m_name"
  refine spliced_none ⟨⟨_, H⟩, wpAny_call (find_along0 B H (by walk_at "m_has") (by walk_at "m_has") .head (show A.depth + 1 < _ by omega) hc.handled ?_)⟩
  clear H; intro s H
  walk_at "m_store"
  clear H; intro s H
  refine sg_execs_cons (sg_wrap (wpAny_If (wpAny_isTrue_Compare1 ?_)))
  walk_at "m_name"
  refine wpAny_Constant_none (wpAny_is_plain rfl (wpAny_truthy_bool ?_))
  rw [if_neg (show ¬ ((Value.ref r.a == Value.none) = true) from Bool.false_ne_true)]
  refine wpAny_execs_nil ?_
  refine sg_execs_cons (sg_For ?_ (fun _ => rfl))
  refine MethodCall_ ?_
  walk_at "m_name"
  have hn1 : Cell.o r.a (nodeObj D0 r.dx (chVal D0 r.kd) r.v) ∈ cs := hro2 _ (List.mem_cons_self ..)
  have hn2 : Cell.o r.dx noDict ∈ cs := hro2 _ (List.mem_cons_of_mem _ (List.mem_cons_self ..))
  refine meth B (me_iterate w) H (by walk_at "m_has") rfl (by walk_at "m_has") rfl ?_
  refine callK B H (kp_iterate w) rfl rfl (spliced_more ?_)
  walk_at "m_name"
  refine spliced_more ?_
  walk_at "m_name"
  refine spliced_more (Attribute_Name_ ?_)
  walk_at "m_name"
  refine attr_own (by assumption) (ow_items _) (by assumption) (by walk_at "m_has") (by walk_at "m_has") (v := .ref cbA) (by exact rfl) (by exact rfl) ?_
  clear H; intro s H
  refine spliced_none ⟨⟨_, H⟩, wpAny_call (iterate_call B hok hdep H (fun c hc => .tail _ (hro2 c hc)) (show A.depth + 1 + 60 < _ by omega) ?_)⟩
  clear H; intro s ga gn gs own hrdy H
  refine wpAny_pyIter_gen (H.isGen (a := ga) (g := gn) .head) ?_
  intro p
  refine sg_induct (P := fun A n s Φ => ∃ l gs own pv vv N D cs, (∀ x ∈ l, x.1.length ≤ 900) ∧ l.length = n ∧ Calm 80 A ∧ (∀ c ∈ (.o a (trieObj td) :: .o td (dictOf (trieEs w.params (.ref r.a) (.ref cbA) t1 t2) ep) :: r.cells w.params D0), c ∈ cs) ∧ Fs A cs ∧ Rdy (model prog w) 60 b (r.cells w.params D0) (IterO pa) l gs own ∧
     Cps (model prog w) 80 b (.o a (trieObj td) :: .o td (dictOf (trieEs w.params (.ref r.a) (.ref cbA) t1 t2) ep) :: r.cells w.params D0) (fun x v vis _ => ItemT x v vis) N D cs l ∧ Φ = Stop N D ∧
     St b s (.p ga (GenP gn) :: .g gn gs :: (own ++ (.f L iiNs [some (.ref a), some (.ref sentA), some (.bool false), some (.ref pa), some (.ref r.a), pv, vv] :: cs)))) ?_ (outR r).length A s _ ⟨outR r, gs, own, none, none, N, D, cs, outR_len hok hdep, rfl, hc, hro, FS, hrdy, hcps, rfl, H⟩
  clear H hcps hrdy
  rintro n IH A s Φ ⟨l, gs, own, pv, vv, N, D, cs, hlen, hln, hc, hro, FS, hrdy, hcps, rfl, H⟩
  have h1 : Cell.o a (trieObj td) ∈ cs := hro _ (.head _)
  have h2 : Cell.o td (dictOf (trieEs w.params (.ref r.a) (.ref cbA) t1 t2) ep) ∈ cs := hro _ (.tail _ (.head _))
  have hro2 : ∀ c ∈ r.cells w.params D0, c ∈ cs := fun c hc => hro c (.tail _ (.tail _ hc))
  have hr := hc.room
  refine sg_forLoop ?_
  cases l with
  | nil =>
    refine nextNil B (by exact hc.handled) (show A.depth + 1 + 0 + 60 < _ by omega) H (fun c hc => .tail _ (hro2 c hc)) ((fsl_for V FS).fs (.head _) (fun c hc => .tail _ hc)) hrdy fun s' H' => ?_
    refine sg_again rfl (sg_block (sg_leaf (.ok .next) ?_))
    refine sg_end (.ok (.ret .none)) ⟨⟨_, rfl, rfl⟩, hcps s' (H'.mono ?_)⟩
    exact (List.sublist_cons_self _ _).trans ((List.sublist_cons_self _ _).trans (List.sublist_cons_self _ _))
  | cons x l =>
    refine nextCons B (by exact hc.handled) (show A.depth + 1 + 0 + 60 < _ by omega) H (fun c hc => .tail _ (hro2 c hc)) ((fsl_for V FS).fs (.head _) (fun c hc => .tail _ hc)) hrdy fun gs' v vis own' s' hO hrdy' H' => ?_
    obtain ⟨t, pv', rfl, rfl, hpr, hmem⟩ := hO
    refine letGo_gen H' (.tail .head) ?_
    have H : St b s' (.f L iiNs [some (.ref a), some (.ref sentA), some (.bool false), some (.ref pa), some (.ref r.a), pv, vv] :: .o t (tupObj #[.ref pa, x.2]) :: .p ga (GenP gn) :: .g gn gs' :: (own' ++ cs)) := H'.perm (perm_front (t := [Cell.o t (tupObj #[.ref pa, x.2])]))
    refine unpackT (by exact hc.handled) H (.tail .head) rfl rfl ?_
    clear H H'; intro s H
    refine assignInOrder_cons (assign_Name ?_)
    walk_at "m_store"
    clear H; intro s H
    refine assignInOrder_cons (assign_Name ?_)
    walk_at "m_store"
    clear H; intro s H
    refine assignInOrder_nil ?_
    have hn1 : Cell.o a (trieObj td) ∈ own' ++ cs := List.mem_append_right _ h1
    have hn2 : Cell.o td (dictOf (trieEs w.params (.ref r.a) (.ref cbA) t1 t2) ep) ∈ own' ++ cs := List.mem_append_right _ h2
    refine sg_execs_cons (sg_Expr_Yield rfl rfl rfl ?_ hco hi)
    refine tuple_ (b := b) (spliced_more (MethodCall_ ?_))
    walk_at "m_name"
    refine meth B (me_kfp w) H (by walk_at "m_has") rfl (by walk_at "m_has") rfl ?_
    refine callK B H (kp_kfp w) rfl rfl (spliced_more ?_)
    walk_at "m_name"
    have hxl : x.1.reverse.length ≤ 900 := by rw [List.length_reverse]; exact hlen x (.head _)
    refine spliced_none ⟨⟨_, H⟩, wpAny_call (key_from_path B H (.tail (.tail (.tail (.tail (.of (List.mem_append_left _ hmem)))))) hpr hxl (show A.depth + 1 + 0 < _ by omega) ?_)⟩
    clear H; intro s tk H
    refine spliced_more ?_
    walk_at "m_name"
    refine spliced_none ⟨by simp, _, H, ?_⟩
    clear H; intro s t3 H
    intro gs2 hb hgo e he1 he2 he3
    rw [List.reverse_reverse] at H
    have H2 : St b s ([.o t3 (tupObj #[.str (wordOf x.1) tk, x.2])] ++ ((.p ga (GenP gn) :: .g gn gs' :: (own' ++ [.f L iiNs [some (.ref a), some (.ref sentA), some (.bool false), some (.ref pa), some (.ref r.a), some (.ref pa), some x.2]])) ++ cs)) := by
      have H := H.mono (cs' := .o t3 (tupObj #[.str (wordOf x.1) tk, x.2]) :: .f L iiNs [some (.ref a), some (.ref sentA), some (.bool false), some (.ref pa), some (.ref r.a), some (.ref pa), some x.2] :: .p ga (GenP gn) :: .g gn gs' :: (own' ++ cs)) (.cons_cons _ (.cons_cons _ (List.sublist_cons_self _ _)))
      have H := H.perm (List.Perm.cons _ (perm_front (t := [])).symm)
      simpa only [List.append_assoc, List.cons_append, List.nil_append] using H
    refine Stop.of he1 he2 he3 (hcps gs2 (.ref t3) [.o t3 (tupObj #[.str (wordOf x.1) tk, x.2])] (.p ga (GenP gn) :: .g gn gs' :: (own' ++ [.f L iiNs [some (.ref a), some (.ref sentA), some (.bool false), some (.ref pa), some (.ref r.a), some (.ref pa), some x.2]])) s hb ⟨t3, tk, rfl, rfl⟩ ?_ H2)
    refine Rdy.intro fun A' s'' cs' N' D' hc' hro' FS' H' hcps' => hgo A' s'' _ ?_
    refine sg_again rfl (IH A' l.length s'' _ (by simp only [List.length_cons] at hln; omega) ⟨l, gs', own', some (.ref pa), some x.2, N', D', cs', fun y hy => hlen y (.tail _ hy), rfl, hc', hro', FS', hrdy', hcps', rfl, ?_⟩)
    simpa only [List.append_assoc, List.cons_append, List.nil_append] using H'
end Mine
end
section
open PySem PySem.W PySem.Calls PyProof.Rows
set_option Elab.async false
set_option maxRecDepth 100000
set_option maxHeartbeats 4000000
set_option linter.unusedVariables false
namespace Mine
local macro_rules | `(tactic| walk_at "m_fill") => `(tactic| ((have dummy : PySem.Challenge.rw_ez0279_01 = PySem.Challenge.rw_ez0279_01 ∧ hd.heap_39 = hd.heap_39 := by k_fill; exact ⟨rfl, rfl⟩); clear dummy))
local macro_rules | `(tactic| walk_at "m_facts") => `(tactic| (constructor <;> first | k_dflt k_is | decide +kernel))
theorem sl_fill_T18 : True := by walk_at "m_fill"; trivial
local macro_rules | `(tactic| walk_at "m_has") => `(tactic| with_reducible first | exact Has.head | (refine Has.tail ?_; walk_at "m_has") | (refine Has.of ?_; assumption) | assumption)
local macro_rules | `(tactic| walk_at "m_at") => `(tactic| with_reducible first | exact At.head | (refine At.tail ?_; walk_at "m_at"))
local macro_rules | `(tactic| walk_at "m_sub") => `(tactic| with_reducible first | exact Sub1.head | (apply Sub1.tail; walk_at "m_sub"))
local macro_rules | `(tactic| walk_at "m_put") => `(tactic| with_reducible first | exact PutAt.head | (apply PutAt.tail; walk_at "m_put"))
local macro_rules | `(tactic| walk_at "m_rem") => `(tactic| with_reducible first | exact Rem.head | (apply Rem.tail; walk_at "m_rem"))
local macro_rules | `(tactic| walk_at "m_pick") => `(tactic| with_reducible first | exact Pick.all | (apply Pick.take; (focus (walk_at "m_rem")); walk_at "m_pick") | (apply Pick.skip; walk_at "m_pick"))
local macro_rules | `(tactic| walk_at "m_room") => `(tactic| first | assumption | omega)
local macro_rules | `(tactic| walk_at "m_name") => `(tactic| refine nm (by assumption) (by assumption) (by walk_at "m_has") (by walk_at "m_at") (by decide) (by decide) ?_)
local macro_rules | `(tactic| walk_at "m_slotget") => `(tactic| (refine attr_slot (by assumption) (by first | exact sl_step _ | exact sl_node _ | exact sl_children _ | exact sl_value _) (by assumption) (by walk_at "m_has") (by exact rfl) (by walk_at "m_has") (by exact rfl) (by exact rfl) ?_))
local macro_rules | `(tactic| walk_at "m_store") => `(tactic| refine st_ (by assumption) (by assumption) (by decide) (by walk_at "m_sub") (by walk_at "m_put") ?_)
local macro_rules | `(tactic| walk_at "m_glob") => `(tactic| (refine glob (by assumption) (by assumption) (by assumption) (by decide) (by k_dflt k_is) (by decide) ?_))
variable {w : World} {A : Around} {E : Value → Shared → Prop} {b s : Shared} {cs cs' : List Cell} {R : Result → Shared → Prop} {env : Env} {pos : Pos}

local macro_rules | `(tactic| walk_at "m_bi") => `(tactic| (refine builtin (by assumption) (by assumption) (by assumption) (by decide) (by k_dflt k_is) (by boot_by_name) (by decide) (by decide) ?_))
theorem MethodCallKw {M : Model} {E : Value → Shared → Prop} {o : Expr} {name : Str} {apos pos : Pos} {args : List Expr} {kws : List Keyword} {pl : Sem Bool} {Q : Value → Shared → Prop}
  (h : wpAny M A (eval o env) (fun ov s₁ => wpAny M A (getMethod ov name pl) (fun fx s₂ => wpAny M A (callWith pos fx.1 fx.2 (backTo pos (starEach args env)) (backToKw pos (keywordEach kws env))) Q E s₂) E s₁) E s)
  (he : eval (.Call (.Attribute o name apos) args kws pos) env = (do let ov ← eval o env; standAt apos.atName; let (f, first) ← holding [ov] (getMethod ov name pl); callWith pos f first (backTo pos (starEach args env)) (backToKw pos (keywordEach kws env))) := by rfl) :
  wpAny M A (eval (.Call (.Attribute o name apos) args kws pos) env) Q E s := by
  rw [he]
  refine wpAny_bind (wpAny_mono h (fun ov s₁ h₁ => wpAny_bind (wpAny_standAt (wpAny_bind (wpAny_holding (wpAny_mono h₁ (fun fx s₂ h₂ => ?_) fun _ _ x => x))))) fun _ _ x => x)
  exact h₂
theorem me_iteritems (w : World) : MethOf (hd.heap_39 w.params) 839 (S "iteritems") (.ref 584) gaO tF := by walk_at "m_facts"
theorem kp_iteritems (w : World) : keepIn (hd.heap_39 w.params) (.ref 584) = true := by k_dflt k_is
theorem deeper_fs {A : Around} {L : Addr} {nk : List (Str × NameKind)} {ns : List Str} {vs : List (Option Value)} (V : EnvIs env L nk []) (FS : Fs A cs) : Fs (A.deeper env) (.f L ns vs :: cs) := by
  obtain ⟨l, a, k⟩ := FS
  refine ⟨env :: l, ?_, fun e he => ?_⟩
  · show pushEnvs [env] A.frames = _
    rw [a]; rfl
  · rcases List.mem_cons.mp he with rfl | he
    · exact ⟨by rw [V.kind]; decide, L, _, _, V.frame, .head _⟩
    · obtain ⟨q, L', ns', vs', x, y⟩ := k e he
      exact ⟨q, L', ns', vs', x, .tail _ y⟩
theorem items_call {a td : Addr} {r : Nd} {t1 t2 : Tok} {ep : Nat} (B : Base (hd.heap_39 w.params) b) (hok : r.ok D0) (hdep : ∀ u m, r.find u = some m → u.length ≤ 500) (H : St b s cs) (h1 : Cell.o a (trieObj td) ∈ cs) (h2 : Cell.o td (dictOf (trieEs w.params (.ref r.a) (.ref cbA) t1 t2) ep) ∈ cs)
  (hro : ∀ c ∈ r.cells w.params D0, c ∈ cs) (FS : Fs A cs) (hh : A.handled = none) (hA : A.depth + 90 < recursionLimit) (hn : (outR r).length ≤ 900)
  (hR : ∀ s' l vals acc, Told ItemT (outR r) vals acc → St b s' (.p l (lstP vals) :: (acc ++ cs)) → R (.ok (.ret (.ref l))) s') :
  codeAny (model prog w) A (.call (.ref 608) ⟨[.ref a], []⟩) R s := by
  have hA0 : A.depth < recursionLimit := by omega
  refine enterN (K := (hd.heap_39 w.params)) (nk := [((PySem.Str.ofString "self"), .local), ((PySem.Str.ofString "prefix"), .local), ((PySem.Str.ofString "shallow"), .local), ((PySem.Str.ofString "list"), .globalImplicit)]) ⟨⟨_, _, _, by k_dflt k_is⟩, by k_dflt k_is, by exact rfl, by exact rfl, by exact rfl, by exact rfl, by exact rfl, by exact rfl⟩ (by exact rfl) [(PySem.Str.ofString "self"), (PySem.Str.ofString "prefix"), (PySem.Str.ofString "shallow")] [some (.ref a), some (.ref sentA), some (.bool false)] (by assumption) (by assumption) (by walk_at "m_room") (by exact binds_K (B.X.keeps (St.keep (by assumption))) rfl (by k_dflt k_is) rfl rfl rfl) (by decide) (by exact locsN rfl) (by decide) (by exact rfl) (by exact rfl) ?_
  clear H; intro s L env V H
  refine wpAny_execs_cons (wpAny_Return_some (Call_ ?_))
  walk_at "m_bi"
  refine PyProof.Rows.callWith_type1 (spliced_more (MethodCallKw ?_)) rfl rfl
  walk_at "m_name"
  refine meth B (me_iteritems w) H (by walk_at "m_has") rfl (by walk_at "m_has") rfl ?_
  refine callWith_KW0 (H.in_ B.X) (kp_iteritems w) rfl ?_ rfl
  refine wpAny_evalAll_cons (wpAny_bind ?_)
  walk_at "m_name"
  refine wpAny_bind (wpAny_standAt (wpAny_pure ?_))
  refine wpAny_evalAll_cons (wpAny_bind ?_)
  walk_at "m_name"
  refine wpAny_bind (wpAny_standAt (wpAny_pure ?_))
  refine wpAny_evalAll_nil ⟨H.in_ B.X, ?_⟩
  refine wpAny_call (iteritems_call B hok hdep H (.tail _ h1) (.tail _ h2) (fun c hc => .tail _ (hro c hc)) (show A.depth + 1 + 80 < _ by omega) ?_)
  clear H; intro s g n gs own hr H
  refine spliced_none ?_
  refine list_gen B hh (show A.depth + 1 + 80 < _ by omega) (by decide) (fun c hc => ?_) (deeper_fs V FS) hn hr H ?_
  · rcases List.mem_cons.mp hc with rfl | hc
    · exact .tail _ h1
    · rcases List.mem_cons.mp hc with rfl | hc
      · exact .tail _ h2
      · exact .tail _ (hro c hc)
  · clear H; intro s l vals acc ht H
    refine hR s l vals acc ht ((H.mono ?_))
    exact .cons_cons _ (List.Sublist.append (List.Sublist.refl _) (List.sublist_cons_self _ _))
end Mine
end
section
open PySem PySem.W PySem.Calls PyProof.Rows
set_option Elab.async false
set_option maxRecDepth 100000
set_option maxHeartbeats 4000000
set_option linter.unusedVariables false
namespace Mine
local macro_rules | `(tactic| walk_at "m_fill") => `(tactic| ((have dummy : PySem.Challenge.rw_ez0279_01 = PySem.Challenge.rw_ez0279_01 ∧ hd.heap_39 = hd.heap_39 := by k_fill; exact ⟨rfl, rfl⟩); clear dummy))
local macro_rules | `(tactic| walk_at "m_facts") => `(tactic| (constructor <;> first | k_dflt k_is | decide +kernel))
theorem sl_fill_T19 : True := by walk_at "m_fill"; trivial
local macro_rules | `(tactic| walk_at "m_has") => `(tactic| with_reducible first | exact Has.head | (refine Has.tail ?_; walk_at "m_has") | (refine Has.of ?_; assumption) | assumption)
local macro_rules | `(tactic| walk_at "m_at") => `(tactic| with_reducible first | exact At.head | (refine At.tail ?_; walk_at "m_at"))
local macro_rules | `(tactic| walk_at "m_sub") => `(tactic| with_reducible first | exact Sub1.head | (apply Sub1.tail; walk_at "m_sub"))
local macro_rules | `(tactic| walk_at "m_put") => `(tactic| with_reducible first | exact PutAt.head | (apply PutAt.tail; walk_at "m_put"))
local macro_rules | `(tactic| walk_at "m_rem") => `(tactic| with_reducible first | exact Rem.head | (apply Rem.tail; walk_at "m_rem"))
local macro_rules | `(tactic| walk_at "m_pick") => `(tactic| with_reducible first | exact Pick.all | (apply Pick.take; (focus (walk_at "m_rem")); walk_at "m_pick") | (apply Pick.skip; walk_at "m_pick"))
local macro_rules | `(tactic| walk_at "m_room") => `(tactic| first | assumption | omega)
local macro_rules | `(tactic| walk_at "m_name") => `(tactic| refine nm (by assumption) (by assumption) (by walk_at "m_has") (by walk_at "m_at") (by decide) (by decide) ?_)
local macro_rules | `(tactic| walk_at "m_slotget") => `(tactic| (refine attr_slot (by assumption) (by first | exact sl_step _ | exact sl_node _ | exact sl_children _ | exact sl_value _) (by assumption) (by walk_at "m_has") (by exact rfl) (by walk_at "m_has") (by exact rfl) (by exact rfl) ?_))
local macro_rules | `(tactic| walk_at "m_store") => `(tactic| refine st_ (by assumption) (by assumption) (by decide) (by walk_at "m_sub") (by walk_at "m_put") ?_)
local macro_rules | `(tactic| walk_at "m_glob") => `(tactic| (refine glob (by assumption) (by assumption) (by assumption) (by decide) (by k_dflt k_is) (by decide) ?_))
variable {w : World} {A : Around} {E : Value → Shared → Prop} {b s : Shared} {cs cs' : List Cell} {R : Result → Shared → Prop} {env : Env} {pos : Pos}

local macro_rules | `(tactic| walk_at "m_bi") => `(tactic| (refine builtin (by assumption) (by assumption) (by assumption) (by decide) (by k_dflt k_is) (by boot_by_name) (by decide) (by decide) ?_))
theorem near_call {m : Nat} {t st : List Nat} {tk1 tk2 : Tok} {d : Cell} (B : Base (hd.heap_39 w.params) b) (H : St b s cs) (hdd : Has d cs) (hd1 : d.key.1 = true) (hh : A.handled = none) (hA : A.depth + 6 < recursionLimit) (ht : t.length = m) (hst : st.length = m) (hm : 0 < m) (hz : m ≤ 100)
  (hR : ∀ s' y u, NearL st t m y → St b s' cs → R (.ok (.ret (.str (tx [y]) u))) s') : codeAny (model prog w) A (.call (.ref 891) ⟨[.str (tx t) tk1, .str (tx st) tk2], []⟩) R s := by
  have hA0 : A.depth < recursionLimit := by omega
  refine enterC2 (K := (hd.heap_39 w.params)) (nk := [((PySem.Str.ofString "text"), .cell), ((PySem.Str.ofString "start"), .cell), ((PySem.Str.ofString "most"), .local), ((PySem.Str.ofString "max"), .globalImplicit), ((PySem.Str.ofString "range"), .globalImplicit), ((PySem.Str.ofString "len"), .globalImplicit)]) (binds := [((PySem.Str.ofString "text"), .str (tx t) tk1), ((PySem.Str.ofString "start"), .str (tx st) tk2)]) ⟨⟨_, _, _, by k_dflt k_is⟩, by k_dflt k_is, by exact rfl, by exact rfl, by exact rfl, by exact rfl, by exact rfl, by exact rfl⟩ (by exact rfl) [(PySem.Str.ofString "most")] [none] (fun L => [((PySem.Str.ofString "start"), L + 2), ((PySem.Str.ofString "text"), L + 1)]) (fun L => [.p (L + 2) (CellP (some (.str (tx st) tk2))), .p (L + 1) (CellP (some (.str (tx t) tk1)))]) (by assumption) (by assumption) (by walk_at "m_room") (by exact rfl) (by intro n; exact rfl) (by decide) (by exact rfl) (by exact rfl) (by exact rfl) (by intro n; exact (by decide : [(PySem.Str.ofString "start"), (PySem.Str.ofString "text")].Nodup)) (by intro L; exact rfl) (by intro L; exact rfl) ?_
  clear H; intro s L env V H
  have H : St b s (.f L [S "most"] [none] :: .p (L + 2) (CellP (some (.str (tx st) tk2))) :: .p (L + 1) (CellP (some (.str (tx t) tk1))) :: cs) := H
  refine wpAny_execs_cons (wpAny_Assign_Name (Call_ ?_))
  walk_at "m_bi"
  refine callWith_builtin1 (spliced_more ?_) rfl rfl
  refine comp_in (b := b) (ns := [S "k"]) (cl := [(S "text", L + 1), (S "start", L + 2)]) (by decide) rfl (closure_of V (by exact rfl)) (by decide) rfl (by decide) ?_
  refine Call_ ?_
  walk_at "m_bi"
  refine PyProof.Rows.callWith_type1 (spliced_more (Call_ ?_)) rfl rfl
  walk_at "m_bi"
  refine callWith_builtin1 (spliced_more ?_) rfl rfl
  refine nmC V H (by decide) (by exact rfl) (by walk_at "m_has") (by decide) ?_
  refine spliced_none (len_tx H (by omega) ?_)
  rw [hst]
  clear H; intro s u1 H
  refine spliced_none (range1_ H ?_)
  clear H; intro s r t0 u0 v0 H
  refine iterRange H .head (rsmall1 (by omega)) ?_
  clear H; intro s it H
  rw [rsize1] at H
  refine ⟨_, H, ⟨_, .head, rfl⟩, fun s D C H => ⟨fun H hq => selfRange H (by walk_at "m_has") hq, ?_⟩⟩
  generalize he : compEnvC _ _ C env = cenv
  have VK : EnvK cenv C [(S ".0", .local), (S "k", .local), (S "len", .globalImplicit), (S "start", .cell), (S "text", .cell)] [(S "text", L + 1), (S "start", L + 2)] := he ▸ EnvK.comp V.toK rfl (by exact rfl)
  clear he
  have H : St b s (.f C [S "k"] [none] :: .p D (lstP []) :: .o it (ritO 0 m 1) :: .o r (rngO 0 m 1 t0 u0 v0) :: .f L [S "most"] [none] :: .p (L + 2) (CellP (some (.str (tx st) tk2))) :: .p (L + 1) (CellP (some (.str (tx t) tk1))) :: cs) := H
  refine comp_loop1 m (fun i s => ∃ vs k0, IntsAre vs (((List.range i).filter fun j => decide (t.drop (m - j) = st.take j)).map fun (j : Nat) => (j : Int)) ∧ vs.length ≤ i ∧
    St b s (.f C [S "k"] [k0] :: .p D (lstP vs) :: .o it (ritO i ((m : Int) - i) 1) :: .o r (rngO 0 m 1 t0 u0 v0) :: .f L [S "most"] [none] :: .p (L + 2) (CellP (some (.str (tx st) tk2))) :: .p (L + 1) (CellP (some (.str (tx t) tk1))) :: cs)) ?_ ?_ ?_
  · clear H; rintro i s E' hi ⟨vs, k0, hv, hvl, H⟩
    refine nextRange H (by walk_at "m_sub") (by omega) ?_
    clear H; intro s tki H
    refine ⟨_, rfl, ?_⟩
    refine wpAny_assign_Name (stK VK H (by decide) (by walk_at "m_sub") (by walk_at "m_put") ?_)
    clear H; intro s H
    refine wpAny_isTrue_Compare1 (sub_from_ b ?_)
    refine nmCK VK H (by decide) (by exact rfl) (by walk_at "m_has") (by decide) ?_
    refine wpAny_BinOp (Call_ ?_)
    refine builtinK B VK H (by decide) (by k_dflt k_is) (by boot_by_name) (by decide) (by decide) ?_
    refine callWith_builtin1 (spliced_more ?_) rfl rfl
    refine nmCK VK H (by decide) (by exact rfl) (by walk_at "m_has") (by decide) ?_
    refine spliced_none (len_tx H (by omega) ?_)
    rw [ht]
    clear H; intro s u1 H
    refine nmK VK H (by walk_at "m_has") (by walk_at "m_at") (by decide) (by decide) ?_
    refine sub_n H ?_
    clear H; intro s u2 H
    refine ⟨_, _, _, _, m - i, _, _, rfl, rfl, H, .head, rfl, by omega, by omega, by omega, ?_⟩
    clear H; intro s t1 H
    refine sub_to_ b ?_
    refine nmCK VK H (by decide) (by exact rfl) (by walk_at "m_has") (by decide) ?_
    refine nmK VK H (by walk_at "m_has") (by walk_at "m_at") (by decide) (by decide) ?_
    refine ⟨_, _, _, _, i, _, _, rfl, rfl, H, .head, rfl, by omega, rfl, by omega, ?_⟩
    clear H; intro s t2 H
    refine eq_tx (wpAny_truthy_bool ?_)
    rw [show ((i : Int) + 1) = ((i + 1 : Nat) : Int) from by omega, show ((m : Int) - i - 1) = (m : Int) - ((i + 1 : Nat) : Int) from by omega] at H
    have hr : List.range (i + 1) = List.range i ++ [i] := List.range_succ
    by_cases hp : t.drop (m - i) = st.take i
    · rw [if_pos (by simpa using hp)]
      refine nmK VK H (by walk_at "m_has") (by walk_at "m_at") (by decide) (by decide) ?_
      refine lstP_append H (by walk_at "m_sub") (by omega) ?_
      clear H; intro s H
      refine ⟨_, _, ?_, ?_, H⟩
      · rw [hr, List.filter_append, List.filter_cons_of_pos (by simpa using hp), List.filter_nil, List.map_append]
        exact hv.append (.cons _ _ .nil)
      · rw [List.length_append]; simpa using hvl
    · rw [if_neg (by simpa using hp)]
      refine ⟨_, _, ?_, Nat.le_succ_of_le hvl, H⟩
      rw [hr, List.filter_append, List.filter_cons_of_neg (by simpa using hp), List.filter_nil, List.append_nil]
      exact hv
  · clear H; rintro s E' ⟨vs, k0, hv, hvl, H⟩
    refine endRange (d := .f C [S "k"] [k0]) hh (H.pick (r := .o it _ :: .f C [S "k"] [k0] :: .p D (lstP vs) :: .o r (rngO 0 m 1 t0 u0 v0) :: .f L [S "most"] [none] :: .p (L + 2) (CellP (some (.str (tx st) tk2))) :: .p (L + 1) (CellP (some (.str (tx t) tk1))) :: cs) (by walk_at "m_pick")) .head rfl (by omega) ?_
    clear H; intro s H
    refine ⟨rfl, _, rfl, _, _, H, ?_⟩
    clear H; intro s H
    refine spliced_none (max_ hh H (by walk_at "m_has") (d := .p D (lstP vs)) .head rfl hv ?_ ?_)
    · rw [List.length_map]
      refine List.length_pos_of_mem (a := 0) (List.mem_filter.mpr ⟨List.mem_range.mpr hm, ?_⟩)
      simp [← ht]
    clear H; intro s M tM H hM hmax
    obtain ⟨k, hk, rfl⟩ := List.mem_map.mp hM
    obtain ⟨hk, hp⟩ := List.mem_filter.mp hk
    have hk := List.mem_range.mp hk
    have hp := of_decide_eq_true hp
    have H : St b s (.f L [S "most"] [none] :: .p (L + 2) (CellP (some (.str (tx st) tk2))) :: .p (L + 1) (CellP (some (.str (tx t) tk1))) :: cs) := H.pick (by walk_at "m_pick")
    refine st_ V H (by decide) (by walk_at "m_sub") (by walk_at "m_put") ?_
    clear H; intro s H
    refine wpAny_execs_cons (wpAny_Return_some (Subscript_ ?_))
    refine nmC V H (by decide) (by exact rfl) (by walk_at "m_has") (by decide) ?_
    walk_at "m_name"
    have hks : k < st.length := by omega
    refine at_tx H rfl (List.getElem?_eq_getElem hks) (by omega) ?_
    clear H; intro s u H
    refine hR _ _ _ ⟨k, hk, fun j hj e => ?_, hp, List.getElem?_eq_getElem hks⟩ (H.pick (by walk_at "m_pick"))
    have := hmax (j : Int) (List.mem_map.mpr ⟨j, List.mem_filter.mpr ⟨List.mem_range.mpr hj, by simpa using e⟩, rfl⟩)
    omega
  · exact ⟨[], none, .nil, Nat.le_refl _, by simpa using H⟩
end Mine
end
section
open PySem PySem.W PySem.Calls PyProof.Rows
set_option Elab.async false
set_option maxRecDepth 100000
set_option maxHeartbeats 4000000
set_option linter.unusedVariables false
namespace Mine
local macro_rules | `(tactic| walk_at "m_fill") => `(tactic| ((have dummy : PySem.Challenge.rw_ez0279_01 = PySem.Challenge.rw_ez0279_01 ∧ hd.heap_39 = hd.heap_39 := by k_fill; exact ⟨rfl, rfl⟩); clear dummy))
local macro_rules | `(tactic| walk_at "m_facts") => `(tactic| (constructor <;> first | k_dflt k_is | decide +kernel))
theorem sl_fill_T20 : True := by walk_at "m_fill"; trivial
local macro_rules | `(tactic| walk_at "m_has") => `(tactic| with_reducible first | exact Has.head | (refine Has.tail ?_; walk_at "m_has") | (refine Has.of ?_; assumption) | assumption)
local macro_rules | `(tactic| walk_at "m_at") => `(tactic| with_reducible first | exact At.head | (refine At.tail ?_; walk_at "m_at"))
local macro_rules | `(tactic| walk_at "m_sub") => `(tactic| with_reducible first | exact Sub1.head | (apply Sub1.tail; walk_at "m_sub"))
local macro_rules | `(tactic| walk_at "m_put") => `(tactic| with_reducible first | exact PutAt.head | (apply PutAt.tail; walk_at "m_put"))
local macro_rules | `(tactic| walk_at "m_rem") => `(tactic| with_reducible first | exact Rem.head | (apply Rem.tail; walk_at "m_rem"))
local macro_rules | `(tactic| walk_at "m_pick") => `(tactic| with_reducible first | exact Pick.all | (apply Pick.take; (focus (walk_at "m_rem")); walk_at "m_pick") | (apply Pick.skip; walk_at "m_pick"))
local macro_rules | `(tactic| walk_at "m_room") => `(tactic| first | assumption | omega)
local macro_rules | `(tactic| walk_at "m_name") => `(tactic| refine nm (by assumption) (by assumption) (by walk_at "m_has") (by walk_at "m_at") (by decide) (by decide) ?_)
local macro_rules | `(tactic| walk_at "m_slotget") => `(tactic| (refine attr_slot (by assumption) (by first | exact sl_step _ | exact sl_node _ | exact sl_children _ | exact sl_value _) (by assumption) (by walk_at "m_has") (by exact rfl) (by walk_at "m_has") (by exact rfl) (by exact rfl) ?_))
local macro_rules | `(tactic| walk_at "m_store") => `(tactic| refine st_ (by assumption) (by assumption) (by decide) (by walk_at "m_sub") (by walk_at "m_put") ?_)
local macro_rules | `(tactic| walk_at "m_glob") => `(tactic| (refine glob (by assumption) (by assumption) (by assumption) (by decide) (by k_dflt k_is) (by decide) ?_))
variable {w : World} {A : Around} {E : Value → Shared → Prop} {b s : Shared} {cs cs' : List Cell} {R : Result → Shared → Prop} {env : Env} {pos : Pos}

local macro_rules | `(tactic| walk_at "m_bi") => `(tactic| (refine builtin (by assumption) (by assumption) (by assumption) (by decide) (by k_dflt k_is) (by boot_by_name) (by decide) (by decide) ?_))
local macro_rules | `(tactic| walk_at "m_cell") => `(tactic| refine nmC (by assumption) (by assumption) (by decide) (by exact rfl) (by walk_at "m_has") (by decide) ?_)
abbrev lawNk : List (Str × NameKind) := [((PySem.Str.ofString "script"), .local), ((PySem.Str.ofString "rest"), .local), ((PySem.Str.ofString "cells"), .cell), ((PySem.Str.ofString "kinds"), .cell), ((PySem.Str.ofString "size"), .cell), ((PySem.Str.ofString "letters"), .cell), ((PySem.Str.ofString "start"), .local), ((PySem.Str.ofString "text"), .cell), ((PySem.Str.ofString "trie"), .cell), ((PySem.Str.ofString "orders"), .local), ((PySem.Str.ofString "turn"), .local), ((PySem.Str.ofString "end"), .cell), ((PySem.Str.ofString "digits"), .local), ((PySem.Str.ofString "pool"), .local), ((PySem.Str.ofString "order"), .local), ((PySem.Str.ofString "many"), .local), ((PySem.Str.ofString "last"), .cell), ((PySem.Str.ofString "fresh"), .local), ((PySem.Str.ofString "told"), .local), ((PySem.Str.ofString "len"), .globalImplicit), ((PySem.Str.ofString "range"), .globalImplicit), ((PySem.Str.ofString "CharTrie"), .globalImplicit), ((PySem.Str.ofString "list"), .globalImplicit), ((PySem.Str.ofString "_law_nearest"), .globalImplicit)]
abbrev lawCl (L : Addr) : List (Str × Addr) := [((PySem.Str.ofString "last"), L + 8), ((PySem.Str.ofString "end"), L + 7), ((PySem.Str.ofString "trie"), L + 6), ((PySem.Str.ofString "text"), L + 5), ((PySem.Str.ofString "letters"), L + 4), ((PySem.Str.ofString "size"), L + 3), ((PySem.Str.ofString "kinds"), L + 2), ((PySem.Str.ofString "cells"), L + 1)]
theorem seg1 {L : Addr} {fd : FuncData} {body : List Stmt} {sc : Addr} {vs : List Value} {ws : List Int} {Q : Flow → Shared → Prop} (Fn : FnAt (hd.heap_39 w.params) 896 fd body) (V : EnvIs env L lawNk (lawCl L)) (B : Base (hd.heap_39 w.params) b) (hl : b.heap.IsList sc vs.toArray) (hi : IntsAre vs ws) (hn : ws.length ≤ 63) (hh : A.handled = none)
  (H : St b s (.f L [(PySem.Str.ofString "script"), (PySem.Str.ofString "rest"), (PySem.Str.ofString "start"), (PySem.Str.ofString "orders"), (PySem.Str.ofString "turn"), (PySem.Str.ofString "digits"), (PySem.Str.ofString "pool"), (PySem.Str.ofString "order"), (PySem.Str.ofString "many"), (PySem.Str.ofString "fresh"), (PySem.Str.ofString "told")] [some (.ref sc), none, none, none, none, none, none, none, none, none, none] :: .p (L + 8) (CellP (none)) :: .p (L + 7) (CellP (none)) :: .p (L + 6) (CellP (none)) :: .p (L + 5) (CellP (none)) :: .p (L + 4) (CellP (none)) :: .p (L + 3) (CellP (none)) :: .p (L + 2) (CellP (none)) :: .p (L + 1) (CellP (none)) :: cs))
  (h : ∀ s' rs cl cvs cz, IntsAre cvs cz → cvs.length = 7 → (∀ z ∈ cz, 0 ≤ z) → St b s' (.p cl (lstP cvs) :: .f L [(PySem.Str.ofString "script"), (PySem.Str.ofString "rest"), (PySem.Str.ofString "start"), (PySem.Str.ofString "orders"), (PySem.Str.ofString "turn"), (PySem.Str.ofString "digits"), (PySem.Str.ofString "pool"), (PySem.Str.ofString "order"), (PySem.Str.ofString "many"), (PySem.Str.ofString "fresh"), (PySem.Str.ofString "told")] [some (.ref sc), some (.ref rs), none, none, none, none, none, none, none, none, none] :: .p (L + 8) (CellP (none)) :: .p (L + 7) (CellP (none)) :: .p (L + 6) (CellP (none)) :: .p (L + 5) (CellP (none)) :: .p (L + 4) (CellP (none)) :: .p (L + 3) (CellP (none)) :: .p (L + 2) (CellP (none)) :: .p (L + 1) (CellP (some (.ref cl))) :: cs) →
    wpAny (model prog w) A (execs (nav [2] body) env) Q E s') : wpAny (model prog w) A (execs (nav [0] body) env) Q E s := by
  have e := Fn.body_eq (K := (hd.heap_39 w.params)) ⟨⟨_, _, _, by k_dflt k_is⟩, by k_dflt k_is, by exact rfl, by exact rfl, by exact rfl, by exact rfl, by exact rfl, by exact rfl⟩
  subst e
  have hn' := IntsAre.len hi
  dsimp only [nav, List.drop] at h ⊢
  -- rest
  refine wpAny_execs_cons (wpAny_Assign_Name (list_ (b := b) ?_))
  refine spliced_more (kInt H ?_); clear H; intro s r1 H
  refine spliced_more (kInt H ?_); clear H; intro s r2 H
  refine spliced_more (kInt H ?_); clear H; intro s r3 H
  refine spliced_more (kInt H ?_); clear H; intro s r4 H
  refine spliced_more (kInt H ?_); clear H; intro s r5 H
  refine spliced_more (kInt H ?_); clear H; intro s r6 H
  refine spliced_more (kInt H ?_); clear H; intro s r7 H
  refine spliced_none ⟨by simp, _, H, ?_⟩
  clear H; intro s rs H
  walk_at "m_store"
  clear H; intro s H
  have hrs : IntsAre [.int 4 r1, .int 70 r2, .int 41 r3, .int 22222 r4, .int 800001 r5, .int 77 r6, .int 1234 r7] [4, 70, 41, 22222, 800001, 77, 1234] := .cons _ _ (.cons _ _ (.cons _ _ (.cons _ _ (.cons _ _ (.cons _ _ (.cons _ _ .nil))))))
  revert H hrs
  generalize hrv : ([.int 4 r1, .int 70 r2, .int 41 r3, .int 22222 r4, .int 800001 r5, .int 77 r6, .int 1234 r7] : List Value) = rv
  intro H hrs
  have hrl : rv.length = 7 := by rw [← hrv]; rfl
  clear hrv r1 r2 r3 r4 r5 r6 r7
  -- cells
  have hd0 : ∀ z : Int, 0 ≤ z.fmod 1000000 := fun z => Int.fmod_nonneg_of_pos _ (by decide)
  refine wpAny_execs_cons (wpAny_Assign_Name (wpAny_BinOp ?_))
  refine comp_in (b := b) (ns := [S "cell"]) (cl := []) (by decide) rfl (closure_of V (by exact rfl)) (by decide) rfl (by decide) ?_
  refine lsub_to (b := b) ?_
  walk_at "m_name"
  refine kInt H ?_
  clear H; intro s u1 H
  refine ⟨_, _, _, _, 7, _, rfl, (let ⟨o, ho, r⟩ := hl; ⟨o, H.keep _ _ ho, r⟩), rfl, H, by omega, rfl, ?_⟩
  clear H; intro s l1 H
  have hx1 : IntsAre (vs.take 7) (ws.take 7) := IntsAre.take hi 7
  have hx2 : (ws.take 7).length ≤ 7 := by rw [List.length_take]; omega
  have hx3 := IntsAre.len hx1
  generalize vs.take 7 = xs at H hx1 hx3
  generalize hws : ws.take 7 = zs at hx1 hx2 hx3
  refine iterList H .head ?_
  clear H; intro s it H
  refine ⟨_, H, ⟨_, .head, rfl⟩, fun s D C H => ⟨fun H hq => selfList H (by walk_at "m_has") hq, ?_⟩⟩
  generalize he : compEnvC _ _ C env = cenv
  have VK : EnvK cenv C [(S ".0", .local), (S "cell", .local)] [] := he ▸ EnvK.comp V.toK rfl (by exact rfl)
  clear he
  have H : St b s (.f C [S "cell"] [none] :: .p D (lstP []) :: .p it (LIter l1 0) :: .p l1 (lstP xs) :: .p rs (lstP rv) :: .f L [(PySem.Str.ofString "script"), (PySem.Str.ofString "rest"), (PySem.Str.ofString "start"), (PySem.Str.ofString "orders"), (PySem.Str.ofString "turn"), (PySem.Str.ofString "digits"), (PySem.Str.ofString "pool"), (PySem.Str.ofString "order"), (PySem.Str.ofString "many"), (PySem.Str.ofString "fresh"), (PySem.Str.ofString "told")] [some (.ref sc), some (.ref rs), none, none, none, none, none, none, none, none, none] :: .p (L + 8) (CellP (none)) :: .p (L + 7) (CellP (none)) :: .p (L + 6) (CellP (none)) :: .p (L + 5) (CellP (none)) :: .p (L + 4) (CellP (none)) :: .p (L + 3) (CellP (none)) :: .p (L + 2) (CellP (none)) :: .p (L + 1) (CellP (none)) :: cs) := H
  refine comp_loop0 zs.length (fun i s => ∃ us k0, IntsAre us ((zs.take i).map fun z => z.fmod 1000000) ∧ St b s (.f C [S "cell"] [k0] :: .p D (lstP us) :: .p it (LIter l1 i) :: .p l1 (lstP xs) :: .p rs (lstP rv) :: .f L [(PySem.Str.ofString "script"), (PySem.Str.ofString "rest"), (PySem.Str.ofString "start"), (PySem.Str.ofString "orders"), (PySem.Str.ofString "turn"), (PySem.Str.ofString "digits"), (PySem.Str.ofString "pool"), (PySem.Str.ofString "order"), (PySem.Str.ofString "many"), (PySem.Str.ofString "fresh"), (PySem.Str.ofString "told")] [some (.ref sc), some (.ref rs), none, none, none, none, none, none, none, none, none] :: .p (L + 8) (CellP (none)) :: .p (L + 7) (CellP (none)) :: .p (L + 6) (CellP (none)) :: .p (L + 5) (CellP (none)) :: .p (L + 4) (CellP (none)) :: .p (L + 3) (CellP (none)) :: .p (L + 2) (CellP (none)) :: .p (L + 1) (CellP (none)) :: cs)) ?_ ?_ ⟨[], none, .nil, H⟩
  · clear H; rintro i s E' hi ⟨us, k0, hv, H⟩
    obtain ⟨ti, hti⟩ := IntsAre.at_ hx1 (List.getElem?_eq_getElem hi)
    refine nextList H (by walk_at "m_has") (by walk_at "m_sub") hti ?_
    clear H; intro s H
    refine ⟨_, rfl, wpAny_assign_Name (stK VK H (by decide) (by walk_at "m_sub") (by walk_at "m_put") ?_)⟩
    clear H; intro s H
    refine wpAny_BinOp (nmK VK H (by walk_at "m_has") (by walk_at "m_at") (by decide) (by decide) ?_)
    refine kInt H ?_
    clear H; intro s u2 H
    refine mod_n H (by decide) ?_
    clear H; intro s u3 H
    have hul := IntsAre.len hv
    rw [List.length_map, List.length_take] at hul
    refine lstP_append H (by walk_at "m_sub") (by omega) ?_
    clear H; intro s H
    refine ⟨_, _, ?_, H⟩
    rw [List.take_succ_eq_append_getElem hi, List.map_append]
    exact hv.append (.cons _ _ .nil)
  · clear H; rintro s E' ⟨us, k0, hv, H⟩
    rw [List.take_length] at hv
    refine endList hh (H.pick (r := .p it (LIter l1 zs.length) :: .f C [S "cell"] [k0] :: .p D (lstP us) :: .p l1 (lstP xs) :: .p rs (lstP rv) :: .f L [(PySem.Str.ofString "script"), (PySem.Str.ofString "rest"), (PySem.Str.ofString "start"), (PySem.Str.ofString "orders"), (PySem.Str.ofString "turn"), (PySem.Str.ofString "digits"), (PySem.Str.ofString "pool"), (PySem.Str.ofString "order"), (PySem.Str.ofString "many"), (PySem.Str.ofString "fresh"), (PySem.Str.ofString "told")] [some (.ref sc), some (.ref rs), none, none, none, none, none, none, none, none, none] :: .p (L + 8) (CellP (none)) :: .p (L + 7) (CellP (none)) :: .p (L + 6) (CellP (none)) :: .p (L + 5) (CellP (none)) :: .p (L + 4) (CellP (none)) :: .p (L + 3) (CellP (none)) :: .p (L + 2) (CellP (none)) :: .p (L + 1) (CellP (none)) :: cs) (by walk_at "m_pick")) (by walk_at "m_has") (List.getElem?_eq_none (by omega)) ?_
    clear H; intro s H
    refine ⟨rfl, _, rfl, _, _, H, ?_⟩
    clear H; intro s H
    have H : St b s (.p D (lstP us) :: .p rs (lstP rv) :: .f L [(PySem.Str.ofString "script"), (PySem.Str.ofString "rest"), (PySem.Str.ofString "start"), (PySem.Str.ofString "orders"), (PySem.Str.ofString "turn"), (PySem.Str.ofString "digits"), (PySem.Str.ofString "pool"), (PySem.Str.ofString "order"), (PySem.Str.ofString "many"), (PySem.Str.ofString "fresh"), (PySem.Str.ofString "told")] [some (.ref sc), some (.ref rs), none, none, none, none, none, none, none, none, none] :: .p (L + 8) (CellP (none)) :: .p (L + 7) (CellP (none)) :: .p (L + 6) (CellP (none)) :: .p (L + 5) (CellP (none)) :: .p (L + 4) (CellP (none)) :: .p (L + 3) (CellP (none)) :: .p (L + 2) (CellP (none)) :: .p (L + 1) (CellP (none)) :: cs) := H.pick (by walk_at "m_pick")
    refine lsub_from (b := b) ?_
    walk_at "m_name"
    refine Call_ ?_
    walk_at "m_bi"
    refine callWith_builtin1 (spliced_more (lsub_to (b := b) ?_)) rfl rfl
    walk_at "m_name"
    refine kInt H ?_
    clear H; intro s u1 H
    refine ⟨_, _, _, _, 7, _, rfl, (let ⟨o, ho, r⟩ := hl; ⟨o, H.keep _ _ ho, r⟩), rfl, H, by omega, rfl, ?_⟩
    clear H; intro s l2 H
    have hl2 : (vs.take 7).length = zs.length := by rw [← hws, List.length_take, List.length_take]; omega
    refine spliced_none (len_lst H .head (by omega) ?_)
    rw [hl2]
    clear H; intro s u4 H
    refine ⟨_, _, _, _, zs.length, _, rfl, H.list (by walk_at "m_has"), rfl, H, by omega, rfl, ?_⟩
    clear H; intro s l3 H
    have hul := IntsAre.len hv
    rw [List.length_map] at hul
    refine add_list_ H (by walk_at "m_has") (by walk_at "m_has") (by rw [List.length_drop]; omega) ?_
    clear H; intro s cl H
    have hcl := hv.append (IntsAre.drop hrs zs.length)
    have hclen : (us ++ rv.drop zs.length).length = 7 := by rw [List.length_append, List.length_drop]; omega
    have hpos : ∀ z ∈ ((zs.map fun z => z.fmod 1000000) ++ List.drop zs.length [4, 70, 41, 22222, 800001, 77, 1234] : List Int), 0 ≤ z := by
      intro z hz
      rcases List.mem_append.mp hz with h | h
      · obtain ⟨y, _, rfl⟩ := List.mem_map.mp h; exact hd0 y
      · have := List.mem_of_mem_drop h
        clear h hz; simp at this; omega
    generalize us ++ rv.drop zs.length = cvs at H hcl hclen
    generalize ((zs.map fun z => z.fmod 1000000) ++ List.drop zs.length [4, 70, 41, 22222, 800001, 77, 1234] : List Int) = cz at hcl hpos
    refine stC V H (by decide) (by exact rfl) (by walk_at "m_sub") ?_
    clear H; intro s H
    have H : St b s (.p cl (lstP cvs) :: .f L [(PySem.Str.ofString "script"), (PySem.Str.ofString "rest"), (PySem.Str.ofString "start"), (PySem.Str.ofString "orders"), (PySem.Str.ofString "turn"), (PySem.Str.ofString "digits"), (PySem.Str.ofString "pool"), (PySem.Str.ofString "order"), (PySem.Str.ofString "many"), (PySem.Str.ofString "fresh"), (PySem.Str.ofString "told")] [some (.ref sc), some (.ref rs), none, none, none, none, none, none, none, none, none] :: .p (L + 8) (CellP (none)) :: .p (L + 7) (CellP (none)) :: .p (L + 6) (CellP (none)) :: .p (L + 5) (CellP (none)) :: .p (L + 4) (CellP (none)) :: .p (L + 3) (CellP (none)) :: .p (L + 2) (CellP (none)) :: .p (L + 1) (CellP (some (.ref cl))) :: cs) := H.pick (by walk_at "m_pick")
    clear hv hul hl2 hws hx1 hx2 hx3 hrs hrl
    exact @h _ _ _ _ _ hcl hclen hpos H
end Mine
end
section
open PySem PySem.W PySem.Calls PyProof.Rows
set_option Elab.async false
set_option maxRecDepth 100000
set_option maxHeartbeats 4000000
set_option linter.unusedVariables false
namespace Mine
local macro_rules | `(tactic| walk_at "m_fill") => `(tactic| ((have dummy : PySem.Challenge.rw_ez0279_01 = PySem.Challenge.rw_ez0279_01 ∧ hd.heap_39 = hd.heap_39 := by k_fill; exact ⟨rfl, rfl⟩); clear dummy))
local macro_rules | `(tactic| walk_at "m_facts") => `(tactic| (constructor <;> first | k_dflt k_is | decide +kernel))
theorem sl_fill_T21 : True := by walk_at "m_fill"; trivial
local macro_rules | `(tactic| walk_at "m_has") => `(tactic| with_reducible first | exact Has.head | (refine Has.tail ?_; walk_at "m_has") | (refine Has.of ?_; assumption) | assumption)
local macro_rules | `(tactic| walk_at "m_at") => `(tactic| with_reducible first | exact At.head | (refine At.tail ?_; walk_at "m_at"))
local macro_rules | `(tactic| walk_at "m_sub") => `(tactic| with_reducible first | exact Sub1.head | (apply Sub1.tail; walk_at "m_sub"))
local macro_rules | `(tactic| walk_at "m_put") => `(tactic| with_reducible first | exact PutAt.head | (apply PutAt.tail; walk_at "m_put"))
local macro_rules | `(tactic| walk_at "m_rem") => `(tactic| with_reducible first | exact Rem.head | (apply Rem.tail; walk_at "m_rem"))
local macro_rules | `(tactic| walk_at "m_pick") => `(tactic| with_reducible first | exact Pick.all | (apply Pick.take; (focus (walk_at "m_rem")); walk_at "m_pick") | (apply Pick.skip; walk_at "m_pick"))
local macro_rules | `(tactic| walk_at "m_room") => `(tactic| first | assumption | omega)
local macro_rules | `(tactic| walk_at "m_name") => `(tactic| refine nm (by assumption) (by assumption) (by walk_at "m_has") (by walk_at "m_at") (by decide) (by decide) ?_)
local macro_rules | `(tactic| walk_at "m_slotget") => `(tactic| (refine attr_slot (by assumption) (by first | exact sl_step _ | exact sl_node _ | exact sl_children _ | exact sl_value _) (by assumption) (by walk_at "m_has") (by exact rfl) (by walk_at "m_has") (by exact rfl) (by exact rfl) ?_))
local macro_rules | `(tactic| walk_at "m_store") => `(tactic| refine st_ (by assumption) (by assumption) (by decide) (by walk_at "m_sub") (by walk_at "m_put") ?_)
local macro_rules | `(tactic| walk_at "m_glob") => `(tactic| (refine glob (by assumption) (by assumption) (by assumption) (by decide) (by k_dflt k_is) (by decide) ?_))
variable {w : World} {A : Around} {E : Value → Shared → Prop} {b s : Shared} {cs cs' : List Cell} {R : Result → Shared → Prop} {env : Env} {pos : Pos}

local macro_rules | `(tactic| walk_at "m_bi") => `(tactic| (refine builtin (by assumption) (by assumption) (by assumption) (by decide) (by k_dflt k_is) (by boot_by_name) (by decide) (by decide) ?_))
local macro_rules | `(tactic| walk_at "m_cell") => `(tactic| refine nmC (by assumption) (by assumption) (by decide) (by exact rfl) (by walk_at "m_has") (by decide) ?_)
theorem seg2 {L : Addr} {fd : FuncData} {body : List Stmt} {sc rs cl : Addr} {cvs : List Value} {cz : List Int} {Q : Flow → Shared → Prop} (Fn : FnAt (hd.heap_39 w.params) 896 fd body) (V : EnvIs env L lawNk (lawCl L)) (B : Base (hd.heap_39 w.params) b) (hh : A.handled = none)
  (hcl : IntsAre cvs cz) (hclen : cvs.length = 7) (hpos : ∀ z ∈ cz, 0 ≤ z) (H : St b s (.p cl (lstP cvs) :: .f L [(PySem.Str.ofString "script"), (PySem.Str.ofString "rest"), (PySem.Str.ofString "start"), (PySem.Str.ofString "orders"), (PySem.Str.ofString "turn"), (PySem.Str.ofString "digits"), (PySem.Str.ofString "pool"), (PySem.Str.ofString "order"), (PySem.Str.ofString "many"), (PySem.Str.ofString "fresh"), (PySem.Str.ofString "told")] [some (.ref sc), some (.ref rs), none, none, none, none, none, none, none, none, none] :: .p (L + 8) (CellP (none)) :: .p (L + 7) (CellP (none)) :: .p (L + 6) (CellP (none)) :: .p (L + 5) (CellP (none)) :: .p (L + 4) (CellP (none)) :: .p (L + 3) (CellP (none)) :: .p (L + 2) (CellP (none)) :: .p (L + 1) (CellP (some (.ref cl))) :: cs))
  (h : ∀ s' (k sz : Nat) q1 q2, 2 ≤ k → k ≤ 4 → 2 ≤ sz → sz ≤ 4 → k ^ sz ≤ 27 → St b s' (.p cl (lstP cvs) :: .f L [(PySem.Str.ofString "script"), (PySem.Str.ofString "rest"), (PySem.Str.ofString "start"), (PySem.Str.ofString "orders"), (PySem.Str.ofString "turn"), (PySem.Str.ofString "digits"), (PySem.Str.ofString "pool"), (PySem.Str.ofString "order"), (PySem.Str.ofString "many"), (PySem.Str.ofString "fresh"), (PySem.Str.ofString "told")] [some (.ref sc), some (.ref rs), none, none, none, none, none, none, none, none, none] :: .p (L + 8) (CellP (none)) :: .p (L + 7) (CellP (none)) :: .p (L + 6) (CellP (none)) :: .p (L + 5) (CellP (none)) :: .p (L + 4) (CellP (none)) :: .p (L + 3) (CellP (some (.int sz q2))) :: .p (L + 2) (CellP (some (.int k q1))) :: .p (L + 1) (CellP (some (.ref cl))) :: cs) →
    wpAny (model prog w) A (execs (nav [3] body) env) Q E s') : wpAny (model prog w) A (execs (nav [2] body) env) Q E s := by
  have e := Fn.body_eq (K := (hd.heap_39 w.params)) ⟨⟨_, _, _, by k_dflt k_is⟩, by k_dflt k_is, by exact rfl, by exact rfl, by exact rfl, by exact rfl, by exact rfl, by exact rfl⟩
  subst e
  dsimp only [nav, List.drop] at h ⊢
  -- kinds, size
  have key : ∃ z0 t0, cvs[0]? = some (.int z0 t0) ∧ 0 ≤ z0 := by
    have hc0 : 0 < cz.length := by have := IntsAre.len hcl; omega
    obtain ⟨t0, e⟩ := IntsAre.at_ hcl (List.getElem?_eq_getElem hc0)
    exact ⟨_, t0, e, hpos _ (List.getElem_mem hc0)⟩
  obtain ⟨z0, t0, hz0, hz0p⟩ := key
  refine wpAny_execs_cons ?_
  refine Assign_Tuple ?_
  refine Subscript_ ?_
  refine list_ (b := b) ?_
  refine spliced_more ?_; refine tuple_ (b := b) ?_; refine spliced_more ?_; refine kInt H ?_; clear H; intro s a1 H; refine spliced_more ?_; refine kInt H ?_; clear H; intro s c1 H; refine spliced_none ⟨by simp, _, H, ?_⟩; clear H; intro s p1 H
  refine spliced_more ?_; refine tuple_ (b := b) ?_; refine spliced_more ?_; refine kInt H ?_; clear H; intro s a2 H; refine spliced_more ?_; refine kInt H ?_; clear H; intro s c2 H; refine spliced_none ⟨by simp, _, H, ?_⟩; clear H; intro s p2 H
  refine spliced_more ?_; refine tuple_ (b := b) ?_; refine spliced_more ?_; refine kInt H ?_; clear H; intro s a3 H; refine spliced_more ?_; refine kInt H ?_; clear H; intro s c3 H; refine spliced_none ⟨by simp, _, H, ?_⟩; clear H; intro s p3 H
  refine spliced_more ?_; refine tuple_ (b := b) ?_; refine spliced_more ?_; refine kInt H ?_; clear H; intro s a4 H; refine spliced_more ?_; refine kInt H ?_; clear H; intro s c4 H; refine spliced_none ⟨by simp, _, H, ?_⟩; clear H; intro s p4 H
  refine spliced_more ?_; refine tuple_ (b := b) ?_; refine spliced_more ?_; refine kInt H ?_; clear H; intro s a5 H; refine spliced_more ?_; refine kInt H ?_; clear H; intro s c5 H; refine spliced_none ⟨by simp, _, H, ?_⟩; clear H; intro s p5 H
  refine spliced_more ?_; refine tuple_ (b := b) ?_; refine spliced_more ?_; refine kInt H ?_; clear H; intro s a6 H; refine spliced_more ?_; refine kInt H ?_; clear H; intro s c6 H; refine spliced_none ⟨by simp, _, H, ?_⟩; clear H; intro s p6 H
  refine spliced_none ⟨by simp, _, H, ?_⟩
  clear H; intro s ll H
  refine wpAny_BinOp ?_
  refine Subscript_ ?_
  walk_at "m_cell"
  refine kInt H ?_
  clear H; intro s u1 H
  refine atl_ H (by walk_at "m_has") (k := 0) rfl hz0 (by decide) ?_
  refine kInt H ?_
  clear H; intro s u2 H
  refine mod_n H (by decide) ?_
  clear H; intro s u3 H
  have key : ∃ (j : Nat) (tp : Addr) (k sz : Nat) (q1 q2 : Tok), z0.fmod 6 = (j : Int) ∧ ([.ref p1, .ref p2, .ref p3, .ref p4, .ref p5, .ref p6] : List Value)[j]? = some (.ref tp) ∧ j < 1000 ∧ St b s (.o tp (tupObj #[.int k q1, .int sz q2]) :: .p cl (lstP cvs) :: .f L [(PySem.Str.ofString "script"), (PySem.Str.ofString "rest"), (PySem.Str.ofString "start"), (PySem.Str.ofString "orders"), (PySem.Str.ofString "turn"), (PySem.Str.ofString "digits"), (PySem.Str.ofString "pool"), (PySem.Str.ofString "order"), (PySem.Str.ofString "many"), (PySem.Str.ofString "fresh"), (PySem.Str.ofString "told")] [some (.ref sc), some (.ref rs), none, none, none, none, none, none, none, none, none] :: .p (L + 8) (CellP (none)) :: .p (L + 7) (CellP (none)) :: .p (L + 6) (CellP (none)) :: .p (L + 5) (CellP (none)) :: .p (L + 4) (CellP (none)) :: .p (L + 3) (CellP (none)) :: .p (L + 2) (CellP (none)) :: .p (L + 1) (CellP (some (.ref cl))) :: cs) ∧
      2 ≤ k ∧ k ≤ 4 ∧ 2 ≤ sz ∧ sz ≤ 4 ∧ k ^ sz ≤ 27 := by
    have h1 : 0 ≤ z0.fmod 6 := Int.fmod_nonneg_of_pos _ (by decide)
    have h2 : z0.fmod 6 < 6 := Int.fmod_lt_of_pos _ (by decide)
    have h3 : z0.fmod 6 = 0 ∨ z0.fmod 6 = 1 ∨ z0.fmod 6 = 2 ∨ z0.fmod 6 = 3 ∨ z0.fmod 6 = 4 ∨ z0.fmod 6 = 5 := by omega
    rcases h3 with h | h | h | h | h | h
    · exact ⟨0, p1, 2, 2, a1, c1, h, rfl, by decide, H.pick (r := .o p1 (tupObj #[.int 2 a1, .int 2 c1]) :: .p cl (lstP cvs) :: .f L [(PySem.Str.ofString "script"), (PySem.Str.ofString "rest"), (PySem.Str.ofString "start"), (PySem.Str.ofString "orders"), (PySem.Str.ofString "turn"), (PySem.Str.ofString "digits"), (PySem.Str.ofString "pool"), (PySem.Str.ofString "order"), (PySem.Str.ofString "many"), (PySem.Str.ofString "fresh"), (PySem.Str.ofString "told")] [some (.ref sc), some (.ref rs), none, none, none, none, none, none, none, none, none] :: .p (L + 8) (CellP (none)) :: .p (L + 7) (CellP (none)) :: .p (L + 6) (CellP (none)) :: .p (L + 5) (CellP (none)) :: .p (L + 4) (CellP (none)) :: .p (L + 3) (CellP (none)) :: .p (L + 2) (CellP (none)) :: .p (L + 1) (CellP (some (.ref cl))) :: cs) (by walk_at "m_pick"), by decide⟩
    · exact ⟨1, p2, 2, 3, a2, c2, h, rfl, by decide, H.pick (r := .o p2 (tupObj #[.int 2 a2, .int 3 c2]) :: .p cl (lstP cvs) :: .f L [(PySem.Str.ofString "script"), (PySem.Str.ofString "rest"), (PySem.Str.ofString "start"), (PySem.Str.ofString "orders"), (PySem.Str.ofString "turn"), (PySem.Str.ofString "digits"), (PySem.Str.ofString "pool"), (PySem.Str.ofString "order"), (PySem.Str.ofString "many"), (PySem.Str.ofString "fresh"), (PySem.Str.ofString "told")] [some (.ref sc), some (.ref rs), none, none, none, none, none, none, none, none, none] :: .p (L + 8) (CellP (none)) :: .p (L + 7) (CellP (none)) :: .p (L + 6) (CellP (none)) :: .p (L + 5) (CellP (none)) :: .p (L + 4) (CellP (none)) :: .p (L + 3) (CellP (none)) :: .p (L + 2) (CellP (none)) :: .p (L + 1) (CellP (some (.ref cl))) :: cs) (by walk_at "m_pick"), by decide⟩
    · exact ⟨2, p3, 2, 4, a3, c3, h, rfl, by decide, H.pick (r := .o p3 (tupObj #[.int 2 a3, .int 4 c3]) :: .p cl (lstP cvs) :: .f L [(PySem.Str.ofString "script"), (PySem.Str.ofString "rest"), (PySem.Str.ofString "start"), (PySem.Str.ofString "orders"), (PySem.Str.ofString "turn"), (PySem.Str.ofString "digits"), (PySem.Str.ofString "pool"), (PySem.Str.ofString "order"), (PySem.Str.ofString "many"), (PySem.Str.ofString "fresh"), (PySem.Str.ofString "told")] [some (.ref sc), some (.ref rs), none, none, none, none, none, none, none, none, none] :: .p (L + 8) (CellP (none)) :: .p (L + 7) (CellP (none)) :: .p (L + 6) (CellP (none)) :: .p (L + 5) (CellP (none)) :: .p (L + 4) (CellP (none)) :: .p (L + 3) (CellP (none)) :: .p (L + 2) (CellP (none)) :: .p (L + 1) (CellP (some (.ref cl))) :: cs) (by walk_at "m_pick"), by decide⟩
    · exact ⟨3, p4, 3, 2, a4, c4, h, rfl, by decide, H.pick (r := .o p4 (tupObj #[.int 3 a4, .int 2 c4]) :: .p cl (lstP cvs) :: .f L [(PySem.Str.ofString "script"), (PySem.Str.ofString "rest"), (PySem.Str.ofString "start"), (PySem.Str.ofString "orders"), (PySem.Str.ofString "turn"), (PySem.Str.ofString "digits"), (PySem.Str.ofString "pool"), (PySem.Str.ofString "order"), (PySem.Str.ofString "many"), (PySem.Str.ofString "fresh"), (PySem.Str.ofString "told")] [some (.ref sc), some (.ref rs), none, none, none, none, none, none, none, none, none] :: .p (L + 8) (CellP (none)) :: .p (L + 7) (CellP (none)) :: .p (L + 6) (CellP (none)) :: .p (L + 5) (CellP (none)) :: .p (L + 4) (CellP (none)) :: .p (L + 3) (CellP (none)) :: .p (L + 2) (CellP (none)) :: .p (L + 1) (CellP (some (.ref cl))) :: cs) (by walk_at "m_pick"), by decide⟩
    · exact ⟨4, p5, 3, 3, a5, c5, h, rfl, by decide, H.pick (r := .o p5 (tupObj #[.int 3 a5, .int 3 c5]) :: .p cl (lstP cvs) :: .f L [(PySem.Str.ofString "script"), (PySem.Str.ofString "rest"), (PySem.Str.ofString "start"), (PySem.Str.ofString "orders"), (PySem.Str.ofString "turn"), (PySem.Str.ofString "digits"), (PySem.Str.ofString "pool"), (PySem.Str.ofString "order"), (PySem.Str.ofString "many"), (PySem.Str.ofString "fresh"), (PySem.Str.ofString "told")] [some (.ref sc), some (.ref rs), none, none, none, none, none, none, none, none, none] :: .p (L + 8) (CellP (none)) :: .p (L + 7) (CellP (none)) :: .p (L + 6) (CellP (none)) :: .p (L + 5) (CellP (none)) :: .p (L + 4) (CellP (none)) :: .p (L + 3) (CellP (none)) :: .p (L + 2) (CellP (none)) :: .p (L + 1) (CellP (some (.ref cl))) :: cs) (by walk_at "m_pick"), by decide⟩
    · exact ⟨5, p6, 4, 2, a6, c6, h, rfl, by decide, H.pick (r := .o p6 (tupObj #[.int 4 a6, .int 2 c6]) :: .p cl (lstP cvs) :: .f L [(PySem.Str.ofString "script"), (PySem.Str.ofString "rest"), (PySem.Str.ofString "start"), (PySem.Str.ofString "orders"), (PySem.Str.ofString "turn"), (PySem.Str.ofString "digits"), (PySem.Str.ofString "pool"), (PySem.Str.ofString "order"), (PySem.Str.ofString "many"), (PySem.Str.ofString "fresh"), (PySem.Str.ofString "told")] [some (.ref sc), some (.ref rs), none, none, none, none, none, none, none, none, none] :: .p (L + 8) (CellP (none)) :: .p (L + 7) (CellP (none)) :: .p (L + 6) (CellP (none)) :: .p (L + 5) (CellP (none)) :: .p (L + 4) (CellP (none)) :: .p (L + 3) (CellP (none)) :: .p (L + 2) (CellP (none)) :: .p (L + 1) (CellP (some (.ref cl))) :: cs) (by walk_at "m_pick"), by decide⟩
  obtain ⟨j, tp, k, sz, q1, q2, hj, hjt, hj3, H', hk2, hk4, hs2, hs4, hN⟩ := key
  rw [hj]
  refine atl_ H .head rfl hjt hj3 ?_
  clear H
  have H := H'
  clear H' hj hjt hj3
  refine unpackT hh H .head rfl rfl ?_
  clear H; intro s H
  refine assignInOrder_cons ?_
  refine assign_Name ?_
  refine stC V H (by decide) (by exact rfl) (by walk_at "m_sub") ?_
  clear H; intro s H
  refine assignInOrder_cons ?_
  refine assign_Name ?_
  refine stC V H (by decide) (by exact rfl) (by walk_at "m_sub") ?_
  clear H; intro s H
  refine assignInOrder_nil ?_
  exact @h _ _ _ _ _ hk2 hk4 hs2 hs4 hN (H.pick (by walk_at "m_pick"))
end Mine
end
section
open PySem PySem.W PySem.Calls PyProof.Rows
set_option Elab.async false
set_option maxRecDepth 100000
set_option maxHeartbeats 4000000
set_option linter.unusedVariables false
namespace Mine
local macro_rules | `(tactic| walk_at "m_fill") => `(tactic| ((have dummy : PySem.Challenge.rw_ez0279_01 = PySem.Challenge.rw_ez0279_01 ∧ hd.heap_39 = hd.heap_39 := by k_fill; exact ⟨rfl, rfl⟩); clear dummy))
local macro_rules | `(tactic| walk_at "m_facts") => `(tactic| (constructor <;> first | k_dflt k_is | decide +kernel))
theorem sl_fill_T22 : True := by walk_at "m_fill"; trivial
local macro_rules | `(tactic| walk_at "m_has") => `(tactic| with_reducible first | exact Has.head | (refine Has.tail ?_; walk_at "m_has") | (refine Has.of ?_; assumption) | assumption)
local macro_rules | `(tactic| walk_at "m_at") => `(tactic| with_reducible first | exact At.head | (refine At.tail ?_; walk_at "m_at"))
local macro_rules | `(tactic| walk_at "m_sub") => `(tactic| with_reducible first | exact Sub1.head | (apply Sub1.tail; walk_at "m_sub"))
local macro_rules | `(tactic| walk_at "m_put") => `(tactic| with_reducible first | exact PutAt.head | (apply PutAt.tail; walk_at "m_put"))
local macro_rules | `(tactic| walk_at "m_rem") => `(tactic| with_reducible first | exact Rem.head | (apply Rem.tail; walk_at "m_rem"))
local macro_rules | `(tactic| walk_at "m_pick") => `(tactic| with_reducible first | exact Pick.all | (apply Pick.take; (focus (walk_at "m_rem")); walk_at "m_pick") | (apply Pick.skip; walk_at "m_pick"))
local macro_rules | `(tactic| walk_at "m_room") => `(tactic| first | assumption | omega)
local macro_rules | `(tactic| walk_at "m_name") => `(tactic| refine nm (by assumption) (by assumption) (by walk_at "m_has") (by walk_at "m_at") (by decide) (by decide) ?_)
local macro_rules | `(tactic| walk_at "m_slotget") => `(tactic| (refine attr_slot (by assumption) (by first | exact sl_step _ | exact sl_node _ | exact sl_children _ | exact sl_value _) (by assumption) (by walk_at "m_has") (by exact rfl) (by walk_at "m_has") (by exact rfl) (by exact rfl) ?_))
local macro_rules | `(tactic| walk_at "m_store") => `(tactic| refine st_ (by assumption) (by assumption) (by decide) (by walk_at "m_sub") (by walk_at "m_put") ?_)
local macro_rules | `(tactic| walk_at "m_glob") => `(tactic| (refine glob (by assumption) (by assumption) (by assumption) (by decide) (by k_dflt k_is) (by decide) ?_))
variable {w : World} {A : Around} {E : Value → Shared → Prop} {b s : Shared} {cs cs' : List Cell} {R : Result → Shared → Prop} {env : Env} {pos : Pos}

local macro_rules | `(tactic| walk_at "m_bi") => `(tactic| (refine builtin (by assumption) (by assumption) (by assumption) (by decide) (by k_dflt k_is) (by boot_by_name) (by decide) (by decide) ?_))
local macro_rules | `(tactic| walk_at "m_cell") => `(tactic| refine nmC (by assumption) (by assumption) (by decide) (by exact rfl) (by walk_at "m_has") (by decide) ?_)
local macro_rules | `(tactic| walk_at "k_cell") => `(tactic| refine nmCK (by assumption) (by assumption) (by decide) (by exact rfl) (by walk_at "m_has") (by decide) ?_)
local macro_rules | `(tactic| walk_at "k_name") => `(tactic| refine nmK (by assumption) (by assumption) (by walk_at "m_has") (by walk_at "m_at") (by decide) (by decide) ?_)
abbrev ltrs (k : Nat) : List Nat := [97, 98, 99, 100].take k
theorem ltrs_len {k : Nat} (h : k ≤ 4) : (ltrs k).length = k := by rw [List.length_take]; simp; omega
theorem ltrs_nod (k : Nat) : (ltrs k).Nodup := List.Nodup.sublist (List.take_sublist _ _) (by decide)
theorem ltrs_asc {k : Nat} {x : Nat} (h : x ∈ ltrs k) : x < 128 := by have := List.mem_of_mem_take h; simp at this; omega
theorem seg3 {L : Addr} {fd : FuncData} {body : List Stmt} {sc rs cl : Addr} {cvs : List Value} {cz : List Int} {Q : Flow → Shared → Prop} {k sz : Nat} {q1 q2 : Tok} (Fn : FnAt (hd.heap_39 w.params) 896 fd body) (V : EnvIs env L lawNk (lawCl L)) (B : Base (hd.heap_39 w.params) b) (hh : A.handled = none)
  (hcl : IntsAre cvs cz) (hclen : cvs.length = 7) (hpos : ∀ z ∈ cz, 0 ≤ z) (hk2 : 2 ≤ k) (hk4 : k ≤ 4) (hs2 : 2 ≤ sz) (hs4 : sz ≤ 4)
  (H : St b s (.p cl (lstP cvs) :: .f L [(PySem.Str.ofString "script"), (PySem.Str.ofString "rest"), (PySem.Str.ofString "start"), (PySem.Str.ofString "orders"), (PySem.Str.ofString "turn"), (PySem.Str.ofString "digits"), (PySem.Str.ofString "pool"), (PySem.Str.ofString "order"), (PySem.Str.ofString "many"), (PySem.Str.ofString "fresh"), (PySem.Str.ofString "told")] [some (.ref sc), some (.ref rs), none, none, none, none, none, none, none, none, none] :: .p (L + 8) (CellP (none)) :: .p (L + 7) (CellP (none)) :: .p (L + 6) (CellP (none)) :: .p (L + 5) (CellP (none)) :: .p (L + 4) (CellP (none)) :: .p (L + 3) (CellP (some (.int sz q2))) :: .p (L + 2) (CellP (some (.int k q1))) :: .p (L + 1) (CellP (some (.ref cl))) :: cs))
  (h : ∀ s' st q3 q4, st.length = sz - 1 → (∀ x ∈ st, x ∈ ltrs k) → St b s' (.p cl (lstP cvs) :: .f L [(PySem.Str.ofString "script"), (PySem.Str.ofString "rest"), (PySem.Str.ofString "start"), (PySem.Str.ofString "orders"), (PySem.Str.ofString "turn"), (PySem.Str.ofString "digits"), (PySem.Str.ofString "pool"), (PySem.Str.ofString "order"), (PySem.Str.ofString "many"), (PySem.Str.ofString "fresh"), (PySem.Str.ofString "told")] [some (.ref sc), some (.ref rs), some (.str (tx st) q4), none, none, none, none, none, none, none, none] :: .p (L + 8) (CellP (none)) :: .p (L + 7) (CellP (none)) :: .p (L + 6) (CellP (none)) :: .p (L + 5) (CellP (none)) :: .p (L + 4) (CellP (some (.str (tx (ltrs k)) q3))) :: .p (L + 3) (CellP (some (.int sz q2))) :: .p (L + 2) (CellP (some (.int k q1))) :: .p (L + 1) (CellP (some (.ref cl))) :: cs) →
    wpAny (model prog w) A (execs (nav [5] body) env) Q E s') : wpAny (model prog w) A (execs (nav [3] body) env) Q E s := by
  have e := Fn.body_eq (K := (hd.heap_39 w.params)) ⟨⟨_, _, _, by k_dflt k_is⟩, by k_dflt k_is, by exact rfl, by exact rfl, by exact rfl, by exact rfl, by exact rfl, by exact rfl⟩
  subst e
  dsimp only [nav, List.drop] at h ⊢
  refine wpAny_execs_cons ?_
  refine wpAny_Assign_Name ?_
  refine sub_toC b ?_
  refine kStr H ?_
  clear H; intro s u1 H
  walk_at "m_cell"
  refine ⟨[97, 98, 99, 100], _, _, _, k, _, _, congrArg (Value.str · u1) (by decide), rfl, H, .head, rfl, by decide, rfl, by simpa using hk4, ?_⟩
  clear H; intro s q3 H
  refine stC V H (by decide) (by exact rfl) (by walk_at "m_sub") ?_
  clear H; intro s H
  have H : St b s (.p cl (lstP cvs) :: .f L [(PySem.Str.ofString "script"), (PySem.Str.ofString "rest"), (PySem.Str.ofString "start"), (PySem.Str.ofString "orders"), (PySem.Str.ofString "turn"), (PySem.Str.ofString "digits"), (PySem.Str.ofString "pool"), (PySem.Str.ofString "order"), (PySem.Str.ofString "many"), (PySem.Str.ofString "fresh"), (PySem.Str.ofString "told")] [some (.ref sc), some (.ref rs), none, none, none, none, none, none, none, none, none] :: .p (L + 8) (CellP (none)) :: .p (L + 7) (CellP (none)) :: .p (L + 6) (CellP (none)) :: .p (L + 5) (CellP (none)) :: .p (L + 4) (CellP (some (.str (tx (ltrs k)) q3))) :: .p (L + 3) (CellP (some (.int sz q2))) :: .p (L + 2) (CellP (some (.int k q1))) :: .p (L + 1) (CellP (some (.ref cl))) :: cs) := H
  have key : ∃ z1 t1, cvs[1]? = some (.int z1 t1) ∧ 0 ≤ z1 := by
    have hc0 : 1 < cz.length := by have := IntsAre.len hcl; omega
    obtain ⟨t0, e⟩ := IntsAre.at_ hcl (List.getElem?_eq_getElem hc0)
    exact ⟨_, t0, e, hpos _ (List.getElem_mem hc0)⟩
  obtain ⟨z1, t1, hz1, hz1p⟩ := key
  -- start
  refine wpAny_execs_cons ?_
  refine wpAny_Assign_Name ?_
  refine MethodCall_ ?_
  refine kStr H ?_
  clear H; intro s tk H
  refine getMethod_builtin (T := "str") (typeIs_str _ _ _) PySem.F.plainAttrs_str PySem.F.slot_str_join PySem.F.type_str_join (fun _ e => nomatch e) ?_
  refine callWith_method1 ?_ rfl rfl
  refine spliced_more ?_
  refine comp_in (b := b) (ns := [S "k"]) (cl := [(S "letters", L + 4), (S "kinds", L + 2), (S "cells", L + 1)]) (by decide) rfl (closure_of V (by exact rfl)) (by decide) rfl (by decide) ?_
  refine Call_ ?_
  walk_at "m_bi"
  refine PyProof.Rows.callWith_type1 ?_ rfl rfl
  refine spliced_more ?_
  refine wpAny_BinOp ?_
  walk_at "m_cell"
  refine kInt H ?_
  clear H; intro s u2 H
  refine sub_n H ?_
  rw [show ((sz : Int) - 1) = ((sz - 1 : Nat) : Int) from by omega]
  clear H; intro s u3 H
  refine spliced_none ?_
  refine range1_ H ?_
  clear H; intro s r ta tb tc H
  refine iterRange H .head (rsmall1 (by omega)) ?_
  clear H; intro s it H
  rw [rsize1] at H
  refine ⟨_, H, ⟨_, .head, rfl⟩, fun s D C H => ⟨fun H hq => selfRange H (by walk_at "m_has") hq, ?_⟩⟩
  generalize he : compEnvC _ _ C env = cenv
  have VK : EnvK cenv C [(S ".0", .local), (S "k", .local), (S "cells", .cell), (S "kinds", .cell), (S "letters", .cell)] [(S "letters", L + 4), (S "kinds", L + 2), (S "cells", L + 1)] := he ▸ EnvK.comp V.toK rfl (by exact rfl)
  clear he
  have H : St b s (.f C [S "k"] [none] :: .p D (lstP []) :: .o it (ritO 0 (sz - 1 : Nat) 1) :: .o r (rngO 0 (sz - 1 : Nat) 1 ta tb tc) :: .p cl (lstP cvs) :: .f L [(PySem.Str.ofString "script"), (PySem.Str.ofString "rest"), (PySem.Str.ofString "start"), (PySem.Str.ofString "orders"), (PySem.Str.ofString "turn"), (PySem.Str.ofString "digits"), (PySem.Str.ofString "pool"), (PySem.Str.ofString "order"), (PySem.Str.ofString "many"), (PySem.Str.ofString "fresh"), (PySem.Str.ofString "told")] [some (.ref sc), some (.ref rs), none, none, none, none, none, none, none, none, none] :: .p (L + 8) (CellP (none)) :: .p (L + 7) (CellP (none)) :: .p (L + 6) (CellP (none)) :: .p (L + 5) (CellP (none)) :: .p (L + 4) (CellP (some (.str (tx (ltrs k)) q3))) :: .p (L + 3) (CellP (some (.int sz q2))) :: .p (L + 2) (CellP (some (.int k q1))) :: .p (L + 1) (CellP (some (.ref cl))) :: cs) := H
  refine comp_loop0 (sz - 1) (fun i s => ∃ ps k0, ps.length = i ∧ (∀ p ∈ ps, p.1 ∈ ltrs k) ∧
    St b s (.f C [S "k"] [k0] :: .p D (lstP (strValues (lets ps))) :: .o it (ritO i (((sz - 1 : Nat) : Int) - i) 1) :: .o r (rngO 0 (sz - 1 : Nat) 1 ta tb tc) :: .p cl (lstP cvs) :: .f L [(PySem.Str.ofString "script"), (PySem.Str.ofString "rest"), (PySem.Str.ofString "start"), (PySem.Str.ofString "orders"), (PySem.Str.ofString "turn"), (PySem.Str.ofString "digits"), (PySem.Str.ofString "pool"), (PySem.Str.ofString "order"), (PySem.Str.ofString "many"), (PySem.Str.ofString "fresh"), (PySem.Str.ofString "told")] [some (.ref sc), some (.ref rs), none, none, none, none, none, none, none, none, none] :: .p (L + 8) (CellP (none)) :: .p (L + 7) (CellP (none)) :: .p (L + 6) (CellP (none)) :: .p (L + 5) (CellP (none)) :: .p (L + 4) (CellP (some (.str (tx (ltrs k)) q3))) :: .p (L + 3) (CellP (some (.int sz q2))) :: .p (L + 2) (CellP (some (.int k q1))) :: .p (L + 1) (CellP (some (.ref cl))) :: cs)) ?_ ?_ ⟨[], none, rfl, by simp, (by rw [show (((0 : Nat) : Int)) = 0 from rfl, Int.sub_zero]; exact H)⟩
  · clear H; rintro i s E' hi ⟨ps, k0, hpl, hps, H⟩
    refine nextRange H (by walk_at "m_sub") (by omega) ?_
    clear H; intro s tki H
    refine ⟨_, rfl, ?_⟩
    refine wpAny_assign_Name ?_
    refine stK VK H (by decide) (by walk_at "m_sub") (by walk_at "m_put") ?_
    clear H; intro s H
    refine Subscript_ ?_
    walk_at "k_cell"
    refine wpAny_BinOp ?_
    refine wpAny_BinOp ?_
    refine Subscript_ ?_
    walk_at "k_cell"
    refine kInt H ?_
    clear H; intro s u4 H
    refine atl_ H (by walk_at "m_has") (k := 1) rfl hz1 (by decide) ?_
    refine wpAny_BinOp ?_
    walk_at "k_cell"
    walk_at "k_name"
    refine pow_n H rfl (by omega) (by omega) ?_
    clear H; intro s u5 H
    have hp0 : 0 < k ^ i := Nat.pow_pos (by omega)
    have hpe : ((k : Int) ^ i) = ((k ^ i : Nat) : Int) := by rw [Int.natCast_pow]
    have hp1 : k ^ i ≤ 4 ^ 4 := Nat.le_trans (Nat.pow_le_pow_left hk4 i) (Nat.pow_le_pow_right (by decide) (by omega))
    rw [hpe]
    have hp2 : (256 : Nat) < 2 ^ 200 := by decide
    refine fdiv_n H (by omega) (Nat.lt_of_le_of_lt (show ((k ^ i : Nat) : Int).natAbs ≤ 256 by rw [Int.natAbs_natCast]; exact hp1) hp2) ?_
    clear H; intro s u6 H
    walk_at "k_cell"
    refine mod_n H (by omega) ?_
    clear H; intro s u7 H
    obtain ⟨n, hn, hnk⟩ : ∃ n : Nat, (z1.fdiv ((k ^ i : Nat) : Int)).fmod (k : Int) = (n : Int) ∧ n < k := by
      have h1 := Int.fmod_nonneg_of_pos (z1.fdiv ((k ^ i : Nat) : Int)) (show (0 : Int) < k by omega)
      have h2 := Int.fmod_lt_of_pos (z1.fdiv ((k ^ i : Nat) : Int)) (show (0 : Int) < k by omega)
      exact ⟨((z1.fdiv ((k ^ i : Nat) : Int)).fmod (k : Int)).toNat, by omega, by omega⟩
    have hnl : n < (ltrs k).length := by rw [ltrs_len hk4]; exact hnk
    refine at_tx H hn (List.getElem?_eq_getElem hnl) (by omega) ?_
    clear H; intro s u8 H
    refine lstP_append H (by walk_at "m_sub") (by simp [strValues, lets, hpl]; omega) ?_
    clear H; intro s H
    refine ⟨ps ++ [((ltrs k)[n], u8)], some (.int i tki), by rw [List.length_append, hpl]; rfl, ?_, ?_⟩
    · intro p hp
      rcases List.mem_append.mp hp with h | h
      · exact hps p h
      · rw [List.mem_singleton.mp h]; exact List.getElem_mem hnl
    · have e1 : strValues (lets (ps ++ [((ltrs k)[n], u8)])) = strValues (lets ps) ++ [.str (tx [(ltrs k)[n]]) u8] := by simp [lets, strValues]
      rw [e1]
      rw [show ((i : Int) + 1) = ((i + 1 : Nat) : Int) from by omega, show (((sz - 1 : Nat) : Int) - i - 1) = ((sz - 1 : Nat) : Int) - ((i + 1 : Nat) : Int) from by omega] at H
      exact H
  · clear H; rintro s E' ⟨ps, k0, hpl, hps, H⟩
    refine endRange (d := .f C [S "k"] [k0]) hh (H.pick (r := .o it _ :: .f C [S "k"] [k0] :: .p D (lstP (strValues (lets ps))) :: .o r (rngO 0 (sz - 1 : Nat) 1 ta tb tc) :: .p cl (lstP cvs) :: .f L [(PySem.Str.ofString "script"), (PySem.Str.ofString "rest"), (PySem.Str.ofString "start"), (PySem.Str.ofString "orders"), (PySem.Str.ofString "turn"), (PySem.Str.ofString "digits"), (PySem.Str.ofString "pool"), (PySem.Str.ofString "order"), (PySem.Str.ofString "many"), (PySem.Str.ofString "fresh"), (PySem.Str.ofString "told")] [some (.ref sc), some (.ref rs), none, none, none, none, none, none, none, none, none] :: .p (L + 8) (CellP (none)) :: .p (L + 7) (CellP (none)) :: .p (L + 6) (CellP (none)) :: .p (L + 5) (CellP (none)) :: .p (L + 4) (CellP (some (.str (tx (ltrs k)) q3))) :: .p (L + 3) (CellP (some (.int sz q2))) :: .p (L + 2) (CellP (some (.int k q1))) :: .p (L + 1) (CellP (some (.ref cl))) :: cs) (by walk_at "m_pick")) .head rfl (by omega) ?_
    clear H; intro s H
    refine ⟨rfl, _, rfl, _, _, H, ?_⟩
    clear H; intro s H
    refine spliced_none ?_
    refine join_ (ps := lets ps) H (by walk_at "m_has") (joinOk_letters (by omega)) ?_
    clear H; intro s q4 H
    have e : Txt.join (Str.ofString "") ((lets ps).map (·.1)) = tx (ps.map (·.1)) := by
      show Builtin.Str.glued _ _ = _
      rw [StrLaws.glued_eq_join, join_letters]; rfl
    rw [e]
    walk_at "m_store"
    clear H; intro s H
    refine @h s (ps.map (·.1)) q3 q4 (by rw [List.length_map]; exact hpl) (fun x hx => ?_) (H.pick (by walk_at "m_pick"))
    obtain ⟨p, hp, rfl⟩ := List.mem_map.mp hx
    exact hps p hp
end Mine
end
section
open PySem PySem.W PySem.Calls PyProof.Rows
set_option Elab.async false
set_option maxRecDepth 100000
set_option maxHeartbeats 4000000
set_option linter.unusedVariables false
namespace Mine
local macro_rules | `(tactic| walk_at "m_fill") => `(tactic| ((have dummy : PySem.Challenge.rw_ez0279_01 = PySem.Challenge.rw_ez0279_01 ∧ hd.heap_39 = hd.heap_39 := by k_fill; exact ⟨rfl, rfl⟩); clear dummy))
local macro_rules | `(tactic| walk_at "m_facts") => `(tactic| (constructor <;> first | k_dflt k_is | decide +kernel))
theorem sl_fill_T23 : True := by walk_at "m_fill"; trivial
local macro_rules | `(tactic| walk_at "m_has") => `(tactic| with_reducible first | exact Has.head | (refine Has.tail ?_; walk_at "m_has") | (refine Has.of ?_; assumption) | assumption)
local macro_rules | `(tactic| walk_at "m_at") => `(tactic| with_reducible first | exact At.head | (refine At.tail ?_; walk_at "m_at"))
local macro_rules | `(tactic| walk_at "m_sub") => `(tactic| with_reducible first | exact Sub1.head | (apply Sub1.tail; walk_at "m_sub"))
local macro_rules | `(tactic| walk_at "m_put") => `(tactic| with_reducible first | exact PutAt.head | (apply PutAt.tail; walk_at "m_put"))
local macro_rules | `(tactic| walk_at "m_rem") => `(tactic| with_reducible first | exact Rem.head | (apply Rem.tail; walk_at "m_rem"))
local macro_rules | `(tactic| walk_at "m_pick") => `(tactic| with_reducible first | exact Pick.all | (apply Pick.take; (focus (walk_at "m_rem")); walk_at "m_pick") | (apply Pick.skip; walk_at "m_pick"))
local macro_rules | `(tactic| walk_at "m_room") => `(tactic| first | assumption | omega)
local macro_rules | `(tactic| walk_at "m_name") => `(tactic| refine nm (by assumption) (by assumption) (by walk_at "m_has") (by walk_at "m_at") (by decide) (by decide) ?_)
local macro_rules | `(tactic| walk_at "m_slotget") => `(tactic| (refine attr_slot (by assumption) (by first | exact sl_step _ | exact sl_node _ | exact sl_children _ | exact sl_value _) (by assumption) (by walk_at "m_has") (by exact rfl) (by walk_at "m_has") (by exact rfl) (by exact rfl) ?_))
local macro_rules | `(tactic| walk_at "m_store") => `(tactic| refine st_ (by assumption) (by assumption) (by decide) (by walk_at "m_sub") (by walk_at "m_put") ?_)
local macro_rules | `(tactic| walk_at "m_glob") => `(tactic| (refine glob (by assumption) (by assumption) (by assumption) (by decide) (by k_dflt k_is) (by decide) ?_))
variable {w : World} {A : Around} {E : Value → Shared → Prop} {b s : Shared} {cs cs' : List Cell} {R : Result → Shared → Prop} {env : Env} {pos : Pos}

local macro_rules | `(tactic| walk_at "m_bi") => `(tactic| (refine builtin (by assumption) (by assumption) (by assumption) (by decide) (by k_dflt k_is) (by boot_by_name) (by decide) (by decide) ?_))
local macro_rules | `(tactic| walk_at "m_cell") => `(tactic| refine nmC (by assumption) (by assumption) (by decide) (by exact rfl) (by walk_at "m_has") (by decide) ?_)
theorem seg4 {L : Addr} {fd : FuncData} {body : List Stmt} {sc rs cl : Addr} {cvs : List Value} {Q : Flow → Shared → Prop} {k sz : Nat} {q1 q2 q3 q4 : Tok} {st : List Nat} (Fn : FnAt (hd.heap_39 w.params) 896 fd body) (V : EnvIs env L lawNk (lawCl L)) (B : Base (hd.heap_39 w.params) b) (hh : A.handled = none) (hA : A.depth + 6 < recursionLimit)
  (H : St b s (.p cl (lstP cvs) :: .f L [(PySem.Str.ofString "script"), (PySem.Str.ofString "rest"), (PySem.Str.ofString "start"), (PySem.Str.ofString "orders"), (PySem.Str.ofString "turn"), (PySem.Str.ofString "digits"), (PySem.Str.ofString "pool"), (PySem.Str.ofString "order"), (PySem.Str.ofString "many"), (PySem.Str.ofString "fresh"), (PySem.Str.ofString "told")] [some (.ref sc), some (.ref rs), some (.str (tx st) q4), none, none, none, none, none, none, none, none] :: .p (L + 8) (CellP (none)) :: .p (L + 7) (CellP (none)) :: .p (L + 6) (CellP (none)) :: .p (L + 5) (CellP (none)) :: .p (L + 4) (CellP (some (.str (tx (ltrs k)) q3))) :: .p (L + 3) (CellP (some (.int sz q2))) :: .p (L + 2) (CellP (some (.int k q1))) :: .p (L + 1) (CellP (some (.ref cl))) :: cs))
  (h : ∀ s' d a td n ndx t1 t2, St b s' (.f L [(PySem.Str.ofString "script"), (PySem.Str.ofString "rest"), (PySem.Str.ofString "start"), (PySem.Str.ofString "orders"), (PySem.Str.ofString "turn"), (PySem.Str.ofString "digits"), (PySem.Str.ofString "pool"), (PySem.Str.ofString "order"), (PySem.Str.ofString "many"), (PySem.Str.ofString "fresh"), (PySem.Str.ofString "told")] [some (.ref sc), some (.ref rs), some (.str (tx st) q4), some (.ref d), none, none, none, none, none, none, none] :: .p (L + 8) (CellP (none)) :: .p (L + 7) (CellP (none)) :: .p (L + 6) (CellP (some (.ref a))) :: .p (L + 5) (CellP (some (.str (tx st) q4))) :: .p (L + 4) (CellP (some (.str (tx (ltrs k)) q3))) :: .p (L + 3) (CellP (some (.int sz q2))) :: .p (L + 2) (CellP (some (.int k q1))) :: .p (L + 1) (CellP (some (.ref cl))) :: .p cl (lstP cvs) :: .p d (dctP prog w []) :: .o a (trieObj td) :: .o td (dictOf (trieEs w.params (.ref n) (.ref cbA) t1 t2) 2) :: (Nd.cells w.params D0 (newNd D0 n ndx) ++ ([] ++ cs))) →
    wpAny (model prog w) A (execs (nav [6] body) env) Q E s') : wpAny (model prog w) A (execs (nav [5] body) env) Q E s := by
  have e := Fn.body_eq (K := (hd.heap_39 w.params)) ⟨⟨_, _, _, by k_dflt k_is⟩, by k_dflt k_is, by exact rfl, by exact rfl, by exact rfl, by exact rfl, by exact rfl, by exact rfl⟩
  subst e
  dsimp only [nav, List.drop] at h ⊢
  refine wpAny_execs_cons ?_
  refine Assign_Tuple ?_ rfl ?_
  rotate_left
  · unfold swappedStores
    have k1 : env.kindOf (PySem.Str.ofString "text") = some .cell := V.kindOf (by decide)
    have k2 : env.kindOf (PySem.Str.ofString "trie") = some .cell := V.kindOf (by decide)
    have k3 : env.kindOf (PySem.Str.ofString "orders") = some .local := V.kindOf (by decide)
    have k4 : env.blockKind = .function := by unfold Env.blockKind; rw [V.kind]; rfl
    simp [k1, k2, k4]
    exact fun h1 => absurd (Nat.le_trans (Nat.le_of_eq h1.symm) (List.length_filterMap_le _ _)) (by simp)
  refine tuple_ (b := b) ?_
  refine spliced_more ?_
  walk_at "m_name"
  refine spliced_more ?_
  refine Call_ ?_
  walk_at "m_glob"
  refine callK0 B H (kp_trie w) ?_
  refine wpAny_call ?_
  refine trie_new B H hA hh ?_
  clear H; intro s a td n ndx t1 t2 H
  refine spliced_more ?_
  refine newDct H ?_
  clear H; intro s d H
  refine spliced_none ⟨by simp, _, H, ?_⟩
  clear H; intro s tp H
  refine unpackT hh H .head rfl rfl ?_
  clear H; intro s H
  have H : St b s (.f L [(PySem.Str.ofString "script"), (PySem.Str.ofString "rest"), (PySem.Str.ofString "start"), (PySem.Str.ofString "orders"), (PySem.Str.ofString "turn"), (PySem.Str.ofString "digits"), (PySem.Str.ofString "pool"), (PySem.Str.ofString "order"), (PySem.Str.ofString "many"), (PySem.Str.ofString "fresh"), (PySem.Str.ofString "told")] [some (.ref sc), some (.ref rs), some (.str (tx st) q4), none, none, none, none, none, none, none, none] :: .p (L + 8) (CellP none) :: .p (L + 7) (CellP none) :: .p (L + 6) (CellP none) :: .p (L + 5) (CellP none) :: .p (L + 4) (CellP (some (.str (tx (ltrs k)) q3))) :: .p (L + 3) (CellP (some (.int sz q2))) :: .p (L + 2) (CellP (some (.int k q1))) :: .p (L + 1) (CellP (some (.ref cl))) ::
      .p cl (lstP cvs) :: .p d (dctP prog w []) :: .o a (trieObj td) :: .o td (dictOf (trieEs w.params (.ref n) (.ref cbA) t1 t2) 2) :: (Nd.cells w.params D0 (newNd D0 n ndx) ++ ([] ++ cs))) := by
    have H2 := H.mono (cs' := (.p d (dctP prog w []) :: (Nd.cells w.params D0 (newNd D0 n ndx) ++ (.o a (trieObj td) :: .o td (dictOf (trieEs w.params (.ref n) (.ref cbA) t1 t2) 2) :: .p cl (lstP cvs) :: .f L [(PySem.Str.ofString "script"), (PySem.Str.ofString "rest"), (PySem.Str.ofString "start"), (PySem.Str.ofString "orders"), (PySem.Str.ofString "turn"), (PySem.Str.ofString "digits"), (PySem.Str.ofString "pool"), (PySem.Str.ofString "order"), (PySem.Str.ofString "many"), (PySem.Str.ofString "fresh"), (PySem.Str.ofString "told")] [some (.ref sc), some (.ref rs), some (.str (tx st) q4), none, none, none, none, none, none, none, none] :: .p (L + 8) (CellP (none)) :: .p (L + 7) (CellP (none)) :: .p (L + 6) (CellP (none)) :: .p (L + 5) (CellP (none)) :: .p (L + 4) (CellP (some (.str (tx (ltrs k)) q3))) :: .p (L + 3) (CellP (some (.int sz q2))) :: .p (L + 2) (CellP (some (.int k q1))) :: .p (L + 1) (CellP (some (.ref cl))) :: cs)))) (List.sublist_cons_self _ _)
    refine H2.perm ?_
    exact perm_start [.f L [(PySem.Str.ofString "script"), (PySem.Str.ofString "rest"), (PySem.Str.ofString "start"), (PySem.Str.ofString "orders"), (PySem.Str.ofString "turn"), (PySem.Str.ofString "digits"), (PySem.Str.ofString "pool"), (PySem.Str.ofString "order"), (PySem.Str.ofString "many"), (PySem.Str.ofString "fresh"), (PySem.Str.ofString "told")] [some (.ref sc), some (.ref rs), some (.str (tx st) q4), none, none, none, none, none, none, none, none], .p (L + 8) (CellP none), .p (L + 7) (CellP none), .p (L + 6) (CellP none), .p (L + 5) (CellP none), .p (L + 4) (CellP (some (.str (tx (ltrs k)) q3))), .p (L + 3) (CellP (some (.int sz q2))), .p (L + 2) (CellP (some (.int k q1))), .p (L + 1) (CellP (some (.ref cl)))] (Nd.cells w.params D0 (newNd D0 n ndx)) cs (.o a (trieObj td)) (.o td (dictOf (trieEs w.params (.ref n) (.ref cbA) t1 t2) 2)) (.p cl (lstP cvs)) (.p d (dctP prog w []))
  refine assignInOrder_cons ?_
  refine assign_Name ?_
  refine stC V H (by decide) (by exact rfl) (by walk_at "m_sub") ?_
  clear H; intro s H
  refine assignInOrder_cons ?_
  refine assign_Name ?_
  refine stC V H (by decide) (by exact rfl) (by walk_at "m_sub") ?_
  clear H; intro s H
  refine assignInOrder_cons ?_
  refine assign_Name ?_
  walk_at "m_store"
  clear H; intro s H
  refine assignInOrder_nil ?_
  exact @h _ _ _ _ _ _ _ _ H
end Mine
end
section
open PySem PySem.W PySem.Calls PyProof.Rows
set_option Elab.async false
set_option maxRecDepth 100000
set_option maxHeartbeats 4000000
set_option linter.unusedVariables false
namespace Mine
local macro_rules | `(tactic| walk_at "m_fill") => `(tactic| ((have dummy : PySem.Challenge.rw_ez0279_01 = PySem.Challenge.rw_ez0279_01 ∧ hd.heap_39 = hd.heap_39 := by k_fill; exact ⟨rfl, rfl⟩); clear dummy))
local macro_rules | `(tactic| walk_at "m_facts") => `(tactic| (constructor <;> first | k_dflt k_is | decide +kernel))
theorem sl_fill_T24 : True := by walk_at "m_fill"; trivial
local macro_rules | `(tactic| walk_at "m_has") => `(tactic| with_reducible first | exact Has.head | (refine Has.tail ?_; walk_at "m_has") | (refine Has.of ?_; assumption) | assumption)
local macro_rules | `(tactic| walk_at "m_at") => `(tactic| with_reducible first | exact At.head | (refine At.tail ?_; walk_at "m_at"))
local macro_rules | `(tactic| walk_at "m_sub") => `(tactic| with_reducible first | exact Sub1.head | (apply Sub1.tail; walk_at "m_sub"))
local macro_rules | `(tactic| walk_at "m_put") => `(tactic| with_reducible first | exact PutAt.head | (apply PutAt.tail; walk_at "m_put"))
local macro_rules | `(tactic| walk_at "m_rem") => `(tactic| with_reducible first | exact Rem.head | (apply Rem.tail; walk_at "m_rem"))
local macro_rules | `(tactic| walk_at "m_pick") => `(tactic| with_reducible first | exact Pick.all | (apply Pick.take; (focus (walk_at "m_rem")); walk_at "m_pick") | (apply Pick.skip; walk_at "m_pick"))
local macro_rules | `(tactic| walk_at "m_room") => `(tactic| first | assumption | omega)
local macro_rules | `(tactic| walk_at "m_name") => `(tactic| refine nm (by assumption) (by assumption) (by walk_at "m_has") (by walk_at "m_at") (by decide) (by decide) ?_)
local macro_rules | `(tactic| walk_at "m_slotget") => `(tactic| (refine attr_slot (by assumption) (by first | exact sl_step _ | exact sl_node _ | exact sl_children _ | exact sl_value _) (by assumption) (by walk_at "m_has") (by exact rfl) (by walk_at "m_has") (by exact rfl) (by exact rfl) ?_))
local macro_rules | `(tactic| walk_at "m_store") => `(tactic| refine st_ (by assumption) (by assumption) (by decide) (by walk_at "m_sub") (by walk_at "m_put") ?_)
local macro_rules | `(tactic| walk_at "m_glob") => `(tactic| (refine glob (by assumption) (by assumption) (by assumption) (by decide) (by k_dflt k_is) (by decide) ?_))
variable {w : World} {A : Around} {E : Value → Shared → Prop} {b s : Shared} {cs cs' : List Cell} {R : Result → Shared → Prop} {env : Env} {pos : Pos}

local macro_rules | `(tactic| walk_at "m_bi") => `(tactic| (refine builtin (by assumption) (by assumption) (by assumption) (by decide) (by k_dflt k_is) (by boot_by_name) (by decide) (by decide) ?_))
local macro_rules | `(tactic| walk_at "m_cell") => `(tactic| refine nmC (by assumption) (by assumption) (by decide) (by exact rfl) (by walk_at "m_has") (by decide) ?_)
local macro_rules | `(tactic| walk_at "k_cell") => `(tactic| refine nmCK (by assumption) (by assumption) (by decide) (by exact rfl) (by walk_at "m_has") (by decide) ?_)
local macro_rules | `(tactic| walk_at "k_name") => `(tactic| refine nmK (by assumption) (by assumption) (by walk_at "m_has") (by walk_at "m_at") (by decide) (by decide) ?_)
theorem kp_near (w : World) : keepIn (hd.heap_39 w.params) (.ref 891) = true := by k_dflt k_is
theorem small_down {k : Nat} (h2 : 2 ≤ k) (h4 : k ≤ 4) : Builtin.Range.small (k : Int) 0 (-1) = true := by
  have : k = 2 ∨ k = 3 ∨ k = 4 := by omega
  rcases this with rfl | rfl | rfl <;> decide +kernel
theorem map_erase {α β : Type} (f : α → β) : ∀ (l : List α) (j : Nat), (l.map f).eraseIdx j = (l.eraseIdx j).map f
  | [], _ => rfl
  | _ :: _, 0 => rfl
  | a :: l, j + 1 => by
    have := map_erase f l j
    simpa using this
theorem perm_erase {α : Type} : ∀ {l : List α} {i : Nat} {y : α}, l[i]? = some y → (y :: l.eraseIdx i).Perm l
  | [], _, _, h => by simp at h
  | a :: l, 0, y, h => by
    have : a = y := by simpa using h
    subst this; exact .refl _
  | a :: l, i + 1, y, h => by
    have ih := perm_erase (l := l) (i := i) (y := y) (by simpa using h)
    exact (List.Perm.swap a y _).trans (ih.cons a)
theorem perm_step {α : Type} {ol pl all : List α} {i : Nat} {y : α} (h : (ol ++ pl).Perm all) (hy : pl[i]? = some y) : ((ol ++ [y]) ++ pl.eraseIdx i).Perm all := by
  refine .trans ?_ h
  rw [List.append_assoc]
  exact List.Perm.append_left _ (perm_erase hy)
theorem segO {L : Addr} {fd : FuncData} {body : List Stmt} {sc rs cl d : Addr} {cvs : List Value} {cz : List Int} {Q : Flow → Shared → Prop} {k sz : Nat} {q1 q2 q3 q4 q7 : Tok} {st v : List Nat} {tr : List Od} {v1 v2 v3 v4 v5 v6 v8 tv av : Option Value} {X : List Cell}
  (Fn : FnAt (hd.heap_39 w.params) 896 fd body) (V : EnvIs env L lawNk (lawCl L)) (B : Base (hd.heap_39 w.params) b) (hh : A.handled = none) (hA : A.depth + 10 < recursionLimit)
  (hcl : IntsAre cvs cz) (hclen : cvs.length = 7) (hk2 : 2 ≤ k) (hk4 : k ≤ 4) (hs2 : 2 ≤ sz) (hs4 : sz ≤ 4) (hst : st.length = sz - 1) (hstl : ∀ y ∈ st, y ∈ ltrs k) (hv : v.length = sz - 1) (hvn : tr.find? (fun p => p.v = v) = none) (htr : tr.length ≤ 100)
  (H : St b s (.f L [(PySem.Str.ofString "script"), (PySem.Str.ofString "rest"), (PySem.Str.ofString "start"), (PySem.Str.ofString "orders"), (PySem.Str.ofString "turn"), (PySem.Str.ofString "digits"), (PySem.Str.ofString "pool"), (PySem.Str.ofString "order"), (PySem.Str.ofString "many"), (PySem.Str.ofString "fresh"), (PySem.Str.ofString "told")] [some (.ref sc), some (.ref rs), some (.str (tx st) q4), some (.ref d), v1, v2, v3, v4, v5, v6, none] :: .p (L + 8) (CellP (v8)) :: .p (L + 7) (CellP (some (.str (tx v) q7))) :: .p (L + 6) (CellP (av)) :: .p (L + 5) (CellP (tv)) :: .p (L + 4) (CellP (some (.str (tx (ltrs k)) q3))) :: .p (L + 3) (CellP (some (.int sz q2))) :: .p (L + 2) (CellP (some (.int k q1))) :: .p (L + 1) (CellP (some (.ref cl))) :: .p cl (lstP cvs) :: .p d (dctP prog w (kvsOf tr)) :: X))
  (h : ∀ s' (x : Od) w2 w3 w4 w5 w8, x.v = v → x.o.Nodup → (∀ y, y ∈ x.o ↔ y ∈ ltrs k) → (v ≠ st → ∃ o' y, x.o = o' ++ [y] ∧ NearL st v (sz - 1) y) →
    St b s' (.f L [(PySem.Str.ofString "script"), (PySem.Str.ofString "rest"), (PySem.Str.ofString "start"), (PySem.Str.ofString "orders"), (PySem.Str.ofString "turn"), (PySem.Str.ofString "digits"), (PySem.Str.ofString "pool"), (PySem.Str.ofString "order"), (PySem.Str.ofString "many"), (PySem.Str.ofString "fresh"), (PySem.Str.ofString "told")] [some (.ref sc), some (.ref rs), some (.str (tx st) q4), some (.ref d), v1, w2, w3, w4, w5, v6, none] :: .p (L + 8) (CellP (w8)) :: .p (L + 7) (CellP (some (.str (tx v) q7))) :: .p (L + 6) (CellP (av)) :: .p (L + 5) (CellP (tv)) :: .p (L + 4) (CellP (some (.str (tx (ltrs k)) q3))) :: .p (L + 3) (CellP (some (.int sz q2))) :: .p (L + 2) (CellP (some (.int k q1))) :: .p (L + 1) (CellP (some (.ref cl))) :: .p cl (lstP cvs) :: .p d (dctP prog w (kvsOf (tr ++ [x]))) :: .p x.a (lstP x.vs) :: X) → Q .next s') : wpAny (model prog w) A (execs (nav [6, 1, 0] body) env) Q E s := by
  have e := Fn.body_eq (K := (hd.heap_39 w.params)) ⟨⟨_, _, _, by k_dflt k_is⟩, by k_dflt k_is, by exact rfl, by exact rfl, by exact rfl, by exact rfl, by exact rfl, by exact rfl⟩
  subst e
  dsimp only [nav, List.drop]
  have hkl : (kvsOf tr).length = tr.length := by unfold kvsOf; rw [List.length_map]
  refine wpAny_execs_cons ?_
  refine Assign_Tuple_swapped (names := [S "digits", S "pool", S "order"]) ?_ rfl ?_
  rotate_left
  · unfold swappedStores
    have k1 : env.kindOf (PySem.Str.ofString "digits") = some .local := V.kindOf (by decide)
    have k2 : env.kindOf (PySem.Str.ofString "pool") = some .local := V.kindOf (by decide)
    have k3 : env.kindOf (PySem.Str.ofString "order") = some .local := V.kindOf (by decide)
    have k4 : env.blockKind = .function := by unfold Env.blockKind; rw [V.kind]; rfl
    simp [k1, k2, k3, k4, Expr.pos]
    first | rfl | with_unfolding_all rfl | (rw [if_pos (by decide)]; with_unfolding_all rfl)
  refine tuple_ (b := b) ?_
  refine spliced_more ?_
  refine wpAny_BinOp ?_
  refine wpAny_BinOp ?_
  refine Subscript_ ?_
  walk_at "m_cell"
  refine wpAny_BinOp ?_
  refine kInt H ?_
  clear H; intro s u1 H
  refine wpAny_BinOp ?_
  refine Call_ ?_
  walk_at "m_bi"
  refine callWith_builtin1 ?_ rfl rfl
  refine spliced_more ?_
  walk_at "m_name"
  refine spliced_none ?_
  refine len_dct B H (by walk_at "m_has") (by omega) ?_
  clear H; intro s u2 H
  rw [hkl]
  refine kInt H ?_
  clear H; intro s u3 H
  refine mod_n H (by decide) ?_
  clear H; intro s u4 H
  refine add_n H ?_
  clear H; intro s u5 H
  have hm5 : (2 : Int) + ((tr.length : Int)).fmod 5 = ((2 + tr.length % 5 : Nat) : Int) := by
    rw [Int.fmod_eq_emod_of_nonneg _ (by decide)]; omega
  rw [hm5]
  have hj : 2 + tr.length % 5 < cz.length := by have := IntsAre.len hcl; omega
  obtain ⟨tj, htj⟩ := IntsAre.at_ hcl (List.getElem?_eq_getElem hj)
  refine atl_ H (by walk_at "m_has") rfl htj (by omega) ?_
  generalize cz[2 + tr.length % 5] = zj
  refine wpAny_BinOp ?_
  refine kInt H ?_
  clear H; intro s u6 H
  refine wpAny_BinOp ?_
  refine Call_ ?_
  walk_at "m_bi"
  refine callWith_builtin1 ?_ rfl rfl
  refine spliced_more ?_
  walk_at "m_name"
  refine spliced_none ?_
  refine len_dct B H (by walk_at "m_has") (by omega) ?_
  clear H; intro s u7 H
  rw [hkl]
  refine kInt H ?_
  clear H; intro s u8 H
  refine fdiv_n H (by decide) (by decide) ?_
  clear H; intro s u9 H
  have hd5 : ((tr.length : Int)).fdiv 5 = ((tr.length / 5 : Nat) : Int) := by
    rw [Int.fdiv_eq_ediv_of_nonneg _ (by decide)]; omega
  rw [hd5]
  refine pow_n H rfl (by decide) (by omega) ?_
  clear H; intro s u10 H
  have hpe : ((24 : Int) ^ (tr.length / 5)) = ((24 ^ (tr.length / 5) : Nat) : Int) := by rw [Int.natCast_pow]; rfl
  have hp0 : 0 < 24 ^ (tr.length / 5) := Nat.pow_pos (by decide)
  have hp1 : 24 ^ (tr.length / 5) ≤ 24 ^ 20 := Nat.pow_le_pow_right (by decide) (by omega)
  rw [hpe]
  refine fdiv_n H (by omega) (Nat.lt_of_le_of_lt (show ((24 ^ (tr.length / 5) : Nat) : Int).natAbs ≤ 24 ^ 20 by rw [Int.natAbs_natCast]; exact hp1) (by decide)) ?_
  clear H; intro s u11 H
  refine kInt H ?_
  clear H; intro s u12 H
  refine mod_n H (by decide) ?_
  generalize (zj.fdiv ((24 ^ (tr.length / 5) : Nat) : Int)).fmod 24 = dg
  clear H; intro s u13 H
  refine spliced_more ?_
  refine Call_ ?_
  walk_at "m_bi"
  refine PyProof.Rows.callWith_type1 ?_ rfl rfl
  refine spliced_more ?_
  walk_at "m_cell"
  refine spliced_none ?_
  refine list_tx hh H (by rw [ltrs_len hk4]; omega) ?_
  clear H; intro s pa pvs hpv H
  refine spliced_more ?_
  refine list_ (b := b) ?_
  refine spliced_none ⟨by simp, _, H, ?_⟩
  clear H; intro s oa H
  refine spliced_none ⟨by simp, _, H, ?_⟩
  clear H; intro s ta H
  refine unpackI hh H .head rfl ?_
  clear H; intro s H
  refine assignInOrder_cons ?_
  refine bindName_ ?_
  walk_at "m_store"
  clear H; intro s H
  refine assignInOrder_cons ?_
  refine bindName_ ?_
  walk_at "m_store"
  clear H; intro s H
  refine assignInOrder_cons ?_
  refine bindName_ ?_
  walk_at "m_store"
  clear H; intro s H
  refine assignInOrder_nil ?_
  -- for many
  refine wpAny_execs_cons ?_
  refine wpAny_For ?_ (fun _ => rfl)
  refine Call_ ?_
  walk_at "m_bi"
  refine PyProof.Rows.callWith_type1 ?_ rfl rfl
  refine spliced_more ?_
  walk_at "m_cell"
  refine spliced_more ?_
  refine kInt H ?_
  clear H; intro s u14 H
  refine spliced_more ?_
  refine wpAny_UnaryOp ?_
  refine kInt H ?_
  clear H; intro s u15 H
  refine neg_n H ?_
  clear H; intro s u16 H
  refine spliced_none ?_
  refine range3_ H (by decide) (noPylong (by decide)) ?_
  clear H; intro s r H
  refine iterRange H .head (small_down hk2 hk4) ?_
  clear H; intro s it H
  rw [rsizeDown] at H
  have H : St b s (.o it (ritO k k (-1)) :: .p oa (lstP []) :: .p pa (lstP pvs) :: .f L [(PySem.Str.ofString "script"), (PySem.Str.ofString "rest"), (PySem.Str.ofString "start"), (PySem.Str.ofString "orders"), (PySem.Str.ofString "turn"), (PySem.Str.ofString "digits"), (PySem.Str.ofString "pool"), (PySem.Str.ofString "order"), (PySem.Str.ofString "many"), (PySem.Str.ofString "fresh"), (PySem.Str.ofString "told")] [some (.ref sc), some (.ref rs), some (.str (tx st) q4), some (.ref d), v1, some (.int dg u13), some (.ref pa), some (.ref oa), v5, v6, none] :: .p (L + 8) (CellP (v8)) :: .p (L + 7) (CellP (some (.str (tx v) q7))) :: .p (L + 6) (CellP (av)) :: .p (L + 5) (CellP (tv)) :: .p (L + 4) (CellP (some (.str (tx (ltrs k)) q3))) :: .p (L + 3) (CellP (some (.int sz q2))) :: .p (L + 2) (CellP (some (.int k q1))) :: .p (L + 1) (CellP (some (.ref cl))) :: .p cl (lstP cvs) :: .p d (dctP prog w (kvsOf tr)) :: X) := H.pick (by walk_at "m_pick")
  refine forName (fun n s => ∃ i ol pl ovs pvs w2 w5 x2 t2, n + i = k ∧ ol.length = i ∧ (ol ++ pl).Perm (ltrs k) ∧ TxAre ovs (ol.map fun x => [x]) ∧ TxAre pvs (pl.map fun x => [x]) ∧ w2 = some (.int x2 t2) ∧
    St b s (.o it (ritO ((k : Int) - i) ((k : Int) - i) (-1)) :: .p oa (lstP ovs) :: .p pa (lstP pvs) :: .f L [(PySem.Str.ofString "script"), (PySem.Str.ofString "rest"), (PySem.Str.ofString "start"), (PySem.Str.ofString "orders"), (PySem.Str.ofString "turn"), (PySem.Str.ofString "digits"), (PySem.Str.ofString "pool"), (PySem.Str.ofString "order"), (PySem.Str.ofString "many"), (PySem.Str.ofString "fresh"), (PySem.Str.ofString "told")] [some (.ref sc), some (.ref rs), some (.str (tx st) q4), some (.ref d), v1, w2, some (.ref pa), some (.ref oa), w5, v6, none] :: .p (L + 8) (CellP (v8)) :: .p (L + 7) (CellP (some (.str (tx v) q7))) :: .p (L + 6) (CellP (av)) :: .p (L + 5) (CellP (tv)) :: .p (L + 4) (CellP (some (.str (tx (ltrs k)) q3))) :: .p (L + 3) (CellP (some (.int sz q2))) :: .p (L + 2) (CellP (some (.int k q1))) :: .p (L + 1) (CellP (some (.ref cl))) :: .p cl (lstP cvs) :: .p d (dctP prog w (kvsOf tr)) :: X)) ?_ k ⟨0, [], ltrs k, [], pvs, _, _, dg, u13, rfl, rfl, .refl _, .nil, hpv, rfl, (by rw [show (((0 : Nat) : Int)) = 0 from rfl, Int.sub_zero]; exact H)⟩
  clear H hpv
  rintro n s ⟨i, ol, pl, ovs, pvs, w2, w5, x2, t2, hn, hol, hperm, hov, hpv, rfl, H⟩
  have hlen : ol.length + pl.length = k := by have := hperm.length_eq; rw [List.length_append, ltrs_len hk4] at this; exact this
  cases n with
  | zero =>
    have hi : i = k := by omega
    have hpl : pl = [] := List.length_eq_zero_iff.mp (by omega)
    subst hpl
    refine endRange (d := .p oa (lstP ovs)) hh H .head rfl (by omega) ?_
    clear H; intro s H
    have H : St b s (.p oa (lstP ovs) :: .f L [(PySem.Str.ofString "script"), (PySem.Str.ofString "rest"), (PySem.Str.ofString "start"), (PySem.Str.ofString "orders"), (PySem.Str.ofString "turn"), (PySem.Str.ofString "digits"), (PySem.Str.ofString "pool"), (PySem.Str.ofString "order"), (PySem.Str.ofString "many"), (PySem.Str.ofString "fresh"), (PySem.Str.ofString "told")] [some (.ref sc), some (.ref rs), some (.str (tx st) q4), some (.ref d), v1, some (.int x2 t2), some (.ref pa), some (.ref oa), w5, v6, none] :: .p (L + 8) (CellP (v8)) :: .p (L + 7) (CellP (some (.str (tx v) q7))) :: .p (L + 6) (CellP (av)) :: .p (L + 5) (CellP (tv)) :: .p (L + 4) (CellP (some (.str (tx (ltrs k)) q3))) :: .p (L + 3) (CellP (some (.int sz q2))) :: .p (L + 2) (CellP (some (.int k q1))) :: .p (L + 1) (CellP (some (.ref cl))) :: .p cl (lstP cvs) :: .p d (dctP prog w (kvsOf tr)) :: X) := H.pick (by walk_at "m_pick")
    rw [List.append_nil] at hperm
    have hnod : ol.Nodup := (hperm.nodup_iff).mpr (ltrs_nod k)
    have hmem : ∀ y, y ∈ ol ↔ y ∈ ltrs k := fun y => hperm.mem_iff
    clear hpv hperm hlen hn
    refine wpAny_execs_cons ?_
    refine wpAny_Assign_Name ?_
    refine wpAny_mono (Q := fun r s => ∃ y t, r = .str (tx [y]) t ∧ y ∈ ltrs k ∧ (v ≠ st → NearL st v (sz - 1) y) ∧ St b s (.p oa (lstP ovs) :: .f L [(PySem.Str.ofString "script"), (PySem.Str.ofString "rest"), (PySem.Str.ofString "start"), (PySem.Str.ofString "orders"), (PySem.Str.ofString "turn"), (PySem.Str.ofString "digits"), (PySem.Str.ofString "pool"), (PySem.Str.ofString "order"), (PySem.Str.ofString "many"), (PySem.Str.ofString "fresh"), (PySem.Str.ofString "told")] [some (.ref sc), some (.ref rs), some (.str (tx st) q4), some (.ref d), v1, some (.int x2 t2), some (.ref pa), some (.ref oa), w5, v6, none] :: .p (L + 8) (CellP (v8)) :: .p (L + 7) (CellP (some (.str (tx v) q7))) :: .p (L + 6) (CellP (av)) :: .p (L + 5) (CellP (tv)) :: .p (L + 4) (CellP (some (.str (tx (ltrs k)) q3))) :: .p (L + 3) (CellP (some (.int sz q2))) :: .p (L + 2) (CellP (some (.int k q1))) :: .p (L + 1) (CellP (some (.ref cl))) :: .p cl (lstP cvs) :: .p d (dctP prog w (kvsOf tr)) :: X)) (E := fun _ _ => False) ?_ (fun r s hr => ?_) (fun _ _ z => z.elim)
    · refine wpAny_IfExp ?_
      refine wpAny_isTrue_Compare1 ?_
      walk_at "m_cell"
      walk_at "m_name"
      refine eq_tx ?_
      refine wpAny_truthy_bool ?_
      by_cases hvs : v = st
      · rw [if_pos (by simpa using hvs)]
        obtain ⟨ol', y0, rfl⟩ : ∃ ol' y0, ol = ol' ++ [y0] := ⟨ol.dropLast, ol.getLast (by intro q; rw [q] at hol; simp at hol; omega), (List.dropLast_concat_getLast _).symm⟩
        rw [List.map_append, List.map_cons, List.map_nil] at hov
        obtain ⟨us, t9, rfl, hus⟩ := hov.snoc
        refine Subscript_ ?_
        walk_at "m_name"
        refine wpAny_UnaryOp ?_
        refine kInt H ?_
        clear H; intro s u17 H
        refine neg_n H ?_
        clear H; intro s u18 H
        refine at_last H (by walk_at "m_has") ?_
        exact ⟨y0, t9, rfl, (hmem y0).mp (by simp), fun q => absurd hvs q, H⟩
      · rw [if_neg (by simpa using hvs)]
        refine Call_ ?_
        walk_at "m_glob"
        refine callK B H (kp_near w) rfl rfl ?_
        refine spliced_more ?_
        walk_at "m_cell"
        refine spliced_more ?_
        walk_at "m_name"
        refine spliced_none ⟨⟨_, H⟩, ?_⟩
        refine wpAny_call ?_
        refine near_call B H .head rfl hh (by omega) hv hst (by omega) (by omega) ?_
        clear H; intro s y u hy H
        refine ⟨y, u, rfl, ?_, fun _ => hy, H⟩
        obtain ⟨k', _, _, _, e⟩ := hy
        exact hstl y (List.mem_of_getElem? e)
    clear H
    obtain ⟨yl, tl, rfl, hyl, hnear, H⟩ := hr
    refine stC V H (by decide) (by exact rfl) (by walk_at "m_sub") ?_
    clear H; intro s H
    have H : St b s (.p oa (lstP ovs) :: .f L [(PySem.Str.ofString "script"), (PySem.Str.ofString "rest"), (PySem.Str.ofString "start"), (PySem.Str.ofString "orders"), (PySem.Str.ofString "turn"), (PySem.Str.ofString "digits"), (PySem.Str.ofString "pool"), (PySem.Str.ofString "order"), (PySem.Str.ofString "many"), (PySem.Str.ofString "fresh"), (PySem.Str.ofString "told")] [some (.ref sc), some (.ref rs), some (.str (tx st) q4), some (.ref d), v1, some (.int x2 t2), some (.ref pa), some (.ref oa), w5, v6, none] :: .p (L + 8) (CellP (some (.str (tx [yl]) tl))) :: .p (L + 7) (CellP (some (.str (tx v) q7))) :: .p (L + 6) (CellP (av)) :: .p (L + 5) (CellP (tv)) :: .p (L + 4) (CellP (some (.str (tx (ltrs k)) q3))) :: .p (L + 3) (CellP (some (.int sz q2))) :: .p (L + 2) (CellP (some (.int k q1))) :: .p (L + 1) (CellP (some (.ref cl))) :: .p cl (lstP cvs) :: .p d (dctP prog w (kvsOf tr)) :: X) := H
    refine wpAny_execs_cons ?_
    refine wpAny_Assign_Subscript ?_
    refine wpAny_BinOp ?_
    refine comp_in (b := b) (ns := [S "letter"]) (cl := [(S "last", L + 8)]) (by decide) rfl (closure_of V (by exact rfl)) (by decide) rfl (by decide) ?_
    walk_at "m_name"
    refine iterList H .head ?_
    clear H; intro s it2 H
    refine ⟨_, H, ⟨_, .head, rfl⟩, fun s D C H => ⟨fun H hq => selfList H (by walk_at "m_has") hq, ?_⟩⟩
    generalize he : compEnvC _ _ C env = cenv
    have VK : EnvK cenv C [(S ".0", .local), (S "letter", .local), (S "last", .cell)] [(S "last", L + 8)] := he ▸ EnvK.comp V.toK rfl (by exact rfl)
    clear he
    have H : St b s (.f C [S "letter"] [none] :: .p D (lstP []) :: .p it2 (LIter oa 0) :: .p oa (lstP ovs) :: .f L [(PySem.Str.ofString "script"), (PySem.Str.ofString "rest"), (PySem.Str.ofString "start"), (PySem.Str.ofString "orders"), (PySem.Str.ofString "turn"), (PySem.Str.ofString "digits"), (PySem.Str.ofString "pool"), (PySem.Str.ofString "order"), (PySem.Str.ofString "many"), (PySem.Str.ofString "fresh"), (PySem.Str.ofString "told")] [some (.ref sc), some (.ref rs), some (.str (tx st) q4), some (.ref d), v1, some (.int x2 t2), some (.ref pa), some (.ref oa), w5, v6, none] :: .p (L + 8) (CellP (some (.str (tx [yl]) tl))) :: .p (L + 7) (CellP (some (.str (tx v) q7))) :: .p (L + 6) (CellP (av)) :: .p (L + 5) (CellP (tv)) :: .p (L + 4) (CellP (some (.str (tx (ltrs k)) q3))) :: .p (L + 3) (CellP (some (.int sz q2))) :: .p (L + 2) (CellP (some (.int k q1))) :: .p (L + 1) (CellP (some (.ref cl))) :: .p cl (lstP cvs) :: .p d (dctP prog w (kvsOf tr)) :: X) := H
    have hovl := TxAre.len hov
    rw [List.length_map] at hovl
    refine comp_loop1 ol.length (fun i s => ∃ us k0, TxAre us (((ol.take i).filter fun y => decide (y ≠ yl)).map fun y => [y]) ∧ us.length ≤ i ∧
      St b s (.f C [S "letter"] [k0] :: .p D (lstP us) :: .p it2 (LIter oa i) :: .p oa (lstP ovs) :: .f L [(PySem.Str.ofString "script"), (PySem.Str.ofString "rest"), (PySem.Str.ofString "start"), (PySem.Str.ofString "orders"), (PySem.Str.ofString "turn"), (PySem.Str.ofString "digits"), (PySem.Str.ofString "pool"), (PySem.Str.ofString "order"), (PySem.Str.ofString "many"), (PySem.Str.ofString "fresh"), (PySem.Str.ofString "told")] [some (.ref sc), some (.ref rs), some (.str (tx st) q4), some (.ref d), v1, some (.int x2 t2), some (.ref pa), some (.ref oa), w5, v6, none] :: .p (L + 8) (CellP (some (.str (tx [yl]) tl))) :: .p (L + 7) (CellP (some (.str (tx v) q7))) :: .p (L + 6) (CellP (av)) :: .p (L + 5) (CellP (tv)) :: .p (L + 4) (CellP (some (.str (tx (ltrs k)) q3))) :: .p (L + 3) (CellP (some (.int sz q2))) :: .p (L + 2) (CellP (some (.int k q1))) :: .p (L + 1) (CellP (some (.ref cl))) :: .p cl (lstP cvs) :: .p d (dctP prog w (kvsOf tr)) :: X)) ?_ ?_ ⟨[], none, .nil, Nat.le_refl _, H⟩
    · clear H; rintro i s E' hi ⟨us, k0, hv, hul, H⟩
      obtain ⟨ti, hti⟩ := TxAre.at_ (i := i) hov (by rw [List.getElem?_map, List.getElem?_eq_getElem hi]; rfl)
      refine nextList H (by walk_at "m_has") (by walk_at "m_sub") hti ?_
      clear H; intro s H
      refine ⟨_, rfl, ?_⟩
      refine wpAny_assign_Name ?_
      refine stK VK H (by decide) (by walk_at "m_sub") (by walk_at "m_put") ?_
      clear H; intro s H
      refine wpAny_isTrue_Compare1 ?_
      walk_at "k_name"
      walk_at "k_cell"
      refine ne_tx ?_
      refine wpAny_truthy_bool ?_
      by_cases hp : ol[i] = yl
      · rw [if_neg (by simp [hp])]
        refine ⟨us, _, ?_, Nat.le_succ_of_le hul, H⟩
        rw [List.take_succ_eq_append_getElem hi, List.filter_append, List.filter_cons_of_neg (by simp [hp]), List.filter_nil, List.append_nil]
        exact hv
      · rw [if_pos (by simp [hp])]
        walk_at "k_name"
        refine lstP_append H (by walk_at "m_sub") (by omega) ?_
        clear H; intro s H
        refine ⟨_, _, ?_, ?_, H⟩
        · rw [List.take_succ_eq_append_getElem hi, List.filter_append, List.filter_cons_of_pos (by simp [hp]), List.filter_nil, List.map_append]
          exact hv.append (.cons _ _ .nil)
        · rw [List.length_append]; simpa using hul
    · clear H; rintro s E' ⟨us, k0, hv, hul, H⟩
      rw [List.take_length] at hv
      refine endList hh (H.pick (r := .p it2 (LIter oa ol.length) :: .f C [S "letter"] [k0] :: .p D (lstP us) :: .p oa (lstP ovs) :: .f L [(PySem.Str.ofString "script"), (PySem.Str.ofString "rest"), (PySem.Str.ofString "start"), (PySem.Str.ofString "orders"), (PySem.Str.ofString "turn"), (PySem.Str.ofString "digits"), (PySem.Str.ofString "pool"), (PySem.Str.ofString "order"), (PySem.Str.ofString "many"), (PySem.Str.ofString "fresh"), (PySem.Str.ofString "told")] [some (.ref sc), some (.ref rs), some (.str (tx st) q4), some (.ref d), v1, some (.int x2 t2), some (.ref pa), some (.ref oa), w5, v6, none] :: .p (L + 8) (CellP (some (.str (tx [yl]) tl))) :: .p (L + 7) (CellP (some (.str (tx v) q7))) :: .p (L + 6) (CellP (av)) :: .p (L + 5) (CellP (tv)) :: .p (L + 4) (CellP (some (.str (tx (ltrs k)) q3))) :: .p (L + 3) (CellP (some (.int sz q2))) :: .p (L + 2) (CellP (some (.int k q1))) :: .p (L + 1) (CellP (some (.ref cl))) :: .p cl (lstP cvs) :: .p d (dctP prog w (kvsOf tr)) :: X) (by walk_at "m_pick")) (by walk_at "m_has") (List.getElem?_eq_none (by omega)) ?_
      clear H; intro s H
      refine ⟨rfl, _, rfl, _, _, H, ?_⟩
      clear H; intro s H
      refine list_ (b := b) ?_
      refine spliced_more ?_
      walk_at "m_cell"
      refine spliced_none ⟨by simp, _, H, ?_⟩
      clear H; intro s l9 H
      refine add_list_ H (by walk_at "m_has") (by walk_at "m_has") (by simp; omega) ?_
      clear H; intro s na H
      walk_at "m_name"
      walk_at "m_cell"
      have hok : TxAre (us ++ [.str (tx [yl]) tl]) ((ol.filter (fun y => decide (y ≠ yl)) ++ [yl]).map fun y => [y]) := by
        rw [List.map_append]; exact hv.append (.cons _ _ .nil)
      refine set_dct H (kvs := kvsOf tr) (by walk_at "m_sub") (by omega) ?_
      rw [stored_kvs (x := ⟨v, na, ol.filter (fun y => decide (y ≠ yl)) ++ [yl], us ++ [.str (tx [yl]) tl], hok⟩) hvn rfl rfl]
      clear H; intro s H
      refine wpAny_execs_nil ?_
      refine h s ⟨v, na, ol.filter (fun y => decide (y ≠ yl)) ++ [yl], us ++ [.str (tx [yl]) tl], hok⟩ (some (.int x2 t2)) (some (.ref pa)) (some (.ref oa)) w5 (some (.str (tx [yl]) tl)) rfl ?_ (fun y => ?_) (fun hne => ⟨_, yl, rfl, hnear hne⟩) (H.pick (by walk_at "m_pick"))
      · refine List.nodup_append.mpr ⟨hnod.sublist List.filter_sublist, by simp, fun a ha c hc e => ?_⟩
        rw [List.mem_singleton.mp hc] at e
        have := (List.mem_filter.mp ha).2
        simp [e] at this
      · rw [List.mem_append, List.mem_filter, List.mem_singleton, ← hmem y]
        constructor
        · rintro (h | h)
          · exact h.1
          · rw [h]; exact (hmem yl).mpr hyl
        · intro h
          by_cases e : y = yl
          · exact .inr e
          · exact .inl ⟨h, by simpa using e⟩
  | succ n =>
    refine nextRange H (by walk_at "m_sub") (by omega) ?_
    clear H; intro s t3 H
    walk_at "m_store"
    clear H; intro s H
    have hpl : pl.length = n + 1 := by omega
    refine wpAny_execs_cons ?_
    refine wpAny_Expr_any ?_ V.quiet
    refine MethodCall_ ?_
    walk_at "m_name"
    obtain ⟨c0, g0⟩ := H.isList (a := oa) (items := ovs) (by walk_at "m_has")
    refine meth_bi g0 rfl rfl PySem.F.plainAttrs_list PySem.F.slot_list_append PySem.F.type_list_append ?_
    refine append_ (b := b) (xs := ovs) rfl ?_
    refine MethodCall_ ?_
    walk_at "m_name"
    obtain ⟨c1, g1⟩ := H.isList (a := pa) (items := pvs) (by walk_at "m_has")
    refine meth_bi g1 rfl rfl PySem.F.plainAttrs_list PySem.F.slot_list_pop PySem.F.type_list_pop ?_
    refine callWith_method1 ?_ rfl rfl
    refine spliced_more ?_
    refine wpAny_BinOp ?_
    walk_at "m_name"
    walk_at "m_name"
    refine mod_n H (by omega) ?_
    clear H; intro s u17 H
    refine spliced_none ?_
    obtain ⟨j, hj, hjl⟩ : ∃ j : Nat, x2.fmod ((k : Int) - i) = (j : Int) ∧ j < pl.length := by
      have h1 := Int.fmod_nonneg_of_pos x2 (show (0 : Int) < (k : Int) - i by omega)
      have h2 := Int.fmod_lt_of_pos x2 (show (0 : Int) < (k : Int) - i by omega)
      exact ⟨(x2.fmod ((k : Int) - i)).toNat, by omega, by omega⟩
    have hpvl := TxAre.len hpv
    rw [List.length_map] at hpvl
    have hovl := TxAre.len hov
    rw [List.length_map] at hovl
    obtain ⟨tj, htj⟩ := TxAre.at_ (i := j) hpv (by rw [List.getElem?_map, List.getElem?_eq_getElem hjl]; rfl)
    refine popAt_ H (by walk_at "m_sub") (by omega) (by omega) htj hj ?_
    clear H; intro s H
    refine ⟨_, _, by omega, H, by walk_at "m_sub", ?_⟩
    clear H; intro s H
    refine wpAny_execs_cons ?_
    refine wpAny_AugAssign_Name ?_
    refine ld V H (by walk_at "m_has") (by walk_at "m_at") (by decide) ?_
    walk_at "m_name"
    refine ifdiv_n H (by omega) (Nat.lt_of_le_of_lt (show ((k : Int) - i).natAbs ≤ 4 by omega) (by decide)) ?_
    clear H; intro s u18 H
    walk_at "m_store"
    clear H; intro s H
    refine wpAny_execs_nil ?_
    rw [show ((k : Int) - i + -1) = (k : Int) - ((i + 1 : Nat) : Int) from by omega, show ((k : Int) - i - 1) = (k : Int) - ((i + 1 : Nat) : Int) from by omega] at H
    refine ⟨n, Nat.lt_succ_self _, i + 1, ol ++ [pl[j]], pl.eraseIdx j, _, _, _, _, _, _, by omega, by rw [List.length_append, hol]; rfl, perm_step hperm (List.getElem?_eq_getElem hjl), ?_, ?_, rfl, H⟩
    · rw [List.map_append]; exact hov.append (.cons _ _ .nil)
    · have := hpv.erase j
      rw [map_erase] at this
      exact this
end Mine
end
section
open PySem PySem.W PySem.Calls PyProof.Rows
set_option Elab.async false
set_option maxRecDepth 100000
set_option maxHeartbeats 4000000
set_option linter.unusedVariables false
namespace Mine
local macro_rules | `(tactic| walk_at "m_fill") => `(tactic| ((have dummy : PySem.Challenge.rw_ez0279_01 = PySem.Challenge.rw_ez0279_01 ∧ hd.heap_39 = hd.heap_39 := by k_fill; exact ⟨rfl, rfl⟩); clear dummy))
local macro_rules | `(tactic| walk_at "m_facts") => `(tactic| (constructor <;> first | k_dflt k_is | decide +kernel))
theorem sl_fill_T25 : True := by walk_at "m_fill"; trivial
local macro_rules | `(tactic| walk_at "m_has") => `(tactic| with_reducible first | exact Has.head | (refine Has.tail ?_; walk_at "m_has") | (refine Has.of ?_; assumption) | assumption)
local macro_rules | `(tactic| walk_at "m_at") => `(tactic| with_reducible first | exact At.head | (refine At.tail ?_; walk_at "m_at"))
local macro_rules | `(tactic| walk_at "m_sub") => `(tactic| with_reducible first | exact Sub1.head | (apply Sub1.tail; walk_at "m_sub"))
local macro_rules | `(tactic| walk_at "m_put") => `(tactic| with_reducible first | exact PutAt.head | (apply PutAt.tail; walk_at "m_put"))
local macro_rules | `(tactic| walk_at "m_rem") => `(tactic| with_reducible first | exact Rem.head | (apply Rem.tail; walk_at "m_rem"))
local macro_rules | `(tactic| walk_at "m_pick") => `(tactic| with_reducible first | exact Pick.all | (apply Pick.take; (focus (walk_at "m_rem")); walk_at "m_pick") | (apply Pick.skip; walk_at "m_pick"))
local macro_rules | `(tactic| walk_at "m_room") => `(tactic| first | assumption | omega)
local macro_rules | `(tactic| walk_at "m_name") => `(tactic| refine nm (by assumption) (by assumption) (by walk_at "m_has") (by walk_at "m_at") (by decide) (by decide) ?_)
local macro_rules | `(tactic| walk_at "m_slotget") => `(tactic| (refine attr_slot (by assumption) (by first | exact sl_step _ | exact sl_node _ | exact sl_children _ | exact sl_value _) (by assumption) (by walk_at "m_has") (by exact rfl) (by walk_at "m_has") (by exact rfl) (by exact rfl) ?_))
local macro_rules | `(tactic| walk_at "m_store") => `(tactic| refine st_ (by assumption) (by assumption) (by decide) (by walk_at "m_sub") (by walk_at "m_put") ?_)
local macro_rules | `(tactic| walk_at "m_glob") => `(tactic| (refine glob (by assumption) (by assumption) (by assumption) (by decide) (by k_dflt k_is) (by decide) ?_))
variable {w : World} {A : Around} {E : Value → Shared → Prop} {b s : Shared} {cs cs' : List Cell} {R : Result → Shared → Prop} {env : Env} {pos : Pos}

local macro_rules | `(tactic| walk_at "m_bi") => `(tactic| (refine builtin (by assumption) (by assumption) (by assumption) (by decide) (by k_dflt k_is) (by boot_by_name) (by decide) (by decide) ?_))
local macro_rules | `(tactic| walk_at "m_cell") => `(tactic| refine nmC (by assumption) (by assumption) (by decide) (by exact rfl) (by walk_at "m_has") (by decide) ?_)
local macro_rules | `(tactic| walk_at "k_cell") => `(tactic| refine nmCK (by assumption) (by assumption) (by decide) (by exact rfl) (by walk_at "m_has") (by decide) ?_)
local macro_rules | `(tactic| walk_at "k_name") => `(tactic| refine nmK (by assumption) (by assumption) (by walk_at "m_has") (by walk_at "m_at") (by decide) (by decide) ?_)
theorem sp_contains (w : World) : findIn (hd.heap_39 w.params) (.ref 839) "__contains__" = some (some (.ref 652)) := by k_dflt k_is
theorem fn_contains (w : World) : isFn (hd.heap_39 w.params) (.ref 652) = true := by k_dflt k_is
theorem sp_setitem (w : World) : findIn (hd.heap_39 w.params) (.ref 839) "__setitem__" = some (some (.ref 691)) := by k_dflt k_is
theorem fn_setitem (w : World) : isFn (hd.heap_39 w.params) (.ref 691) = true := by k_dflt k_is
theorem ns_trie (w : World) : noSeq (hd.heap_39 w.params) 839 = true := by k_dflt k_is
theorem segT {L : Addr} {fd : FuncData} {body : List Stmt} {sc rs cl d a td : Addr} {cvs : List Value} {cz : List Int} {Q : Flow → Shared → Prop} {k sz T : Nat} {q1 q2 q3 q4 q5 tkT t1 t2 : Tok} {st t : List Nat} {tr : List Od} {v2 v3 v4 v5 v6 v7 v8 : Option Value} {r : Nd}
  (Fn : FnAt (hd.heap_39 w.params) 896 fd body) (V : EnvIs env L lawNk (lawCl L)) (B : Base (hd.heap_39 w.params) b) (hh : A.handled = none) (hA : A.depth + 20 < recursionLimit)
  (hcl : IntsAre cvs cz) (hclen : cvs.length = 7) (hk2 : 2 ≤ k) (hk4 : k ≤ 4) (hs2 : 2 ≤ sz) (hs4 : sz ≤ 4) (hst : st.length = sz - 1) (hstl : ∀ y ∈ st, y ∈ ltrs k)
  (I : Inv (ltrs k) st t (sz - 1) T (ordsOf tr)) (Z : TrieOk (r.er D0) t (sz - 1) T) (hok : r.ok D0) (htr : tr.length ≤ T) (hT : T ≤ 27)
  (H : St b s (.f L [(PySem.Str.ofString "script"), (PySem.Str.ofString "rest"), (PySem.Str.ofString "start"), (PySem.Str.ofString "orders"), (PySem.Str.ofString "turn"), (PySem.Str.ofString "digits"), (PySem.Str.ofString "pool"), (PySem.Str.ofString "order"), (PySem.Str.ofString "many"), (PySem.Str.ofString "fresh"), (PySem.Str.ofString "told")] [some (.ref sc), some (.ref rs), some (.str (tx st) q4), some (.ref d), some (.int T tkT), v2, v3, v4, v5, v6, none] :: .p (L + 8) (CellP (v8)) :: .p (L + 7) (CellP (v7)) :: .p (L + 6) (CellP (some (.ref a))) :: .p (L + 5) (CellP (some (.str (tx t) q5))) :: .p (L + 4) (CellP (some (.str (tx (ltrs k)) q3))) :: .p (L + 3) (CellP (some (.int sz q2))) :: .p (L + 2) (CellP (some (.int k q1))) :: .p (L + 1) (CellP (some (.ref cl))) :: .p cl (lstP cvs) :: .p d (dctP prog w (kvsOf tr)) :: .o a (trieObj td) :: .o td (dictOf (trieEs w.params (.ref r.a) (.ref cbA) t1 t2) 2) :: (Nd.cells w.params D0 r ++ (ordC tr ++ cs))))
  (hbrk : ∀ s' tr w2 w3 w4 w5 w6 w7 w8, (∀ x ∈ ltrs k, isWord t (sz - 1) T (wd t (sz - 1) T ++ [x])) → St b s' (.f L [(PySem.Str.ofString "script"), (PySem.Str.ofString "rest"), (PySem.Str.ofString "start"), (PySem.Str.ofString "orders"), (PySem.Str.ofString "turn"), (PySem.Str.ofString "digits"), (PySem.Str.ofString "pool"), (PySem.Str.ofString "order"), (PySem.Str.ofString "many"), (PySem.Str.ofString "fresh"), (PySem.Str.ofString "told")] [some (.ref sc), some (.ref rs), some (.str (tx st) q4), some (.ref d), some (.int T tkT), w2, w3, w4, w5, w6, none] :: .p (L + 8) (CellP (w8)) :: .p (L + 7) (CellP (w7)) :: .p (L + 6) (CellP (some (.ref a))) :: .p (L + 5) (CellP (some (.str (tx t) q5))) :: .p (L + 4) (CellP (some (.str (tx (ltrs k)) q3))) :: .p (L + 3) (CellP (some (.int sz q2))) :: .p (L + 2) (CellP (some (.int k q1))) :: .p (L + 1) (CellP (some (.ref cl))) :: .p cl (lstP cvs) :: .p d (dctP prog w (kvsOf tr)) :: .o a (trieObj td) :: .o td (dictOf (trieEs w.params (.ref r.a) (.ref cbA) t1 t2) 2) :: (Nd.cells w.params D0 r ++ (ordC tr ++ cs))) → Q .brk s')
  (hnext : ∀ s' tr (r' : Nd) y q5 w2 w3 w4 w5 w6 w7 w8, Inv (ltrs k) st (t ++ [y]) (sz - 1) (T + 1) (ordsOf tr) → TrieOk (r'.er D0) (t ++ [y]) (sz - 1) (T + 1) → r'.ok D0 → tr.length ≤ T + 1 →
    St b s' (.f L [(PySem.Str.ofString "script"), (PySem.Str.ofString "rest"), (PySem.Str.ofString "start"), (PySem.Str.ofString "orders"), (PySem.Str.ofString "turn"), (PySem.Str.ofString "digits"), (PySem.Str.ofString "pool"), (PySem.Str.ofString "order"), (PySem.Str.ofString "many"), (PySem.Str.ofString "fresh"), (PySem.Str.ofString "told")] [some (.ref sc), some (.ref rs), some (.str (tx st) q4), some (.ref d), some (.int T tkT), w2, w3, w4, w5, w6, none] :: .p (L + 8) (CellP (w8)) :: .p (L + 7) (CellP (w7)) :: .p (L + 6) (CellP (some (.ref a))) :: .p (L + 5) (CellP (some (.str (tx (t ++ [y])) q5))) :: .p (L + 4) (CellP (some (.str (tx (ltrs k)) q3))) :: .p (L + 3) (CellP (some (.int sz q2))) :: .p (L + 2) (CellP (some (.int k q1))) :: .p (L + 1) (CellP (some (.ref cl))) :: .p cl (lstP cvs) :: .p d (dctP prog w (kvsOf tr)) :: .o a (trieObj td) :: .o td (dictOf (trieEs w.params (.ref r'.a) (.ref cbA) t1 t2) 2) :: (Nd.cells w.params D0 r' ++ (ordC tr ++ cs))) → Q .next s') :
  wpAny (model prog w) A (execs (nav [6, 0] body) env) Q E s := by
  have e := Fn.body_eq (K := (hd.heap_39 w.params)) ⟨⟨_, _, _, by k_dflt k_is⟩, by k_dflt k_is, by exact rfl, by exact rfl, by exact rfl, by exact rfl, by exact rfl, by exact rfl⟩
  subst e
  dsimp only [nav, List.drop]
  have W := I.W
  have htl := W.len
  have hend : t.drop T = wd t (sz - 1) T := by
    have := W.end_
    rwa [show t.length - (sz - 1) = T from by omega] at this
  -- end
  refine wpAny_execs_cons ?_
  refine wpAny_Assign_Name ?_
  refine sub_from_ b ?_
  walk_at "m_cell"
  refine wpAny_BinOp ?_
  refine wpAny_BinOp ?_
  refine Call_ ?_
  walk_at "m_bi"
  refine callWith_builtin1 ?_ rfl rfl
  refine spliced_more ?_
  walk_at "m_cell"
  refine spliced_none ?_
  refine len_tx H (by omega) ?_
  clear H; intro s u1 H
  walk_at "m_cell"
  refine sub_n H ?_
  clear H; intro s u2 H
  refine kInt H ?_
  clear H; intro s u3 H
  refine add_n H ?_
  clear H; intro s u4 H
  refine ⟨_, _, _, _, T, _, _, rfl, rfl, H, .head, rfl, by omega, by omega, by omega, ?_⟩
  rw [hend]
  clear H; intro s q7 H
  refine stC V H (by decide) (by exact rfl) (by walk_at "m_sub") ?_
  clear H; intro s H
  have hel := W.end_length
  generalize hev : wd t (sz - 1) T = ev at *
  have H : St b s (.f L [(PySem.Str.ofString "script"), (PySem.Str.ofString "rest"), (PySem.Str.ofString "start"), (PySem.Str.ofString "orders"), (PySem.Str.ofString "turn"), (PySem.Str.ofString "digits"), (PySem.Str.ofString "pool"), (PySem.Str.ofString "order"), (PySem.Str.ofString "many"), (PySem.Str.ofString "fresh"), (PySem.Str.ofString "told")] [some (.ref sc), some (.ref rs), some (.str (tx st) q4), some (.ref d), some (.int T tkT), v2, v3, v4, v5, v6, none] :: .p (L + 8) (CellP (v8)) :: .p (L + 7) (CellP (some (.str (tx ev) q7))) :: .p (L + 6) (CellP (some (.ref a))) :: .p (L + 5) (CellP (some (.str (tx t) q5))) :: .p (L + 4) (CellP (some (.str (tx (ltrs k)) q3))) :: .p (L + 3) (CellP (some (.int sz q2))) :: .p (L + 2) (CellP (some (.int k q1))) :: .p (L + 1) (CellP (some (.ref cl))) :: .p cl (lstP cvs) :: .p d (dctP prog w (kvsOf tr)) :: .o a (trieObj td) :: .o td (dictOf (trieEs w.params (.ref r.a) (.ref cbA) t1 t2) 2) :: (Nd.cells w.params D0 r ++ (ordC tr ++ cs))) := H
  refine wpAny_execs_cons ?_
  refine wpAny_mono (Q := fun f s => f = .next ∧ ∃ (tr' : List Od) (p : Od) (w2 w3 w4 w5 w8 : Option Value), p ∈ tr' ∧ tr'.find? (fun p => p.v = ev) = some p ∧ Inv (ltrs k) st t (sz - 1) T (ordsOf tr') ∧ tr'.length ≤ T + 1 ∧
    St b s (.f L [(PySem.Str.ofString "script"), (PySem.Str.ofString "rest"), (PySem.Str.ofString "start"), (PySem.Str.ofString "orders"), (PySem.Str.ofString "turn"), (PySem.Str.ofString "digits"), (PySem.Str.ofString "pool"), (PySem.Str.ofString "order"), (PySem.Str.ofString "many"), (PySem.Str.ofString "fresh"), (PySem.Str.ofString "told")] [some (.ref sc), some (.ref rs), some (.str (tx st) q4), some (.ref d), some (.int T tkT), w2, w3, w4, w5, v6, none] :: .p (L + 8) (CellP (w8)) :: .p (L + 7) (CellP (some (.str (tx ev) q7))) :: .p (L + 6) (CellP (some (.ref a))) :: .p (L + 5) (CellP (some (.str (tx t) q5))) :: .p (L + 4) (CellP (some (.str (tx (ltrs k)) q3))) :: .p (L + 3) (CellP (some (.int sz q2))) :: .p (L + 2) (CellP (some (.int k q1))) :: .p (L + 1) (CellP (some (.ref cl))) :: .p cl (lstP cvs) :: .p d (dctP prog w (kvsOf tr')) :: .o a (trieObj td) :: .o td (dictOf (trieEs w.params (.ref r.a) (.ref cbA) t1 t2) 2) :: (Nd.cells w.params D0 r ++ (ordC tr' ++ cs)))) ?_ (fun f s hf => ?_) (fun _ _ z => z)
  · refine wpAny_If ?_
    refine wpAny_isTrue_Compare1 ?_
    walk_at "m_cell"
    walk_at "m_name"
    refine notin_dct B H (by walk_at "m_has") ?_
    clear H; intro s H
    refine wpAny_truthy_bool ?_
    rw [valueAt_kvs]
    cases hf : tr.find? (fun p => p.v = ev) with
    | some p =>
      rw [if_neg (by simp)]
      refine wpAny_execs_nil ?_
      exact ⟨rfl, tr, p, _, _, _, _, _, List.mem_of_find?_eq_some hf, hf, I, by omega, H⟩
    | none =>
      rw [if_pos (by simp)]
      refine segO (X := .o a (trieObj td) :: .o td (dictOf (trieEs w.params (.ref r.a) (.ref cbA) t1 t2) 2) :: (Nd.cells w.params D0 r ++ (ordC tr ++ cs))) Fn V B hh (by omega) hcl hclen hk2 hk4 hs2 hs4 hst hstl hel hf (by omega) H ?_
      clear H; intro s x w2 w3 w4 w5 w8 hxv hxn hxm hxl H
      refine ⟨rfl, tr ++ [x], x, w2, w3, w4, w5, w8, by simp, ?_, ?_, by rw [List.length_append]; simpa using htr, ?_⟩
      · rw [List.find?_append, hf]; simp [hxv]
      · rw [ordsOf_add (by rw [hxv]; exact hf), hxv]
        exact I.lay (ordsOf_none.mpr hf) hxn hxm hxl
      · rw [ordC_add]
        refine H.perm ?_
        iterate 11 apply List.Perm.cons
        exact perm_ord _ _ _ _ _ _
  · clear H
    obtain ⟨rfl, tr', p, w2, w3, w4, w5, w8, hp, hfind, I', htr', H⟩ := hf
    have hord : ordsOf tr' ev = some p.o := by unfold ordsOf; rw [hfind]; rfl
    have O := I'.ord ev p.o hord
    obtain ⟨kf, hfr⟩ := O.front
    have hpm : Cell.p p.a (lstP p.vs) ∈ Nd.cells w.params D0 r ++ (ordC tr' ++ cs) := List.mem_append_right _ (List.mem_append_left _ (List.mem_map.mpr ⟨p, hp, rfl⟩))
    have hevl : ∀ x ∈ ev, x ∈ ltrs k := fun x hx => W.lets x (List.mem_of_mem_drop (List.mem_of_mem_take (by rw [← hev] at hx; exact hx)))
    have hasc : ∀ y ∈ ltrs k, ((tx (ev ++ [y])).cps.all fun c => decide (c < 128)) = true := by
      intro y hy
      simp only [List.all_toArray, List.all_eq_true, decide_eq_true_eq, List.mem_append, List.mem_singleton]
      rintro x (h | h)
      · exact ltrs_asc (hevl x h)
      · rw [h]; exact ltrs_asc hy
    have hpol : p.o.length ≤ 4 := by
      have := nodup_sub O.nod (fun x hx => (O.all x).mp hx)
      rw [ltrs_len hk4] at this; omega
    have hpvl := TxAre.len p.ok
    rw [List.length_map] at hpvl
    have hpb : ∀ y, ((r.er D0).get (ev ++ [y])).isSome = true ↔ isWord t (sz - 1) T (ev ++ [y]) := fun y => Z.has W _
    refine wpAny_execs_cons ?_
    refine comp_use (b := b) (ns := [S "letter"]) (cl := [(S "trie", L + 6), (S "end", L + 7)]) (swaps_yes V (by decide) (by decide) (by decide)) (by decide) rfl (closure_of V (by exact rfl)) (by decide) rfl (by decide) ?_
    refine Subscript_ ?_
    walk_at "m_name"
    walk_at "m_cell"
    refine at_dct H (by walk_at "m_has") (by rw [valueAt_kvs, hfind]; rfl) ?_
    clear H; intro s H
    refine iterList H (by walk_at "m_has") ?_
    clear H; intro s it3 H
    refine ⟨_, H, ⟨_, .head, rfl⟩, fun s D C H => ⟨fun H hq => selfList H (by walk_at "m_has") hq, ?_⟩⟩
    generalize he : compEnvC _ _ C env = cenv
    have VK : EnvK cenv C [(S ".0", .local), (S "letter", .local), (S "end", .cell), (S "trie", .cell)] [(S "trie", L + 6), (S "end", L + 7)] := he ▸ EnvK.comp V.toK rfl (by exact rfl)
    clear he
    have H : St b s (.f C [S "letter"] [none] :: .p D (lstP []) :: .p it3 (LIter p.a 0) :: .f L [(PySem.Str.ofString "script"), (PySem.Str.ofString "rest"), (PySem.Str.ofString "start"), (PySem.Str.ofString "orders"), (PySem.Str.ofString "turn"), (PySem.Str.ofString "digits"), (PySem.Str.ofString "pool"), (PySem.Str.ofString "order"), (PySem.Str.ofString "many"), (PySem.Str.ofString "fresh"), (PySem.Str.ofString "told")] [some (.ref sc), some (.ref rs), some (.str (tx st) q4), some (.ref d), some (.int T tkT), w2, w3, w4, w5, v6, none] :: .p (L + 8) (CellP (w8)) :: .p (L + 7) (CellP (some (.str (tx ev) q7))) :: .p (L + 6) (CellP (some (.ref a))) :: .p (L + 5) (CellP (some (.str (tx t) q5))) :: .p (L + 4) (CellP (some (.str (tx (ltrs k)) q3))) :: .p (L + 3) (CellP (some (.int sz q2))) :: .p (L + 2) (CellP (some (.int k q1))) :: .p (L + 1) (CellP (some (.ref cl))) :: .p cl (lstP cvs) :: .p d (dctP prog w (kvsOf tr')) :: .o a (trieObj td) :: .o td (dictOf (trieEs w.params (.ref r.a) (.ref cbA) t1 t2) 2) :: (Nd.cells w.params D0 r ++ (ordC tr' ++ cs))) := H
    refine comp_loop1 p.o.length (fun i s => ∃ us k0, TxAre us (((p.o.take i).filter fun y => !((r.er D0).get (ev ++ [y])).isSome).map fun y => [y]) ∧ us.length ≤ i ∧
      St b s (.f C [S "letter"] [k0] :: .p D (lstP us) :: .p it3 (LIter p.a i) :: .f L [(PySem.Str.ofString "script"), (PySem.Str.ofString "rest"), (PySem.Str.ofString "start"), (PySem.Str.ofString "orders"), (PySem.Str.ofString "turn"), (PySem.Str.ofString "digits"), (PySem.Str.ofString "pool"), (PySem.Str.ofString "order"), (PySem.Str.ofString "many"), (PySem.Str.ofString "fresh"), (PySem.Str.ofString "told")] [some (.ref sc), some (.ref rs), some (.str (tx st) q4), some (.ref d), some (.int T tkT), w2, w3, w4, w5, v6, none] :: .p (L + 8) (CellP (w8)) :: .p (L + 7) (CellP (some (.str (tx ev) q7))) :: .p (L + 6) (CellP (some (.ref a))) :: .p (L + 5) (CellP (some (.str (tx t) q5))) :: .p (L + 4) (CellP (some (.str (tx (ltrs k)) q3))) :: .p (L + 3) (CellP (some (.int sz q2))) :: .p (L + 2) (CellP (some (.int k q1))) :: .p (L + 1) (CellP (some (.ref cl))) :: .p cl (lstP cvs) :: .p d (dctP prog w (kvsOf tr')) :: .o a (trieObj td) :: .o td (dictOf (trieEs w.params (.ref r.a) (.ref cbA) t1 t2) 2) :: (Nd.cells w.params D0 r ++ (ordC tr' ++ cs)))) ?_ ?_ ⟨[], none, .nil, Nat.le_refl _, H⟩
    · clear H; rintro i s E' hi ⟨us, k0, hv, hul, H⟩
      obtain ⟨ti, hti⟩ := TxAre.at_ (i := i) p.ok (by rw [List.getElem?_map, List.getElem?_eq_getElem hi]; rfl)
      refine nextList H (by walk_at "m_has") (by walk_at "m_sub") hti ?_
      clear H; intro s H
      refine ⟨_, rfl, ?_⟩
      refine wpAny_assign_Name ?_
      refine stK VK H (by decide) (by walk_at "m_sub") (by walk_at "m_put") ?_
      clear H; intro s H
      refine wpAny_isTrue_Compare1 ?_
      refine wpAny_BinOp ?_
      walk_at "k_cell"
      walk_at "k_name"
      refine add_tx H (by rw [hel]; simp; omega) ?_
      clear H; intro s u5 H
      walk_at "k_cell"
      have hyl : p.o[i] ∈ ltrs k := (O.all _).mp (List.getElem_mem hi)
      refine notIn_own B (sp_contains w) (fn_contains w) H .head (by walk_at "m_has") rfl (by walk_at "m_has") ?_
      refine wpAny_call ?_
      refine has_key B H (by walk_at "m_has") (by walk_at "m_has") (fun c hc => ?_) hok (hasc _ hyl) (by omega) hh ?_
      · iterate 16 refine List.Mem.tail _ ?_
        exact List.mem_append_left _ hc
      clear H; intro s H
      refine wpAny_truthy_bool ?_
      refine wpAny_truthy_bool ?_
      by_cases hpp : ((r.er D0).get (ev ++ [p.o[i]])).isSome = true
      · rw [if_neg (by simp [hpp])]
        refine ⟨us, _, ?_, Nat.le_succ_of_le hul, H⟩
        rw [List.take_succ_eq_append_getElem hi, List.filter_append, List.filter_cons_of_neg (by simp [hpp]), List.filter_nil, List.append_nil]
        exact hv
      · rw [if_pos (by simp [hpp])]
        walk_at "k_name"
        refine lstP_append H (by walk_at "m_sub") (by omega) ?_
        clear H; intro s H
        refine ⟨_, _, ?_, ?_, H⟩
        · rw [List.take_succ_eq_append_getElem hi, List.filter_append, List.filter_cons_of_pos (by simp [hpp]), List.filter_nil, List.map_append]
          exact hv.append (.cons _ _ .nil)
        · rw [List.length_append]; simpa using hul
    · clear H; rintro s E' ⟨us, k0, hv, hul, H⟩
      rw [List.take_length] at hv
      refine endList hh (H.pick (r := .p it3 (LIter p.a p.o.length) :: .f C [S "letter"] [k0] :: .p D (lstP us) :: .f L [(PySem.Str.ofString "script"), (PySem.Str.ofString "rest"), (PySem.Str.ofString "start"), (PySem.Str.ofString "orders"), (PySem.Str.ofString "turn"), (PySem.Str.ofString "digits"), (PySem.Str.ofString "pool"), (PySem.Str.ofString "order"), (PySem.Str.ofString "many"), (PySem.Str.ofString "fresh"), (PySem.Str.ofString "told")] [some (.ref sc), some (.ref rs), some (.str (tx st) q4), some (.ref d), some (.int T tkT), w2, w3, w4, w5, v6, none] :: .p (L + 8) (CellP (w8)) :: .p (L + 7) (CellP (some (.str (tx ev) q7))) :: .p (L + 6) (CellP (some (.ref a))) :: .p (L + 5) (CellP (some (.str (tx t) q5))) :: .p (L + 4) (CellP (some (.str (tx (ltrs k)) q3))) :: .p (L + 3) (CellP (some (.int sz q2))) :: .p (L + 2) (CellP (some (.int k q1))) :: .p (L + 1) (CellP (some (.ref cl))) :: .p cl (lstP cvs) :: .p d (dctP prog w (kvsOf tr')) :: .o a (trieObj td) :: .o td (dictOf (trieEs w.params (.ref r.a) (.ref cbA) t1 t2) 2) :: (Nd.cells w.params D0 r ++ (ordC tr' ++ cs))) (by walk_at "m_pick")) (by walk_at "m_has") (List.getElem?_eq_none (by omega)) ?_
      clear H; intro s H
      refine ⟨rfl, _, rfl, ?_⟩
      walk_at "m_store"
      clear H; intro s H
      refine ⟨_, _, H, ?_⟩
      clear H; intro s H
      have H : St b s (.p D (lstP us) :: .f L [(PySem.Str.ofString "script"), (PySem.Str.ofString "rest"), (PySem.Str.ofString "start"), (PySem.Str.ofString "orders"), (PySem.Str.ofString "turn"), (PySem.Str.ofString "digits"), (PySem.Str.ofString "pool"), (PySem.Str.ofString "order"), (PySem.Str.ofString "many"), (PySem.Str.ofString "fresh"), (PySem.Str.ofString "told")] [some (.ref sc), some (.ref rs), some (.str (tx st) q4), some (.ref d), some (.int T tkT), w2, w3, w4, w5, some (.ref D), none] :: .p (L + 8) (CellP (w8)) :: .p (L + 7) (CellP (some (.str (tx ev) q7))) :: .p (L + 6) (CellP (some (.ref a))) :: .p (L + 5) (CellP (some (.str (tx t) q5))) :: .p (L + 4) (CellP (some (.str (tx (ltrs k)) q3))) :: .p (L + 3) (CellP (some (.int sz q2))) :: .p (L + 2) (CellP (some (.int k q1))) :: .p (L + 1) (CellP (some (.ref cl))) :: .p cl (lstP cvs) :: .p d (dctP prog w (kvsOf tr')) :: .o a (trieObj td) :: .o td (dictOf (trieEs w.params (.ref r.a) (.ref cbA) t1 t2) 2) :: (Nd.cells w.params D0 r ++ (ordC tr' ++ cs))) := H
      refine wpAny_execs_cons ?_
      refine wpAny_If ?_
      refine isTrue_not ?_
      refine isTrue_plain ?_
      walk_at "m_name"
      refine true_lst H .head (by omega) ?_
      clear H; intro s H
      have hflt : ∀ y, y ∈ p.o.filter (fun y => !((r.er D0).get (ev ++ [y])).isSome) ↔ y ∈ p.o ∧ ¬ isWord t (sz - 1) T (ev ++ [y]) := by
        intro y
        rw [List.mem_filter, ← hpb y]
        simp
      have hdrop : p.o.filter (fun y => !((r.er D0).get (ev ++ [y])).isSome) = p.o.drop kf := front_filter (fun y => ((r.er D0).get (ev ++ [y])).isSome) kf O.nod fun x hx => by rw [hpb x]; exact hfr x hx
      cases hfl : p.o.filter (fun y => !((r.er D0).get (ev ++ [y])).isSome) with
      | nil =>
        rw [hfl] at hv
        cases hv
        rw [if_pos (by rfl)]
        refine wpAny_execs_cons ?_
        refine wpAny_Break ?_
        refine hbrk s tr' _ _ _ _ _ _ _ (fun x hx => ?_) (H.pick (by walk_at "m_pick"))
        have hxo := (O.all x).mpr hx
        refine Classical.byContradiction fun q => ?_
        have := (hflt x).mpr ⟨hxo, q⟩
        rw [hfl] at this
        cases this
      | cons y rest =>
        rw [hfl] at hv
        have hyf : y ∈ p.o ∧ ¬ isWord t (sz - 1) T (ev ++ [y]) := (hflt y).mp (by rw [hfl]; exact .head _)
        have hyl : y ∈ ltrs k := (O.all y).mp hyf.1
        obtain ⟨ty, hty⟩ := TxAre.at_ (i := 0) hv rfl
        have hus : us.isEmpty = false := by
          have := TxAre.len hv
          cases us with
          | nil => simp at this
          | cons _ _ => rfl
        rw [if_neg (by rw [hus]; decide)]
        refine wpAny_execs_nil ?_
        refine wpAny_execs_cons ?_
        refine wpAny_Assign_Subscript ?_
        walk_at "m_name"
        walk_at "m_cell"
        refine wpAny_BinOp ?_
        walk_at "m_cell"
        refine Subscript_ ?_
        walk_at "m_name"
        refine kInt H ?_
        clear H; intro s u6 H
        refine atl_ H .head (k := 0) rfl hty (by decide) ?_
        refine add_tx H (by rw [hel]; simp; omega) ?_
        clear H; intro s u7 H
        refine setItem_own B (ns_trie w) (sp_setitem w) (fn_setitem w) H (by walk_at "m_has") (by walk_at "m_has") rfl (by walk_at "m_has") ?_
        refine wpAny_call ?_
        refine set_item (r := r) (cb := .ref cbA) (x := tx (ev ++ [y])) (cs := (.p D (lstP us) :: .f L [(PySem.Str.ofString "script"), (PySem.Str.ofString "rest"), (PySem.Str.ofString "start"), (PySem.Str.ofString "orders"), (PySem.Str.ofString "turn"), (PySem.Str.ofString "digits"), (PySem.Str.ofString "pool"), (PySem.Str.ofString "order"), (PySem.Str.ofString "many"), (PySem.Str.ofString "fresh"), (PySem.Str.ofString "told")] [some (.ref sc), some (.ref rs), some (.str (tx st) q4), some (.ref d), some (.int T tkT), w2, w3, w4, w5, some (.ref D), none] :: .p (L + 8) (CellP (w8)) :: .p (L + 7) (CellP (some (.str (tx ev) q7))) :: .p (L + 6) (CellP (some (.ref a))) :: .p (L + 5) (CellP (some (.str (tx t) q5))) :: .p (L + 4) (CellP (some (.str (tx (ltrs k)) q3))) :: .p (L + 3) (CellP (some (.int sz q2))) :: .p (L + 2) (CellP (some (.int k q1))) :: .p (L + 1) (CellP (some (.ref cl))) :: .p cl (lstP cvs) :: .p d (dctP prog w (kvsOf tr')) :: []) ++ (ordC tr' ++ cs)) B (H.perm (perm_mid (.p D (lstP us) :: .f L [(PySem.Str.ofString "script"), (PySem.Str.ofString "rest"), (PySem.Str.ofString "start"), (PySem.Str.ofString "orders"), (PySem.Str.ofString "turn"), (PySem.Str.ofString "digits"), (PySem.Str.ofString "pool"), (PySem.Str.ofString "order"), (PySem.Str.ofString "many"), (PySem.Str.ofString "fresh"), (PySem.Str.ofString "told")] [some (.ref sc), some (.ref rs), some (.str (tx st) q4), some (.ref d), some (.int T tkT), w2, w3, w4, w5, some (.ref D), none] :: .p (L + 8) (CellP (w8)) :: .p (L + 7) (CellP (some (.str (tx ev) q7))) :: .p (L + 6) (CellP (some (.ref a))) :: .p (L + 5) (CellP (some (.str (tx t) q5))) :: .p (L + 4) (CellP (some (.str (tx (ltrs k)) q3))) :: .p (L + 3) (CellP (some (.int sz q2))) :: .p (L + 2) (CellP (some (.int k q1))) :: .p (L + 1) (CellP (some (.ref cl))) :: .p cl (lstP cvs) :: .p d (dctP prog w (kvsOf tr')) :: []) (Nd.cells w.params D0 r) (ordC tr' ++ cs) (.o a (trieObj td)) (.o td (dictOf (trieEs w.params (.ref r.a) (.ref cbA) t1 t2) 2)))) hok (hasc y hyl) (.int _ _) rfl (by omega) hh ?_
        clear H; intro s r' hra hok' her H
        have H : St b s (.p D (lstP us) :: .f L [(PySem.Str.ofString "script"), (PySem.Str.ofString "rest"), (PySem.Str.ofString "start"), (PySem.Str.ofString "orders"), (PySem.Str.ofString "turn"), (PySem.Str.ofString "digits"), (PySem.Str.ofString "pool"), (PySem.Str.ofString "order"), (PySem.Str.ofString "many"), (PySem.Str.ofString "fresh"), (PySem.Str.ofString "told")] [some (.ref sc), some (.ref rs), some (.str (tx st) q4), some (.ref d), some (.int T tkT), w2, w3, w4, w5, some (.ref D), none] :: .p (L + 8) (CellP (w8)) :: .p (L + 7) (CellP (some (.str (tx ev) q7))) :: .p (L + 6) (CellP (some (.ref a))) :: .p (L + 5) (CellP (some (.str (tx t) q5))) :: .p (L + 4) (CellP (some (.str (tx (ltrs k)) q3))) :: .p (L + 3) (CellP (some (.int sz q2))) :: .p (L + 2) (CellP (some (.int k q1))) :: .p (L + 1) (CellP (some (.ref cl))) :: .p cl (lstP cvs) :: .p d (dctP prog w (kvsOf tr')) :: .o a (trieObj td) :: .o td (dictOf (trieEs w.params (.ref r'.a) (.ref cbA) t1 t2) 2) :: (Nd.cells w.params D0 r' ++ (ordC tr' ++ cs))) := by
          rw [hra]
          exact H.perm (perm_mid (.p D (lstP us) :: .f L [(PySem.Str.ofString "script"), (PySem.Str.ofString "rest"), (PySem.Str.ofString "start"), (PySem.Str.ofString "orders"), (PySem.Str.ofString "turn"), (PySem.Str.ofString "digits"), (PySem.Str.ofString "pool"), (PySem.Str.ofString "order"), (PySem.Str.ofString "many"), (PySem.Str.ofString "fresh"), (PySem.Str.ofString "told")] [some (.ref sc), some (.ref rs), some (.str (tx st) q4), some (.ref d), some (.int T tkT), w2, w3, w4, w5, some (.ref D), none] :: .p (L + 8) (CellP (w8)) :: .p (L + 7) (CellP (some (.str (tx ev) q7))) :: .p (L + 6) (CellP (some (.ref a))) :: .p (L + 5) (CellP (some (.str (tx t) q5))) :: .p (L + 4) (CellP (some (.str (tx (ltrs k)) q3))) :: .p (L + 3) (CellP (some (.int sz q2))) :: .p (L + 2) (CellP (some (.int k q1))) :: .p (L + 1) (CellP (some (.ref cl))) :: .p cl (lstP cvs) :: .p d (dctP prog w (kvsOf tr')) :: []) (Nd.cells w.params D0 r') (ordC tr' ++ cs) (.o a (trieObj td)) (.o td (dictOf (trieEs w.params (.ref r.a) (.ref cbA) t1 t2) 2))).symm
        refine wpAny_execs_cons ?_
        refine wpAny_AugAssign_Name ?_
        refine ldC V H (by decide) (by exact rfl) (by walk_at "m_has") ?_
        refine Subscript_ ?_
        walk_at "m_name"
        refine kInt H ?_
        clear H; intro s u8 H
        refine atl_ H .head (k := 0) rfl hty (by decide) ?_
        refine iadd_tx H (by simp; omega) ?_
        clear H; intro s q5' H
        refine stC V H (by decide) (by exact rfl) (by walk_at "m_sub") ?_
        clear H; intro s H
        refine wpAny_execs_nil ?_
        refine hnext s tr' r' y q5' _ _ _ _ _ _ _ ?_ ?_ hok' htr' (H.pick (by walk_at "m_pick"))
        · exact I'.turn (by rw [hev]; exact hord) (by rw [hev]; exact hfr) (by rw [← hdrop]; exact hfl)
        · rw [her]
          have := Z.step (u := tkT) W (y := y) (by rw [hev]; exact hyf.2)
          rw [hev] at this
          exact this
end Mine
end
section
open PySem PySem.W PySem.Calls PyProof.Rows
set_option Elab.async false
set_option maxRecDepth 100000
set_option maxHeartbeats 4000000
set_option linter.unusedVariables false
namespace Mine
local macro_rules | `(tactic| walk_at "m_fill") => `(tactic| ((have dummy : PySem.Challenge.rw_ez0279_01 = PySem.Challenge.rw_ez0279_01 ∧ hd.heap_39 = hd.heap_39 := by k_fill; exact ⟨rfl, rfl⟩); clear dummy))
local macro_rules | `(tactic| walk_at "m_facts") => `(tactic| (constructor <;> first | k_dflt k_is | decide +kernel))
theorem sl_fill_T26 : True := by walk_at "m_fill"; trivial
local macro_rules | `(tactic| walk_at "m_has") => `(tactic| with_reducible first | exact Has.head | (refine Has.tail ?_; walk_at "m_has") | (refine Has.of ?_; assumption) | assumption)
local macro_rules | `(tactic| walk_at "m_at") => `(tactic| with_reducible first | exact At.head | (refine At.tail ?_; walk_at "m_at"))
local macro_rules | `(tactic| walk_at "m_sub") => `(tactic| with_reducible first | exact Sub1.head | (apply Sub1.tail; walk_at "m_sub"))
local macro_rules | `(tactic| walk_at "m_put") => `(tactic| with_reducible first | exact PutAt.head | (apply PutAt.tail; walk_at "m_put"))
local macro_rules | `(tactic| walk_at "m_rem") => `(tactic| with_reducible first | exact Rem.head | (apply Rem.tail; walk_at "m_rem"))
local macro_rules | `(tactic| walk_at "m_pick") => `(tactic| with_reducible first | exact Pick.all | (apply Pick.take; (focus (walk_at "m_rem")); walk_at "m_pick") | (apply Pick.skip; walk_at "m_pick"))
local macro_rules | `(tactic| walk_at "m_room") => `(tactic| first | assumption | omega)
local macro_rules | `(tactic| walk_at "m_name") => `(tactic| refine nm (by assumption) (by assumption) (by walk_at "m_has") (by walk_at "m_at") (by decide) (by decide) ?_)
local macro_rules | `(tactic| walk_at "m_slotget") => `(tactic| (refine attr_slot (by assumption) (by first | exact sl_step _ | exact sl_node _ | exact sl_children _ | exact sl_value _) (by assumption) (by walk_at "m_has") (by exact rfl) (by walk_at "m_has") (by exact rfl) (by exact rfl) ?_))
local macro_rules | `(tactic| walk_at "m_store") => `(tactic| refine st_ (by assumption) (by assumption) (by decide) (by walk_at "m_sub") (by walk_at "m_put") ?_)
local macro_rules | `(tactic| walk_at "m_glob") => `(tactic| (refine glob (by assumption) (by assumption) (by assumption) (by decide) (by k_dflt k_is) (by decide) ?_))
variable {w : World} {A : Around} {E : Value → Shared → Prop} {b s : Shared} {cs cs' : List Cell} {R : Result → Shared → Prop} {env : Env} {pos : Pos}

local macro_rules | `(tactic| walk_at "m_bi") => `(tactic| (refine builtin (by assumption) (by assumption) (by assumption) (by decide) (by k_dflt k_is) (by boot_by_name) (by decide) (by decide) ?_))
local macro_rules | `(tactic| walk_at "m_cell") => `(tactic| refine nmC (by assumption) (by assumption) (by decide) (by exact rfl) (by walk_at "m_has") (by decide) ?_)
local macro_rules | `(tactic| walk_at "k_cell") => `(tactic| refine nmCK (by assumption) (by assumption) (by decide) (by exact rfl) (by walk_at "m_has") (by decide) ?_)
local macro_rules | `(tactic| walk_at "k_name") => `(tactic| refine nmK (by assumption) (by assumption) (by walk_at "m_has") (by walk_at "m_at") (by decide) (by decide) ?_)
theorem segL {L : Addr} {fd : FuncData} {body : List Stmt} {sc rs cl d a td : Addr} {cvs : List Value} {cz : List Int} {Q : Flow → Shared → Prop} {k sz : Nat} {q1 q2 q3 q4 q5 t1 t2 : Tok} {st : List Nat} {v1 v2 v3 v4 v5 v6 v7 v8 : Option Value} {r : Nd}
  (Fn : FnAt (hd.heap_39 w.params) 896 fd body) (V : EnvIs env L lawNk (lawCl L)) (B : Base (hd.heap_39 w.params) b) (hh : A.handled = none) (hA : A.depth + 20 < recursionLimit)
  (hcl : IntsAre cvs cz) (hclen : cvs.length = 7) (hk2 : 2 ≤ k) (hk4 : k ≤ 4) (hs2 : 2 ≤ sz) (hs4 : sz ≤ 4) (hN : k ^ sz ≤ 27) (hst : st.length = sz - 1) (hstl : ∀ y ∈ st, y ∈ ltrs k)
  (hok : r.ok D0) (her : r.er D0 = .empty)
  (H : St b s (.f L [(PySem.Str.ofString "script"), (PySem.Str.ofString "rest"), (PySem.Str.ofString "start"), (PySem.Str.ofString "orders"), (PySem.Str.ofString "turn"), (PySem.Str.ofString "digits"), (PySem.Str.ofString "pool"), (PySem.Str.ofString "order"), (PySem.Str.ofString "many"), (PySem.Str.ofString "fresh"), (PySem.Str.ofString "told")] [some (.ref sc), some (.ref rs), some (.str (tx st) q4), some (.ref d), v1, v2, v3, v4, v5, v6, none] :: .p (L + 8) (CellP (v8)) :: .p (L + 7) (CellP (v7)) :: .p (L + 6) (CellP (some (.ref a))) :: .p (L + 5) (CellP (some (.str (tx st) q5))) :: .p (L + 4) (CellP (some (.str (tx (ltrs k)) q3))) :: .p (L + 3) (CellP (some (.int sz q2))) :: .p (L + 2) (CellP (some (.int k q1))) :: .p (L + 1) (CellP (some (.ref cl))) :: .p cl (lstP cvs) :: .p d (dctP prog w (kvsOf [])) :: .o a (trieObj td) :: .o td (dictOf (trieEs w.params (.ref r.a) (.ref cbA) t1 t2) 2) :: (Nd.cells w.params D0 r ++ (ordC [] ++ (cs)))))
  (h : ∀ s' t tr (r' : Nd) q5 w1 w2 w3 w4 w5 w6 w7 w8, Walk (ltrs k) st t (sz - 1) (k ^ sz) → wd t (sz - 1) (k ^ sz) = st → TrieOk (r'.er D0) t (sz - 1) (k ^ sz) → r'.ok D0 →
    St b s' (.f L [(PySem.Str.ofString "script"), (PySem.Str.ofString "rest"), (PySem.Str.ofString "start"), (PySem.Str.ofString "orders"), (PySem.Str.ofString "turn"), (PySem.Str.ofString "digits"), (PySem.Str.ofString "pool"), (PySem.Str.ofString "order"), (PySem.Str.ofString "many"), (PySem.Str.ofString "fresh"), (PySem.Str.ofString "told")] [some (.ref sc), some (.ref rs), some (.str (tx st) q4), some (.ref d), w1, w2, w3, w4, w5, w6, none] :: .p (L + 8) (CellP (w8)) :: .p (L + 7) (CellP (w7)) :: .p (L + 6) (CellP (some (.ref a))) :: .p (L + 5) (CellP (some (.str (tx t) q5))) :: .p (L + 4) (CellP (some (.str (tx (ltrs k)) q3))) :: .p (L + 3) (CellP (some (.int sz q2))) :: .p (L + 2) (CellP (some (.int k q1))) :: .p (L + 1) (CellP (some (.ref cl))) :: .p cl (lstP cvs) :: .p d (dctP prog w (kvsOf tr)) :: .o a (trieObj td) :: .o td (dictOf (trieEs w.params (.ref r'.a) (.ref cbA) t1 t2) 2) :: (Nd.cells w.params D0 r' ++ (ordC tr ++ (cs)))) → wpAny (model prog w) A (execs (nav [7] body) env) Q E s') :
  wpAny (model prog w) A (execs (nav [6] body) env) Q E s := by
  have e := Fn.body_eq (K := (hd.heap_39 w.params)) ⟨⟨_, _, _, by k_dflt k_is⟩, by k_dflt k_is, by exact rfl, by exact rfl, by exact rfl, by exact rfl, by exact rfl, by exact rfl⟩
  subst e
  dsimp only [nav, List.drop] at h ⊢
  have hal : (ltrs k).length ^ (sz - 1 + 1) = k ^ sz := by rw [ltrs_len hk4, show sz - 1 + 1 = sz from by omega]
  refine wpAny_execs_cons ?_
  refine wpAny_For ?_ (fun _ => rfl)
  refine Call_ ?_
  walk_at "m_bi"
  refine PyProof.Rows.callWith_type1 ?_ rfl rfl
  refine spliced_more ?_
  refine wpAny_BinOp ?_
  refine wpAny_BinOp ?_
  walk_at "m_cell"
  walk_at "m_cell"
  refine pow_n H rfl (by omega) (by omega) ?_
  clear H; intro s u1 H
  refine kInt H ?_
  clear H; intro s u2 H
  refine add_n H ?_
  clear H; intro s u3 H
  rw [show ((k : Int) ^ sz + 1) = ((k ^ sz + 1 : Nat) : Int) from by rw [Int.natCast_add, Int.natCast_pow]; rfl]
  refine spliced_none ?_
  refine range1_ H ?_
  clear H; intro s rg ta tb tc H
  refine iterRange H .head (rsmall1 (by omega)) ?_
  clear H; intro s it H
  rw [rsize1] at H
  have I0 : Inv (ltrs k) st st (sz - 1) 0 (ordsOf []) := ⟨Walk.zero (ltrs_nod k) hst hstl, fun v o h => by simp [ordsOf] at h, fun i hi => absurd hi (Nat.not_lt_zero _)⟩
  refine forName (fun n s => ∃ T t tr r q5 w1 w2 w3 w4 w5 w6 w7 w8, n + T = k ^ sz + 1 ∧ Inv (ltrs k) st t (sz - 1) T (ordsOf tr) ∧ TrieOk (r.er D0) t (sz - 1) T ∧ r.ok D0 ∧ tr.length ≤ T ∧
    St b s (.o it (ritO T (((k ^ sz + 1 : Nat) : Int) - T) 1) :: .o rg (rngO 0 (k ^ sz + 1 : Nat) 1 ta tb tc) :: .f L [(PySem.Str.ofString "script"), (PySem.Str.ofString "rest"), (PySem.Str.ofString "start"), (PySem.Str.ofString "orders"), (PySem.Str.ofString "turn"), (PySem.Str.ofString "digits"), (PySem.Str.ofString "pool"), (PySem.Str.ofString "order"), (PySem.Str.ofString "many"), (PySem.Str.ofString "fresh"), (PySem.Str.ofString "told")] [some (.ref sc), some (.ref rs), some (.str (tx st) q4), some (.ref d), w1, w2, w3, w4, w5, w6, none] :: .p (L + 8) (CellP (w8)) :: .p (L + 7) (CellP (w7)) :: .p (L + 6) (CellP (some (.ref a))) :: .p (L + 5) (CellP (some (.str (tx t) q5))) :: .p (L + 4) (CellP (some (.str (tx (ltrs k)) q3))) :: .p (L + 3) (CellP (some (.int sz q2))) :: .p (L + 2) (CellP (some (.int k q1))) :: .p (L + 1) (CellP (some (.ref cl))) :: .p cl (lstP cvs) :: .p d (dctP prog w (kvsOf tr)) :: .o a (trieObj td) :: .o td (dictOf (trieEs w.params (.ref r.a) (.ref cbA) t1 t2) 2) :: (Nd.cells w.params D0 r ++ (ordC tr ++ (cs))))) ?_ (k ^ sz + 1)
    ⟨0, st, [], r, q5, v1, v2, v3, v4, v5, v6, v7, v8, rfl, I0, her ▸ TrieOk.zero st (sz - 1), hok, Nat.le_refl _, (by rw [show (((0 : Nat) : Int)) = 0 from rfl, Int.sub_zero]; exact H)⟩
  clear H I0 her hok
  rintro n s ⟨T, t, tr, r, q5, w1, w2, w3, w4, w5, w6, w7, w8, hn, I, Z, hok, htr, H⟩
  have hTN : T ≤ k ^ sz := by have := words_le I.W; rw [hal] at this; exact this
  refine nextRange H (by walk_at "m_sub") (by omega) ?_
  clear H; intro s tkT H
  walk_at "m_store"
  clear H; intro s H
  have H : St b s (.f L [(PySem.Str.ofString "script"), (PySem.Str.ofString "rest"), (PySem.Str.ofString "start"), (PySem.Str.ofString "orders"), (PySem.Str.ofString "turn"), (PySem.Str.ofString "digits"), (PySem.Str.ofString "pool"), (PySem.Str.ofString "order"), (PySem.Str.ofString "many"), (PySem.Str.ofString "fresh"), (PySem.Str.ofString "told")] [some (.ref sc), some (.ref rs), some (.str (tx st) q4), some (.ref d), some (.int T tkT), w2, w3, w4, w5, w6, none] :: .p (L + 8) (CellP (w8)) :: .p (L + 7) (CellP (w7)) :: .p (L + 6) (CellP (some (.ref a))) :: .p (L + 5) (CellP (some (.str (tx t) q5))) :: .p (L + 4) (CellP (some (.str (tx (ltrs k)) q3))) :: .p (L + 3) (CellP (some (.int sz q2))) :: .p (L + 2) (CellP (some (.int k q1))) :: .p (L + 1) (CellP (some (.ref cl))) :: .p cl (lstP cvs) :: .p d (dctP prog w (kvsOf tr)) :: .o a (trieObj td) :: .o td (dictOf (trieEs w.params (.ref r.a) (.ref cbA) t1 t2) 2) :: (Nd.cells w.params D0 r ++ (ordC tr ++ (.o it (ritO ((T : Int) + 1) (((k ^ sz + 1 : Nat) : Int) - T - 1) 1) :: .o rg (rngO 0 (k ^ sz + 1 : Nat) 1 ta tb tc) :: cs)))) := H.perm (perm_back (α := Cell) (.f L [(PySem.Str.ofString "script"), (PySem.Str.ofString "rest"), (PySem.Str.ofString "start"), (PySem.Str.ofString "orders"), (PySem.Str.ofString "turn"), (PySem.Str.ofString "digits"), (PySem.Str.ofString "pool"), (PySem.Str.ofString "order"), (PySem.Str.ofString "many"), (PySem.Str.ofString "fresh"), (PySem.Str.ofString "told")] [some (.ref sc), some (.ref rs), some (.str (tx st) q4), some (.ref d), some (.int T tkT), w2, w3, w4, w5, w6, none] :: .p (L + 8) (CellP (w8)) :: .p (L + 7) (CellP (w7)) :: .p (L + 6) (CellP (some (.ref a))) :: .p (L + 5) (CellP (some (.str (tx t) q5))) :: .p (L + 4) (CellP (some (.str (tx (ltrs k)) q3))) :: .p (L + 3) (CellP (some (.int sz q2))) :: .p (L + 2) (CellP (some (.int k q1))) :: .p (L + 1) (CellP (some (.ref cl))) :: .p cl (lstP cvs) :: .p d (dctP prog w (kvsOf tr)) :: .o a (trieObj td) :: .o td (dictOf (trieEs w.params (.ref r.a) (.ref cbA) t1 t2) 2) :: []) (Nd.cells w.params D0 r) (ordC tr) cs _ _)
  refine segT (Fn := Fn) (V := V) (B := B) (hh := hh) (hA := hA) (hcl := hcl) (hclen := hclen) (hk2 := hk2) (hk4 := hk4) (hs2 := hs2) (hs4 := hs4) (hst := hst) (hstl := hstl) (I := I) (Z := Z) (hok := hok) (htr := htr) (hT := by omega) (H := H) ?_ ?_
  · clear H; intro s tr' w2 w3 w4 w5 w6 w7 w8 hall H
    obtain ⟨h1, h2⟩ := I.stuck hall
    rw [hal] at h2
    subst h2
    have H : St b s (.f L [(PySem.Str.ofString "script"), (PySem.Str.ofString "rest"), (PySem.Str.ofString "start"), (PySem.Str.ofString "orders"), (PySem.Str.ofString "turn"), (PySem.Str.ofString "digits"), (PySem.Str.ofString "pool"), (PySem.Str.ofString "order"), (PySem.Str.ofString "many"), (PySem.Str.ofString "fresh"), (PySem.Str.ofString "told")] [some (.ref sc), some (.ref rs), some (.str (tx st) q4), some (.ref d), some (.int (k ^ sz : Nat) tkT), w2, w3, w4, w5, w6, none] :: .p (L + 8) (CellP (w8)) :: .p (L + 7) (CellP (w7)) :: .p (L + 6) (CellP (some (.ref a))) :: .p (L + 5) (CellP (some (.str (tx t) q5))) :: .p (L + 4) (CellP (some (.str (tx (ltrs k)) q3))) :: .p (L + 3) (CellP (some (.int sz q2))) :: .p (L + 2) (CellP (some (.int k q1))) :: .p (L + 1) (CellP (some (.ref cl))) :: .p cl (lstP cvs) :: .p d (dctP prog w (kvsOf tr')) :: .o a (trieObj td) :: .o td (dictOf (trieEs w.params (.ref r.a) (.ref cbA) t1 t2) 2) :: (Nd.cells w.params D0 r ++ (ordC tr' ++ (cs)))) := by
      have H2 := H.perm (perm_back (α := Cell) (.f L [(PySem.Str.ofString "script"), (PySem.Str.ofString "rest"), (PySem.Str.ofString "start"), (PySem.Str.ofString "orders"), (PySem.Str.ofString "turn"), (PySem.Str.ofString "digits"), (PySem.Str.ofString "pool"), (PySem.Str.ofString "order"), (PySem.Str.ofString "many"), (PySem.Str.ofString "fresh"), (PySem.Str.ofString "told")] [some (.ref sc), some (.ref rs), some (.str (tx st) q4), some (.ref d), some (.int (k ^ sz : Nat) tkT), w2, w3, w4, w5, w6, none] :: .p (L + 8) (CellP (w8)) :: .p (L + 7) (CellP (w7)) :: .p (L + 6) (CellP (some (.ref a))) :: .p (L + 5) (CellP (some (.str (tx t) q5))) :: .p (L + 4) (CellP (some (.str (tx (ltrs k)) q3))) :: .p (L + 3) (CellP (some (.int sz q2))) :: .p (L + 2) (CellP (some (.int k q1))) :: .p (L + 1) (CellP (some (.ref cl))) :: .p cl (lstP cvs) :: .p d (dctP prog w (kvsOf tr')) :: .o a (trieObj td) :: .o td (dictOf (trieEs w.params (.ref r.a) (.ref cbA) t1 t2) 2) :: []) (Nd.cells w.params D0 r) (ordC tr') cs _ _).symm
      exact H2.mono (.cons _ (.cons _ (.refl _)))
    exact @h _ _ _ _ _ _ _ _ _ _ _ _ _ I.W h1 Z hok H
  · clear H; intro s tr' r' y q5' w2 w3 w4 w5 w6 w7 w8 I Z hok htr H
    have H := H.perm (perm_back (α := Cell) (.f L [(PySem.Str.ofString "script"), (PySem.Str.ofString "rest"), (PySem.Str.ofString "start"), (PySem.Str.ofString "orders"), (PySem.Str.ofString "turn"), (PySem.Str.ofString "digits"), (PySem.Str.ofString "pool"), (PySem.Str.ofString "order"), (PySem.Str.ofString "many"), (PySem.Str.ofString "fresh"), (PySem.Str.ofString "told")] [some (.ref sc), some (.ref rs), some (.str (tx st) q4), some (.ref d), some (.int T tkT), w2, w3, w4, w5, w6, none] :: .p (L + 8) (CellP (w8)) :: .p (L + 7) (CellP (w7)) :: .p (L + 6) (CellP (some (.ref a))) :: .p (L + 5) (CellP (some (.str (tx (t ++ [y])) q5'))) :: .p (L + 4) (CellP (some (.str (tx (ltrs k)) q3))) :: .p (L + 3) (CellP (some (.int sz q2))) :: .p (L + 2) (CellP (some (.int k q1))) :: .p (L + 1) (CellP (some (.ref cl))) :: .p cl (lstP cvs) :: .p d (dctP prog w (kvsOf tr')) :: .o a (trieObj td) :: .o td (dictOf (trieEs w.params (.ref r'.a) (.ref cbA) t1 t2) 2) :: []) (Nd.cells w.params D0 r') (ordC tr') cs _ _).symm
    rw [show ((T : Int) + 1) = ((T + 1 : Nat) : Int) from by omega, show (((k ^ sz + 1 : Nat) : Int) - T - 1) = ((k ^ sz + 1 : Nat) : Int) - ((T + 1 : Nat) : Int) from by omega] at H
    exact ⟨k ^ sz + 1 - (T + 1), by omega, T + 1, t ++ [y], tr', r', q5', _, _, _, _, _, _, _, _, by omega, I, Z, hok, htr, H⟩
end Mine
end
section
open PySem PySem.W PySem.Calls PyProof.Rows
set_option Elab.async false
set_option maxRecDepth 100000
set_option maxHeartbeats 4000000
set_option linter.unusedVariables false
namespace Mine
local macro_rules | `(tactic| walk_at "m_fill") => `(tactic| ((have dummy : PySem.Challenge.rw_ez0279_01 = PySem.Challenge.rw_ez0279_01 ∧ hd.heap_39 = hd.heap_39 := by k_fill; exact ⟨rfl, rfl⟩); clear dummy))
local macro_rules | `(tactic| walk_at "m_facts") => `(tactic| (constructor <;> first | k_dflt k_is | decide +kernel))
theorem sl_fill_T27 : True := by walk_at "m_fill"; trivial
local macro_rules | `(tactic| walk_at "m_has") => `(tactic| with_reducible first | exact Has.head | (refine Has.tail ?_; walk_at "m_has") | (refine Has.of ?_; assumption) | assumption)
local macro_rules | `(tactic| walk_at "m_at") => `(tactic| with_reducible first | exact At.head | (refine At.tail ?_; walk_at "m_at"))
local macro_rules | `(tactic| walk_at "m_sub") => `(tactic| with_reducible first | exact Sub1.head | (apply Sub1.tail; walk_at "m_sub"))
local macro_rules | `(tactic| walk_at "m_put") => `(tactic| with_reducible first | exact PutAt.head | (apply PutAt.tail; walk_at "m_put"))
local macro_rules | `(tactic| walk_at "m_rem") => `(tactic| with_reducible first | exact Rem.head | (apply Rem.tail; walk_at "m_rem"))
local macro_rules | `(tactic| walk_at "m_pick") => `(tactic| with_reducible first | exact Pick.all | (apply Pick.take; (focus (walk_at "m_rem")); walk_at "m_pick") | (apply Pick.skip; walk_at "m_pick"))
local macro_rules | `(tactic| walk_at "m_room") => `(tactic| first | assumption | omega)
local macro_rules | `(tactic| walk_at "m_name") => `(tactic| refine nm (by assumption) (by assumption) (by walk_at "m_has") (by walk_at "m_at") (by decide) (by decide) ?_)
local macro_rules | `(tactic| walk_at "m_slotget") => `(tactic| (refine attr_slot (by assumption) (by first | exact sl_step _ | exact sl_node _ | exact sl_children _ | exact sl_value _) (by assumption) (by walk_at "m_has") (by exact rfl) (by walk_at "m_has") (by exact rfl) (by exact rfl) ?_))
local macro_rules | `(tactic| walk_at "m_store") => `(tactic| refine st_ (by assumption) (by assumption) (by decide) (by walk_at "m_sub") (by walk_at "m_put") ?_)
local macro_rules | `(tactic| walk_at "m_glob") => `(tactic| (refine glob (by assumption) (by assumption) (by assumption) (by decide) (by k_dflt k_is) (by decide) ?_))
variable {w : World} {A : Around} {E : Value → Shared → Prop} {b s : Shared} {cs cs' : List Cell} {R : Result → Shared → Prop} {env : Env} {pos : Pos}

local macro_rules | `(tactic| walk_at "m_bi") => `(tactic| (refine builtin (by assumption) (by assumption) (by assumption) (by decide) (by k_dflt k_is) (by boot_by_name) (by decide) (by decide) ?_))
local macro_rules | `(tactic| walk_at "m_cell") => `(tactic| refine nmC (by assumption) (by assumption) (by decide) (by exact rfl) (by walk_at "m_has") (by decide) ?_)
local macro_rules | `(tactic| walk_at "k_cell") => `(tactic| refine nmCK (by assumption) (by assumption) (by decide) (by exact rfl) (by walk_at "m_has") (by decide) ?_)
local macro_rules | `(tactic| walk_at "k_name") => `(tactic| refine nmK (by assumption) (by assumption) (by walk_at "m_has") (by walk_at "m_at") (by decide) (by decide) ?_)
theorem me_items (w : World) : MethOf (hd.heap_39 w.params) 839 (S "items") (.ref 608) gaO tF := by walk_at "m_facts"
theorem kp_items (w : World) : keepIn (hd.heap_39 w.params) (.ref 608) = true := by k_dflt k_is
theorem segE {L : Addr} {fd : FuncData} {body : List Stmt} {sc rs cl d a td : Addr} {cvs : List Value} {Q : Flow → Shared → Prop} {k sz : Nat} {q1 q2 q3 q4 q5 t1 t2 : Tok} {st t : List Nat} {tr : List Od} {v1 v2 v3 v4 v5 v6 v7 v8 : Option Value} {r : Nd}
  (Fn : FnAt (hd.heap_39 w.params) 896 fd body) (V : EnvIs env L lawNk (lawCl L)) (B : Base (hd.heap_39 w.params) b) (hh : A.handled = none) (hA : A.depth + 95 < recursionLimit) (hu : A.units < cLine) (FS : ∀ cs ns vs, .f L ns vs ∈ cs → Fs A cs)
  (hk2 : 2 ≤ k) (hk4 : k ≤ 4) (hs2 : 2 ≤ sz) (hs4 : sz ≤ 4) (hN : k ^ sz ≤ 27) (hst : st.length = sz - 1)
  (W : Walk (ltrs k) st t (sz - 1) (k ^ sz)) (hw : wd t (sz - 1) (k ^ sz) = st) (Z : TrieOk (r.er D0) t (sz - 1) (k ^ sz)) (hok : r.ok D0)
  (H : St b s (.f L [(PySem.Str.ofString "script"), (PySem.Str.ofString "rest"), (PySem.Str.ofString "start"), (PySem.Str.ofString "orders"), (PySem.Str.ofString "turn"), (PySem.Str.ofString "digits"), (PySem.Str.ofString "pool"), (PySem.Str.ofString "order"), (PySem.Str.ofString "many"), (PySem.Str.ofString "fresh"), (PySem.Str.ofString "told")] [some (.ref sc), some (.ref rs), some (.str (tx st) q4), some (.ref d), v1, v2, v3, v4, v5, v6, none] :: .p (L + 8) (CellP (v8)) :: .p (L + 7) (CellP (v7)) :: .p (L + 6) (CellP (some (.ref a))) :: .p (L + 5) (CellP (some (.str (tx t) q5))) :: .p (L + 4) (CellP (some (.str (tx (ltrs k)) q3))) :: .p (L + 3) (CellP (some (.int sz q2))) :: .p (L + 2) (CellP (some (.int k q1))) :: .p (L + 1) (CellP (some (.ref cl))) :: .p cl (lstP cvs) :: .p d (dctP prog w (kvsOf tr)) :: .o a (trieObj td) :: .o td (dictOf (trieEs w.params (.ref r.a) (.ref cbA) t1 t2) 2) :: (Nd.cells w.params D0 r ++ (ordC tr ++ (cs)))))
  (hQ : ∀ s' cs', St b s' cs' → Q (.ret (.bool true)) s') :
  wpAny (model prog w) A (execs (nav [7] body) env) Q E s := by
  have e := Fn.body_eq (K := (hd.heap_39 w.params)) ⟨⟨_, _, _, by k_dflt k_is⟩, by k_dflt k_is, by exact rfl, by exact rfl, by exact rfl, by exact rfl, by exact rfl, by exact rfl⟩
  subst e
  dsimp only [nav, List.drop]
  have htl := W.len
  have hdrop : t.drop (k ^ sz) = st := by
    have := W.end_
    rw [show t.length - (sz - 1) = k ^ sz from by omega, hw] at this
    exact this
  have hlen : (outN D0 r).length = k ^ sz := told_len (ltrs_nod k) W hok Z
  generalize hNN : k ^ sz = N at *
  refine wpAny_execs_cons ?_
  refine wpAny_Assign_Name ?_
  refine MethodCall_ ?_
  walk_at "m_cell"
  refine meth B (me_items w) H (by walk_at "m_has") rfl (by walk_at "m_has") rfl ?_
  refine callK0 B H (kp_items w) ?_
  refine wpAny_call ?_
  have hm1 : Cell.o a (trieObj td) ∈ (.f L [(PySem.Str.ofString "script"), (PySem.Str.ofString "rest"), (PySem.Str.ofString "start"), (PySem.Str.ofString "orders"), (PySem.Str.ofString "turn"), (PySem.Str.ofString "digits"), (PySem.Str.ofString "pool"), (PySem.Str.ofString "order"), (PySem.Str.ofString "many"), (PySem.Str.ofString "fresh"), (PySem.Str.ofString "told")] [some (.ref sc), some (.ref rs), some (.str (tx st) q4), some (.ref d), v1, v2, v3, v4, v5, v6, none] :: .p (L + 8) (CellP (v8)) :: .p (L + 7) (CellP (v7)) :: .p (L + 6) (CellP (some (.ref a))) :: .p (L + 5) (CellP (some (.str (tx t) q5))) :: .p (L + 4) (CellP (some (.str (tx (ltrs k)) q3))) :: .p (L + 3) (CellP (some (.int sz q2))) :: .p (L + 2) (CellP (some (.int k q1))) :: .p (L + 1) (CellP (some (.ref cl))) :: .p cl (lstP cvs) :: .p d (dctP prog w (kvsOf tr)) :: .o a (trieObj td) :: .o td (dictOf (trieEs w.params (.ref r.a) (.ref cbA) t1 t2) 2) :: (Nd.cells w.params D0 r ++ (ordC tr ++ (cs))) : List Cell) := by
    iterate 11 refine List.Mem.tail _ ?_
    exact List.Mem.head _
  have hm2 : Cell.o td (dictOf (trieEs w.params (.ref r.a) (.ref cbA) t1 t2) 2) ∈ (.f L [(PySem.Str.ofString "script"), (PySem.Str.ofString "rest"), (PySem.Str.ofString "start"), (PySem.Str.ofString "orders"), (PySem.Str.ofString "turn"), (PySem.Str.ofString "digits"), (PySem.Str.ofString "pool"), (PySem.Str.ofString "order"), (PySem.Str.ofString "many"), (PySem.Str.ofString "fresh"), (PySem.Str.ofString "told")] [some (.ref sc), some (.ref rs), some (.str (tx st) q4), some (.ref d), v1, v2, v3, v4, v5, v6, none] :: .p (L + 8) (CellP (v8)) :: .p (L + 7) (CellP (v7)) :: .p (L + 6) (CellP (some (.ref a))) :: .p (L + 5) (CellP (some (.str (tx t) q5))) :: .p (L + 4) (CellP (some (.str (tx (ltrs k)) q3))) :: .p (L + 3) (CellP (some (.int sz q2))) :: .p (L + 2) (CellP (some (.int k q1))) :: .p (L + 1) (CellP (some (.ref cl))) :: .p cl (lstP cvs) :: .p d (dctP prog w (kvsOf tr)) :: .o a (trieObj td) :: .o td (dictOf (trieEs w.params (.ref r.a) (.ref cbA) t1 t2) 2) :: (Nd.cells w.params D0 r ++ (ordC tr ++ (cs))) : List Cell) := by
    iterate 12 refine List.Mem.tail _ ?_
    exact List.Mem.head _
  refine items_call (r := r) (td := td) B hok (fun u m hm => ?_) H hm1 hm2 (fun c hc => ?_) (FS _ _ _ (List.Mem.head _)) hh (by omega) (by show (outN D0 r).length ≤ 900; omega) ?_
  · have := Z.shal u (by rw [Nd.find_er, hm]; rfl)
    omega
  · iterate 13 refine List.Mem.tail _ ?_
    exact List.mem_append_left _ hc
  clear H; intro s l vals acc hT H
  have hT : Told ItemT (outN D0 r) vals acc := hT
  have hvl := hT.len
  have H : St b s (.p l (lstP vals) :: .f L [(PySem.Str.ofString "script"), (PySem.Str.ofString "rest"), (PySem.Str.ofString "start"), (PySem.Str.ofString "orders"), (PySem.Str.ofString "turn"), (PySem.Str.ofString "digits"), (PySem.Str.ofString "pool"), (PySem.Str.ofString "order"), (PySem.Str.ofString "many"), (PySem.Str.ofString "fresh"), (PySem.Str.ofString "told")] [some (.ref sc), some (.ref rs), some (.str (tx st) q4), some (.ref d), v1, v2, v3, v4, v5, v6, none] :: .p (L + 8) (CellP (v8)) :: .p (L + 7) (CellP (v7)) :: .p (L + 6) (CellP (some (.ref a))) :: .p (L + 5) (CellP (some (.str (tx t) q5))) :: .p (L + 4) (CellP (some (.str (tx (ltrs k)) q3))) :: .p (L + 3) (CellP (some (.int sz q2))) :: .p (L + 2) (CellP (some (.int k q1))) :: .p (L + 1) (CellP (some (.ref cl))) :: .p cl (lstP cvs) :: .p d (dctP prog w (kvsOf tr)) :: .o a (trieObj td) :: .o td (dictOf (trieEs w.params (.ref r.a) (.ref cbA) t1 t2) 2) :: (acc ++ (Nd.cells w.params D0 r ++ (ordC tr ++ cs)))) :=
    H.perm (.cons _ (List.perm_append_comm_assoc (α := Cell) (.f L [(PySem.Str.ofString "script"), (PySem.Str.ofString "rest"), (PySem.Str.ofString "start"), (PySem.Str.ofString "orders"), (PySem.Str.ofString "turn"), (PySem.Str.ofString "digits"), (PySem.Str.ofString "pool"), (PySem.Str.ofString "order"), (PySem.Str.ofString "many"), (PySem.Str.ofString "fresh"), (PySem.Str.ofString "told")] [some (.ref sc), some (.ref rs), some (.str (tx st) q4), some (.ref d), v1, v2, v3, v4, v5, v6, none] :: .p (L + 8) (CellP (v8)) :: .p (L + 7) (CellP (v7)) :: .p (L + 6) (CellP (some (.ref a))) :: .p (L + 5) (CellP (some (.str (tx t) q5))) :: .p (L + 4) (CellP (some (.str (tx (ltrs k)) q3))) :: .p (L + 3) (CellP (some (.int sz q2))) :: .p (L + 2) (CellP (some (.int k q1))) :: .p (L + 1) (CellP (some (.ref cl))) :: .p cl (lstP cvs) :: .p d (dctP prog w (kvsOf tr)) :: .o a (trieObj td) :: .o td (dictOf (trieEs w.params (.ref r.a) (.ref cbA) t1 t2) 2) :: []) acc (Nd.cells w.params D0 r ++ (ordC tr ++ cs))))
  walk_at "m_store"
  clear H; intro s H
  refine wpAny_execs_cons ?_
  refine wpAny_If ?_
  refine isTrue_or ?_
  refine wpAny_isTrue_Compare1 ?_
  refine Call_ ?_
  walk_at "m_bi"
  refine callWith_builtin1 ?_ rfl rfl
  refine spliced_more ?_
  walk_at "m_name"
  refine spliced_none ?_
  refine len_lst H .head (by omega) ?_
  clear H; intro s u1 H
  refine wpAny_BinOp ?_
  walk_at "m_cell"
  walk_at "m_cell"
  refine pow_n H rfl (by omega) (by omega) ?_
  clear H; intro s u2 H
  refine ne_n ?_
  refine wpAny_truthy_bool ?_
  have e1 : ((vals.length : Int) != (k : Int) ^ sz) = false := by
    have : (k : Int) ^ sz = ((k ^ sz : Nat) : Int) := by rw [Int.natCast_pow]
    rw [this, hNN, hvl, hlen]; simp
  rw [e1, if_neg (by decide)]
  refine isTrue_or ?_
  refine wpAny_isTrue_Compare1 ?_
  refine Call_ ?_
  walk_at "m_bi"
  refine callWith_builtin1 ?_ rfl rfl
  refine spliced_more ?_
  walk_at "m_cell"
  refine spliced_none ?_
  refine len_tx H (by omega) ?_
  clear H; intro s u3 H
  refine wpAny_BinOp ?_
  refine wpAny_BinOp ?_
  refine Call_ ?_
  walk_at "m_bi"
  refine callWith_builtin1 ?_ rfl rfl
  refine spliced_more ?_
  walk_at "m_name"
  refine spliced_none ?_
  refine len_lst H .head (by omega) ?_
  clear H; intro s u4 H
  walk_at "m_cell"
  refine add_n H ?_
  clear H; intro s u5 H
  refine kInt H ?_
  clear H; intro s u6 H
  refine sub_n H ?_
  clear H; intro s u7 H
  refine ne_n ?_
  refine wpAny_truthy_bool ?_
  have e2 : ((t.length : Int) != (vals.length : Int) + (sz : Int) - 1) = false := by
    have : (t.length : Int) = (vals.length : Int) + (sz : Int) - 1 := by omega
    rw [this]; simp
  rw [e2, if_neg (by decide)]
  refine isTrue_or ?_
  refine wpAny_isTrue_Compare1 ?_
  refine sub_from_ b ?_
  walk_at "m_cell"
  refine Call_ ?_
  walk_at "m_bi"
  refine callWith_builtin1 ?_ rfl rfl
  refine spliced_more ?_
  walk_at "m_name"
  refine spliced_none ?_
  refine len_lst H .head (by omega) ?_
  clear H; intro s u8 H
  refine ⟨_, _, _, _, N, _, _, rfl, rfl, H, .head, rfl, by omega, by omega, by omega, ?_⟩
  rw [hdrop]
  clear H; intro s u9 H
  walk_at "m_name"
  refine ne_tx ?_
  refine wpAny_truthy_bool ?_
  rw [if_neg (by simp)]
  refine isTrue_or_nil ?_
  rw [if_neg (by decide)]
  refine wpAny_execs_nil ?_
  refine wpAny_execs_cons ?_
  refine wpAny_Return_some ?_
  refine wpAny_Compare1 ?_
  have H : St b s (.p l (lstP vals) :: .f L [(PySem.Str.ofString "script"), (PySem.Str.ofString "rest"), (PySem.Str.ofString "start"), (PySem.Str.ofString "orders"), (PySem.Str.ofString "turn"), (PySem.Str.ofString "digits"), (PySem.Str.ofString "pool"), (PySem.Str.ofString "order"), (PySem.Str.ofString "many"), (PySem.Str.ofString "fresh"), (PySem.Str.ofString "told")] [some (.ref sc), some (.ref rs), some (.str (tx st) q4), some (.ref d), v1, v2, v3, v4, v5, v6, some (.ref l)] :: .p (L + 8) (CellP (v8)) :: .p (L + 7) (CellP (v7)) :: .p (L + 6) (CellP (some (.ref a))) :: .p (L + 5) (CellP (some (.str (tx t) q5))) :: .p (L + 4) (CellP (some (.str (tx (ltrs k)) q3))) :: .p (L + 3) (CellP (some (.int sz q2))) :: .p (L + 2) (CellP (some (.int k q1))) :: .p (L + 1) (CellP (some (.ref cl))) :: .p cl (lstP cvs) :: .p d (dctP prog w (kvsOf tr)) :: .o a (trieObj td) :: .o td (dictOf (trieEs w.params (.ref r.a) (.ref cbA) t1 t2) 2) :: (acc ++ (Nd.cells w.params D0 r ++ (ordC tr ++ cs)))) := H
  refine comp_in (b := b) (ns := [S "word", S "turn"]) (cl := [(S "text", L + 5), (S "size", L + 3)]) (by decide) rfl (closure_of V (by exact rfl)) (by decide) rfl (by decide) ?_
  walk_at "m_name"
  refine iterList H .head ?_
  clear H; intro s it H
  refine ⟨_, H, ⟨_, .head, rfl⟩, fun s D C H => ⟨fun H hq => selfList H (by walk_at "m_has") hq, ?_⟩⟩
  generalize he : compEnvC _ _ C env = cenv
  have VK : EnvK cenv C [(S ".0", .local), (S "word", .local), (S "turn", .local), (S "len", .globalImplicit), (S "size", .cell), (S "text", .cell)] [(S "text", L + 5), (S "size", L + 3)] := he ▸ EnvK.comp V.toK rfl (by exact rfl)
  clear he
  have H : St b s (.f C [S "word", S "turn"] [none, none] :: .p D (lstP []) :: .p it (LIter l 0) :: .p l (lstP vals) :: .f L [(PySem.Str.ofString "script"), (PySem.Str.ofString "rest"), (PySem.Str.ofString "start"), (PySem.Str.ofString "orders"), (PySem.Str.ofString "turn"), (PySem.Str.ofString "digits"), (PySem.Str.ofString "pool"), (PySem.Str.ofString "order"), (PySem.Str.ofString "many"), (PySem.Str.ofString "fresh"), (PySem.Str.ofString "told")] [some (.ref sc), some (.ref rs), some (.str (tx st) q4), some (.ref d), v1, v2, v3, v4, v5, v6, some (.ref l)] :: .p (L + 8) (CellP (v8)) :: .p (L + 7) (CellP (v7)) :: .p (L + 6) (CellP (some (.ref a))) :: .p (L + 5) (CellP (some (.str (tx t) q5))) :: .p (L + 4) (CellP (some (.str (tx (ltrs k)) q3))) :: .p (L + 3) (CellP (some (.int sz q2))) :: .p (L + 2) (CellP (some (.int k q1))) :: .p (L + 1) (CellP (some (.ref cl))) :: .p cl (lstP cvs) :: .p d (dctP prog w (kvsOf tr)) :: .o a (trieObj td) :: .o td (dictOf (trieEs w.params (.ref r.a) (.ref cbA) t1 t2) 2) :: (acc ++ (Nd.cells w.params D0 r ++ (ordC tr ++ cs)))) := H
  refine comp_loopT N (fun i s => ∃ k0 k1, St b s (.f C [S "word", S "turn"] [k0, k1] :: .p D (lstP []) :: .p it (LIter l i) :: .p l (lstP vals) :: .f L [(PySem.Str.ofString "script"), (PySem.Str.ofString "rest"), (PySem.Str.ofString "start"), (PySem.Str.ofString "orders"), (PySem.Str.ofString "turn"), (PySem.Str.ofString "digits"), (PySem.Str.ofString "pool"), (PySem.Str.ofString "order"), (PySem.Str.ofString "many"), (PySem.Str.ofString "fresh"), (PySem.Str.ofString "told")] [some (.ref sc), some (.ref rs), some (.str (tx st) q4), some (.ref d), v1, v2, v3, v4, v5, v6, some (.ref l)] :: .p (L + 8) (CellP (v8)) :: .p (L + 7) (CellP (v7)) :: .p (L + 6) (CellP (some (.ref a))) :: .p (L + 5) (CellP (some (.str (tx t) q5))) :: .p (L + 4) (CellP (some (.str (tx (ltrs k)) q3))) :: .p (L + 3) (CellP (some (.int sz q2))) :: .p (L + 2) (CellP (some (.int k q1))) :: .p (L + 1) (CellP (some (.ref cl))) :: .p cl (lstP cvs) :: .p d (dctP prog w (kvsOf tr)) :: .o a (trieObj td) :: .o td (dictOf (trieEs w.params (.ref r.a) (.ref cbA) t1 t2) 2) :: (acc ++ (Nd.cells w.params D0 r ++ (ordC tr ++ cs))))) ?_ ?_ ⟨none, none, H⟩
  · clear H; rintro i s E' hi ⟨k0, k1, H⟩
    have hiX : i < (outN D0 r).length := by omega
    obtain ⟨v, vis, hvi, ⟨ti, tk, rfl, hvis⟩, hin⟩ := hT.nth (List.getElem?_eq_getElem hiX)
    obtain ⟨j, u, hj, hx1, hx2⟩ := told_at W hok Z (List.getElem_mem hiX)
    have hcell : Cell.o ti (tupObj #[.str (wordOf (outN D0 r)[i].1) tk, (outN D0 r)[i].2]) ∈ acc ++ (Nd.cells w.params D0 r ++ (ordC tr ++ cs)) := List.mem_append_left _ (hin _ (by rw [hvis]; exact .head _))
    rw [hx1, hx2] at hcell
    have hcell : Cell.o ti (tupObj #[.str (tx (wd t sz j)) tk, .int (j : Int) u]) ∈ acc ++ (Nd.cells w.params D0 r ++ (ordC tr ++ cs)) := by
      rw [show sz - 1 + 1 = sz from by omega] at hcell
      exact hcell
    have hwl : (wd t sz j).length = sz := by unfold wd; rw [List.length_take, List.length_drop]; omega
    refine nextList H (by walk_at "m_has") (by walk_at "m_sub") hvi ?_
    clear H; intro s H
    refine ⟨_, rfl, ?_⟩
    refine letGoList H (by walk_at "m_has") ?_
    refine unpackT hh H (by walk_at "m_has") rfl rfl ?_
    clear H; intro s H
    refine assignInOrder_cons ?_
    refine assign_Name ?_
    refine stK VK H (by decide) (by walk_at "m_sub") (by walk_at "m_put") ?_
    clear H; intro s H
    refine assignInOrder_cons ?_
    refine assign_Name ?_
    refine stK VK H (by decide) (by walk_at "m_sub") (by walk_at "m_put") ?_
    clear H; intro s H
    refine assignInOrder_nil ?_
    refine isTrue_or ?_
    refine wpAny_isTrue_Compare1 ?_
    refine Call_ ?_
    refine builtinK B VK H (by decide) (by k_dflt k_is) (by boot_by_name) (by decide) (by decide) ?_
    refine callWith_builtin1 ?_ rfl rfl
    refine spliced_more ?_
    walk_at "k_name"
    refine spliced_none ?_
    refine len_tx H (by omega) ?_
    clear H; intro s u10 H
    walk_at "k_cell"
    refine ne_n ?_
    refine wpAny_truthy_bool ?_
    rw [hwl, if_neg (by simp)]
    refine isTrue_or ?_
    refine wpAny_isTrue_Compare1 ?_
    refine sub_mid_ b ?_
    walk_at "k_cell"
    walk_at "k_name"
    refine wpAny_BinOp ?_
    walk_at "k_name"
    walk_at "k_cell"
    refine add_n H ?_
    clear H; intro s u11 H
    refine ⟨_, _, _, _, _, _, j, j + sz, _, _, rfl, rfl, rfl, H, .head, rfl, by omega, rfl, by omega, by omega, by omega, ?_⟩
    rw [show j + sz - j = sz from by omega]
    clear H; intro s u12 H
    walk_at "k_name"
    refine ne_tx ?_
    refine wpAny_truthy_bool ?_
    rw [show ((t.drop j).take sz != wd t sz j) = false from by unfold wd; simp, if_neg (by decide)]
    refine isTrue_or_nil ?_
    rw [if_neg (by decide)]
    exact ⟨_, _, H⟩
  · clear H; rintro s E' ⟨k0, k1, H⟩
    refine endList hh (H.pick (r := .p it (LIter l N) :: .f C [S "word", S "turn"] [k0, k1] :: .p D (lstP []) :: .p l (lstP vals) :: .f L [(PySem.Str.ofString "script"), (PySem.Str.ofString "rest"), (PySem.Str.ofString "start"), (PySem.Str.ofString "orders"), (PySem.Str.ofString "turn"), (PySem.Str.ofString "digits"), (PySem.Str.ofString "pool"), (PySem.Str.ofString "order"), (PySem.Str.ofString "many"), (PySem.Str.ofString "fresh"), (PySem.Str.ofString "told")] [some (.ref sc), some (.ref rs), some (.str (tx st) q4), some (.ref d), v1, v2, v3, v4, v5, v6, some (.ref l)] :: .p (L + 8) (CellP (v8)) :: .p (L + 7) (CellP (v7)) :: .p (L + 6) (CellP (some (.ref a))) :: .p (L + 5) (CellP (some (.str (tx t) q5))) :: .p (L + 4) (CellP (some (.str (tx (ltrs k)) q3))) :: .p (L + 3) (CellP (some (.int sz q2))) :: .p (L + 2) (CellP (some (.int k q1))) :: .p (L + 1) (CellP (some (.ref cl))) :: .p cl (lstP cvs) :: .p d (dctP prog w (kvsOf tr)) :: .o a (trieObj td) :: .o td (dictOf (trieEs w.params (.ref r.a) (.ref cbA) t1 t2) 2) :: (acc ++ (Nd.cells w.params D0 r ++ (ordC tr ++ cs)))) (by walk_at "m_pick")) (by walk_at "m_has") (List.getElem?_eq_none (by omega)) ?_
    clear H; intro s H
    refine ⟨rfl, _, rfl, _, _, H, ?_⟩
    clear H; intro s H
    refine list_ (b := b) ?_
    refine spliced_none ⟨by simp, _, H, ?_⟩
    clear H; intro s l9 H
    refine eq_nils H (by walk_at "m_has") .head hu ?_
    exact hQ _ _ H
end Mine
end
section
open PySem PySem.W PySem.Calls PyProof.Rows
set_option Elab.async false
set_option maxRecDepth 100000
set_option maxHeartbeats 4000000
set_option linter.unusedVariables false
namespace Mine
local macro_rules | `(tactic| walk_at "m_fill") => `(tactic| ((have dummy : PySem.Challenge.rw_ez0279_01 = PySem.Challenge.rw_ez0279_01 ∧ hd.heap_39 = hd.heap_39 := by k_fill; exact ⟨rfl, rfl⟩); clear dummy))
local macro_rules | `(tactic| walk_at "m_facts") => `(tactic| (constructor <;> first | k_dflt k_is | decide +kernel))
theorem sl_fill_T28 : True := by walk_at "m_fill"; trivial
local macro_rules | `(tactic| walk_at "m_has") => `(tactic| with_reducible first | exact Has.head | (refine Has.tail ?_; walk_at "m_has") | (refine Has.of ?_; assumption) | assumption)
local macro_rules | `(tactic| walk_at "m_at") => `(tactic| with_reducible first | exact At.head | (refine At.tail ?_; walk_at "m_at"))
local macro_rules | `(tactic| walk_at "m_sub") => `(tactic| with_reducible first | exact Sub1.head | (apply Sub1.tail; walk_at "m_sub"))
local macro_rules | `(tactic| walk_at "m_put") => `(tactic| with_reducible first | exact PutAt.head | (apply PutAt.tail; walk_at "m_put"))
local macro_rules | `(tactic| walk_at "m_rem") => `(tactic| with_reducible first | exact Rem.head | (apply Rem.tail; walk_at "m_rem"))
local macro_rules | `(tactic| walk_at "m_pick") => `(tactic| with_reducible first | exact Pick.all | (apply Pick.take; (focus (walk_at "m_rem")); walk_at "m_pick") | (apply Pick.skip; walk_at "m_pick"))
local macro_rules | `(tactic| walk_at "m_room") => `(tactic| first | assumption | omega)
local macro_rules | `(tactic| walk_at "m_name") => `(tactic| refine nm (by assumption) (by assumption) (by walk_at "m_has") (by walk_at "m_at") (by decide) (by decide) ?_)
local macro_rules | `(tactic| walk_at "m_slotget") => `(tactic| (refine attr_slot (by assumption) (by first | exact sl_step _ | exact sl_node _ | exact sl_children _ | exact sl_value _) (by assumption) (by walk_at "m_has") (by exact rfl) (by walk_at "m_has") (by exact rfl) (by exact rfl) ?_))
local macro_rules | `(tactic| walk_at "m_store") => `(tactic| refine st_ (by assumption) (by assumption) (by decide) (by walk_at "m_sub") (by walk_at "m_put") ?_)
local macro_rules | `(tactic| walk_at "m_glob") => `(tactic| (refine glob (by assumption) (by assumption) (by assumption) (by decide) (by k_dflt k_is) (by decide) ?_))
variable {w : World} {A : Around} {E : Value → Shared → Prop} {b s : Shared} {cs cs' : List Cell} {R : Result → Shared → Prop} {env : Env} {pos : Pos}

theorem law_call {sc : Addr} {vs : List Value} {ws : List Int} (B : Base (hd.heap_39 w.params) b) (H : St b s cs) (hl : b.heap.IsList sc vs.toArray) (hi : IntsAre vs ws) (hn : ws.length ≤ 63) (hh : A.handled = none) (hA : A.depth + 100 < recursionLimit) (hu : ∀ env : Env, (A.deeper env).units < cLine) (hF : A.frames = some [])
  (hR : ∀ s' cs', St b s' cs' → R (.ok (.ret (.bool true))) s') : codeAny (model prog w) A (.call (.ref 896) ⟨[.ref sc], []⟩) R s := by
  have hA0 : A.depth < recursionLimit := by omega
  obtain ⟨fd, body, Fn, hnk, hbind, hgen⟩ : ∃ fd body, FnAt (hd.heap_39 w.params) 896 fd body ∧ fd.scope.names = lawNk ∧ bindArgs fd ⟨[.ref sc], []⟩ = pure [(S "script", .ref sc)] ∧ fd.scope.isGenerator = false := ⟨_, _, ⟨⟨_, _, _, by k_dflt k_is⟩, by k_dflt k_is, by exact rfl, by exact rfl, by exact rfl, by exact rfl, by exact rfl, by exact rfl⟩, rfl, rfl, rfl⟩
  refine enterC2 Fn hnk [(PySem.Str.ofString "script"), (PySem.Str.ofString "rest"), (PySem.Str.ofString "start"), (PySem.Str.ofString "orders"), (PySem.Str.ofString "turn"), (PySem.Str.ofString "digits"), (PySem.Str.ofString "pool"), (PySem.Str.ofString "order"), (PySem.Str.ofString "many"), (PySem.Str.ofString "fresh"), (PySem.Str.ofString "told")] [some (.ref sc), none, none, none, none, none, none, none, none, none, none] lawCl (fun L => [.p (L + 8) (CellP none), .p (L + 7) (CellP none), .p (L + 6) (CellP none), .p (L + 5) (CellP none), .p (L + 4) (CellP none), .p (L + 3) (CellP none), .p (L + 2) (CellP none), .p (L + 1) (CellP none)]) B H hA0 hbind (by intro n; exact rfl) (by decide) (by exact rfl) hgen (by exact rfl) (by intro n; exact (by decide : (([S "last", S "end", S "trie", S "text", S "letters", S "size", S "kinds", S "cells"] : List Str)).Nodup)) (by intro L; exact rfl) (by intro L; exact rfl) ?_
  clear H; intro s L env V H
  show wpAny (model prog w) (A.deeper env) (execs (nav [0] body) env) _ _ _
  refine seg1 (A := A.deeper env) Fn V B hl hi hn hh H ?_
  clear H; intro s rs cl cvs cz hcl hclen hpos H
  refine seg2 (A := A.deeper env) Fn V B hh hcl hclen hpos H ?_
  clear H; intro s k sz q1 q2 hk2 hk4 hs2 hs4 hN H
  refine seg3 (A := A.deeper env) Fn V B hh hcl hclen hpos hk2 hk4 hs2 hs4 H ?_
  clear H; intro s st q3 q4 hst hstl H
  refine seg4 (A := A.deeper env) Fn V B hh (show A.depth + 1 + 6 < _ by omega) H ?_
  clear H; intro s d a td n ndx t1 t2 H
  refine segL (A := A.deeper env) (r := newNd D0 n ndx) Fn V B hh (show A.depth + 1 + 20 < _ by omega) hcl hclen hk2 hk4 hs2 hs4 hN hst hstl newNd_ok newNd_er H ?_
  clear H; intro s t tr r q5 w1 w2 w3 w4 w5 w6 w7 w8 W hw Z hok H
  refine segE (A := A.deeper env) Fn V B hh (show A.depth + 1 + 95 < _ by omega) (hu env) (fun cs ns vs h => fs1 V hF h) hk2 hk4 hs2 hs4 hN hst W hw Z hok H ?_
  clear H; intro s cs' H
  exact hR _ _ H
end Mine
end
section
open PySem PySem.W PySem.Calls PyProof.Rows
set_option Elab.async false
set_option maxRecDepth 100000
set_option maxHeartbeats 4000000
set_option linter.unusedVariables false
namespace Mine
local macro_rules | `(tactic| walk_at "m_fill") => `(tactic| ((have dummy : PySem.Challenge.rw_ez0279_01 = PySem.Challenge.rw_ez0279_01 ∧ hd.heap_39 = hd.heap_39 := by k_fill; exact ⟨rfl, rfl⟩); clear dummy))
local macro_rules | `(tactic| walk_at "m_facts") => `(tactic| (constructor <;> first | k_dflt k_is | decide +kernel))
theorem sl_fill_T29 : True := by walk_at "m_fill"; trivial
local macro_rules | `(tactic| walk_at "m_has") => `(tactic| with_reducible first | exact Has.head | (refine Has.tail ?_; walk_at "m_has") | (refine Has.of ?_; assumption) | assumption)
local macro_rules | `(tactic| walk_at "m_at") => `(tactic| with_reducible first | exact At.head | (refine At.tail ?_; walk_at "m_at"))
local macro_rules | `(tactic| walk_at "m_sub") => `(tactic| with_reducible first | exact Sub1.head | (apply Sub1.tail; walk_at "m_sub"))
local macro_rules | `(tactic| walk_at "m_put") => `(tactic| with_reducible first | exact PutAt.head | (apply PutAt.tail; walk_at "m_put"))
local macro_rules | `(tactic| walk_at "m_rem") => `(tactic| with_reducible first | exact Rem.head | (apply Rem.tail; walk_at "m_rem"))
local macro_rules | `(tactic| walk_at "m_pick") => `(tactic| with_reducible first | exact Pick.all | (apply Pick.take; (focus (walk_at "m_rem")); walk_at "m_pick") | (apply Pick.skip; walk_at "m_pick"))
local macro_rules | `(tactic| walk_at "m_room") => `(tactic| first | assumption | omega)
local macro_rules | `(tactic| walk_at "m_name") => `(tactic| refine nm (by assumption) (by assumption) (by walk_at "m_has") (by walk_at "m_at") (by decide) (by decide) ?_)
local macro_rules | `(tactic| walk_at "m_slotget") => `(tactic| (refine attr_slot (by assumption) (by first | exact sl_step _ | exact sl_node _ | exact sl_children _ | exact sl_value _) (by assumption) (by walk_at "m_has") (by exact rfl) (by walk_at "m_has") (by exact rfl) (by exact rfl) ?_))
local macro_rules | `(tactic| walk_at "m_store") => `(tactic| refine st_ (by assumption) (by assumption) (by decide) (by walk_at "m_sub") (by walk_at "m_put") ?_)
local macro_rules | `(tactic| walk_at "m_glob") => `(tactic| (refine glob (by assumption) (by assumption) (by assumption) (by decide) (by k_dflt k_is) (by decide) ?_))
variable {w : World} {A : Around} {E : Value → Shared → Prop} {b s : Shared} {cs cs' : List Cell} {R : Result → Shared → Prop} {env : Env} {pos : Pos}

theorem law_name (w : World) : nsIn (hd.heap_39 w.params) mainGlobals (S "law") = some (some (.ref 896)) := by k_dflt k_is
theorem join01 : PySem.Challenge.rw_ez0279_01.Holds := by
  refine hd ?_
  intro w s₀ s₁ mg mb G Y fa o pm cd doc dV kV ho hd' hcd hD hmg hg args vals as hpre hlay hrd hwl hlo
  have KX := kIn_of Y
  refine Ground.open G ?_
  intro T B D TE TW
  clear D ho hd' hD
  wrow_args hpre hlay hrd hwl hlo
  rename_i ws _ _ _ _ _ _ _ sc vs _ hL _ _ _ hI _ hlen _
  have hn : ws.length ≤ 63 := by omega
  have hfa : (.ref fa : Value) = .ref 896 := by
    have := mg_of KX T.g (law_name w)
    have e : mg (S "law") = some (.ref fa) := hmg
    rw [this] at e
    exact (Option.some.inj e).symm
  have B0 : Base (hd.heap_39 w.params) s₁ := ⟨KX, _, _, _, _, topRead_of T⟩
  have H0 : St s₁ s₁ [] := ⟨fun _ _ h => h, Nat.le_refl _, List.nodup_nil, fun _ h => (nomatch h), .of_eq hg, rfl⟩
  show wpAny _ callerA (PySem.call (.ref fa) [.ref sc]) _ _ s₁
  rw [hfa]
  refine wpAny_call ?_
  refine law_call B0 H0 hL hI hn rfl (by decide) (fun env => by show (7 : Nat) < 9900; decide) rfl ?_
  intro s' cs' H
  refine ⟨.inl ⟨_, _, [], rfl, fun _ => rfl, ReadsW.bool true, ?_, fun _ => ⟨List.nodup_nil, fun _ hm => (nomatch hm)⟩⟩, .of_keep H.keep, H.os, H.bare⟩
  first | rfl | wrow_post
end Mine
end
theorem PySem.Challenge.cw_ez0279_01_holds : PySem.Challenge.rw_ez0279_01.Holds :=
  Mine.join01
