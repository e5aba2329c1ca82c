import PyProof.Rows.All
import Wide.All
import OpenK.AllK
import Wide.FinOn
import KE.FramesApart
import KE.TryInHelper
import KE.KItem
import PySem.Challenge.RW_dm0102_07
set_option Elab.async false
namespace Mine
open PySem PySem.W PyProof.Rows PySem.Calls

/-- a frame's names: what was stored since, newest first -/
def lk : List (Str × Value) → (Str → Option Value) → Str → Option Value
  | [], m => m
  | (x, v) :: r, m => fun y => if y = x then some v else lk r m y

/-- frame and ledger -/
structure Cx (h₀ : Heap) (L : Addr) (h : Heap) (m : Str → Option Value) (news : List (Addr × Obj)) : Prop where
  fr : Fr h₀ L h m
  get : ∀ p ∈ news, h.get? p.1 = some p.2
  low : ∀ p ∈ news, h₀.get? p.1 = none ∧ p.1 ≠ L
  nod : (news.map (·.1)).Nodup

def Kp (h h' : Heap) : Prop := ∀ b o, h.get? b = some o → h'.get? b = some o
theorem Kp.refl (h : Heap) : Kp h h := fun _ _ e => e
theorem Kp.trans {a b c : Heap} (x : Kp a b) (y : Kp b c) : Kp a c := fun p o e => y p o (x p o e)
theorem Kp.free {h h' : Heap} {a : Addr} (k : Kp h h') (ha : h'.get? a = none) : h.get? a = none := by
  cases e : h.get? a with
  | none => rfl
  | some ob => rw [k a ob e] at ha; cases ha
theorem Kp.push (h : Heap) (o : Obj) : Kp h (h.push o) := fun _ _ e => Heap.get?_push_of_some _ e

section
variable {h₀ h h' : Heap} {L : Addr} {m : Str → Option Value} {news news' : List (Addr × Obj)}
theorem Cx.keep (C : Cx h₀ L h m news) : Kp h₀ h := C.fr.keep
theorem Cx.sub (C : Cx h₀ L h m news) (hs : news'.Sublist news) : Cx h₀ L h m news' :=
  ⟨C.fr, fun p hp => C.get p (hs.subset hp), fun p hp => C.low p (hs.subset hp), C.nod.sublist (hs.map _)⟩
theorem Cx.perm (C : Cx h₀ L h m news) (hs : news.Perm news') : Cx h₀ L h m news' :=
  ⟨C.fr, fun p hp => C.get p (hs.symm.subset hp), fun p hp => C.low p (hs.symm.subset hp), (hs.map _).nodup_iff.mp C.nod⟩
theorem Cx.nil (C : Cx h₀ L h m news) : Cx h₀ L h m [] := C.sub (List.nil_sublist _)
theorem Cx.grown (C : Cx h₀ L h m news) (hk : Kp h h') : Cx h₀ L h' m news :=
  ⟨C.fr.grownK hk, fun p hp => hk _ _ (C.get p hp), C.low, C.nod⟩
theorem Cx.lt (C : Cx h₀ L h m news) : L < h.objs.size := C.fr.ns.lt
theorem Cx.at {a : Addr} {ob : Obj} (C : Cx h₀ L h m news) (hm : (a, ob) ∈ news) : h.get? a = some ob := C.get _ hm
theorem Cx.old {a : Addr} {ob : Obj} (C : Cx h₀ L h m news) (e : h₀.get? a = some ob) : h.get? a = some ob := C.fr.keep _ _ e
theorem Cx.nw (C : Cx h₀ L h m news) : News h₀ L h news := fun p hp => ⟨C.get p hp, (C.low p hp).2, (C.low p hp).1⟩
theorem get_size (h : Heap) : h.get? h.objs.size = none := by
  cases e : h.get? h.objs.size with
  | none => rfl
  | some ob => exact absurd (Heap.lt_size e) (Nat.lt_irrefl _)
/-- an address that is free now is none of ours -/
theorem Cx.free {a : Addr} (C : Cx h₀ L h m news) (ha : h.get? a = none) : h₀.get? a = none ∧ a ≠ L ∧ a ∉ news.map (·.1) := by
  refine ⟨?_, ?_, ?_⟩
  · cases e : h₀.get? a with
    | none => rfl
    | some ob => rw [C.fr.keep a ob e] at ha; cases ha
  · rintro rfl
    obtain ⟨ob, _, _, e, _⟩ := C.fr.ns
    rw [ha] at e; cases e
  · intro hb
    obtain ⟨⟨b', ob'⟩, hp, e⟩ := List.mem_map.mp hb
    have q := C.get _ hp
    rw [e, ha] at q; cases q
/-- an object that is new -/
theorem Cx.add {a : Addr} {ob : Obj} (C : Cx h₀ L h m news) (hk : Kp h h') (ha : h.get? a = none) (hg : h'.get? a = some ob) : Cx h₀ L h' m ((a, ob) :: news) := by
  have C' := C.grown hk
  have hf := C.free ha
  refine ⟨C'.fr, ?_, ?_, List.nodup_cons.mpr ⟨hf.2.2, C.nod⟩⟩
  · intro p hp
    rcases List.mem_cons.mp hp with rfl | hp
    · exact hg
    · exact C'.get p hp
  · intro p hp
    rcases List.mem_cons.mp hp with rfl | hp
    · exact ⟨hf.1, hf.2.1⟩
    · exact C.low p hp
theorem Cx.push (C : Cx h₀ L h m news) (ob : Obj) (hf : ob.isFreed = false := by rfl) : Cx h₀ L (h.push ob) m ((h.objs.size, ob) :: news) :=
  C.add (Kp.push h ob) (get_size h) (Heap.get?_push_size _ hf)
/-- an object of the ledger has changed, all else stands -/
theorem Cx.upd {i : Nat} {a : Addr} {ob ob' : Obj} (C : Cx h₀ L h m news) (hi : news[i]? = some (a, ob)) (hs : Heap.SameBut a h h') (hg : h'.get? a = some ob') :
    Cx h₀ L h' m (news.set i (a, ob')) := by
  have hmem := List.mem_of_getElem? hi
  have hlow := C.low _ hmem
  have sp := PySem.W.X.pairwise_split hi
  have ord' := C.nod
  rw [sp, List.map_append, List.map_cons] at ord'
  have p1 : ∀ p ∈ news.take i, p.1 ≠ a := fun p hp q => (List.nodup_append.mp ord').2.2 p.1 (List.mem_map_of_mem hp) a (.head _) q
  have p2 : ∀ p ∈ news.drop (i + 1), p.1 ≠ a := fun p hp q => (List.nodup_cons.mp (List.nodup_append.mp ord').2.1).1 (by have := List.mem_map_of_mem (f := (·.1)) hp; rwa [q] at this)
  have e : news.set i (a, ob') = news.take i ++ (a, ob') :: news.drop (i + 1) := by
    obtain ⟨hl, _⟩ := List.getElem?_eq_some_iff.mp hi
    exact List.set_eq_take_append_cons_drop.trans (if_pos hl)
  refine ⟨C.fr.change hs hlow.2 ?_, ?_, ?_, ?_⟩
  · exact hlow.1
  · intro p hp
    rw [e] at hp
    rcases List.mem_append.mp hp with hp | hp
    · rw [hs.2 p.1 (p1 p hp)]; exact C.get p (List.mem_of_mem_take hp)
    · rcases List.mem_cons.mp hp with rfl | hp
      · exact hg
      · rw [hs.2 p.1 (p2 p hp)]; exact C.get p (List.mem_of_mem_drop hp)
  · intro p hp
    rw [e] at hp
    rcases List.mem_append.mp hp with hp | hp
    · exact C.low p (List.mem_of_mem_take hp)
    · rcases List.mem_cons.mp hp with rfl | hp
      · exact hlow
      · exact C.low p (List.mem_of_mem_drop hp)
  · rw [e, List.map_append, List.map_cons]; exact ord'
end

/-- the library's two facts give ours -/
theorem Cx.ofN {h₀ h h' : Heap} {L : Addr} {m m' : Str → Option Value} {news : List (Addr × Obj)} (C : Cx h₀ L h m news) (F : Fr h₀ L h' m') (N : News h₀ L h' news) : Cx h₀ L h' m' news :=
  ⟨F, fun p hp => (N p hp).1, C.low, C.nod⟩
theorem Cx.ofN1 {h₀ h h' : Heap} {L : Addr} {m m' : Str → Option Value} {news : List (Addr × Obj)} {a : Addr} {ob : Obj} (C : Cx h₀ L h m news) (F : Fr h₀ L h' m') (N : News h₀ L h' ((a, ob) :: news)) (ha : h.get? a = none) :
    Cx h₀ L h' m' ((a, ob) :: news) := by
  have hf := C.free ha
  refine ⟨F, fun p hp => (N p hp).1, ?_, List.nodup_cons.mpr ⟨hf.2.2, C.nod⟩⟩
  intro p hp
  rcases List.mem_cons.mp hp with rfl | hp
  · exact ⟨hf.1, hf.2.1⟩
  · exact C.low p hp
theorem get_past {h : Heap} {a : Addr} (ha : h.objs.size ≤ a) : h.get? a = none := by
  cases e : h.get? a with
  | none => rfl
  | some ob => exact absurd (Heap.lt_size e) (Nat.not_lt.mpr ha)
/-- one entry changed -/
inductive UpdAt (a : Addr) (ob ob' : Obj) : List (Addr × Obj) → List (Addr × Obj) → Prop
  | head {r : List (Addr × Obj)} : UpdAt a ob ob' ((a, ob) :: r) ((a, ob') :: r)
  | tail {p : Addr × Obj} {r r' : List (Addr × Obj)} : UpdAt a ob ob' r r' → UpdAt a ob ob' (p :: r) (p :: r')
theorem UpdAt.idx {a : Addr} {ob ob' : Obj} : ∀ {r r' : List (Addr × Obj)}, UpdAt a ob ob' r r' → ∃ i, r[i]? = some (a, ob) ∧ r' = r.set i (a, ob')
  | _, _, .head => ⟨0, rfl, rfl⟩
  | _, _, .tail u => let ⟨i, x, y⟩ := u.idx; ⟨i + 1, by simpa using x, by simp [y]⟩
theorem UpdAt.at {a : Addr} {ob ob' : Obj} {h₀ h : Heap} {L : Addr} {m : Str → Option Value} {news news' : List (Addr × Obj)} (u : UpdAt a ob ob' news news') (C : Cx h₀ L h m news) : h.get? a = some ob :=
  let ⟨_, x, _⟩ := u.idx; C.get _ (List.mem_of_getElem? x)
theorem Cx.updAt {a : Addr} {ob ob' : Obj} {h₀ h h' : Heap} {L : Addr} {m : Str → Option Value} {news news' : List (Addr × Obj)} (C : Cx h₀ L h m news) (u : UpdAt a ob ob' news news') (hs : Heap.SameBut a h h') (hg : h'.get? a = some ob') :
    Cx h₀ L h' m news' := by
  obtain ⟨i, x, rfl⟩ := u.idx
  exact C.upd x hs hg

section
variable {M : Model} {A : Around} {E : Value → Shared → Prop} {h₀ h : Heap} {L : Addr} {m : Str → Option Value} {news : List (Addr × Obj)}
  {g : Array GenState} {d : Drawn} {t : Nat} {o : OsState} {env : Env} {Q : Value → Shared → Prop}

theorem nm_l {x : Str} {pos : Pos} {v : Value} (C : Cx h₀ L h m news) (hv : m x = some v) (k : Q v ⟨h, g, d, t, o⟩)
    (hL : env.locals = L := by kernel_rfl) (hl : env.kindOf x = some .local := by kernel_rfl) (hk : env.scope.kind = .function := by kernel_rfl) (hd : (x == ("__debug__" : Str)) = false := by kernel_rfl) :
    wpAny M A (eval (.Name x pos) env) Q E ⟨h, g, d, t, o⟩ := by
  subst hL
  exact wpAny_Name (wpAny_loadName_local hk hl C.fr.ns hv k) hd
theorem ldn_l {x : Str} {v : Value} (C : Cx h₀ L h m news) (hv : m x = some v) (k : Q v ⟨h, g, d, t, o⟩)
    (hL : env.locals = L := by kernel_rfl) (hl : env.kindOf x = some .local := by kernel_rfl) (hk : env.scope.kind = .function := by kernel_rfl) :
    wpAny M A (loadName env x) Q E ⟨h, g, d, t, o⟩ := by
  subst hL
  exact wpAny_loadName_local hk hl C.fr.ns hv k
theorem st_l {x : Str} {v : Value} {Q : Unit → Shared → Prop} {l : List (Str × Value)} (C : Cx h₀ L h (lk l m) news) (k : ∀ h' t', Cx h₀ L h' (lk ((x, v) :: l) m) news → Q () ⟨h', g, d, t', o⟩)
    (hL : env.locals = L := by kernel_rfl) (hl : env.kindOf x = some .local := by kernel_rfl)
    (hp : (env.scope.kind == .class || (env.scope.kind == .module && env.locals != env.globals)) = false := by kernel_rfl) :
    wpAny M A (storeName env x v) Q E ⟨h, g, d, t, o⟩ := by
  subst hL
  refine wpAny_storeName_local hl C.fr.ns (fun h' hn hs => k h' _ ⟨C.fr.set hn hs, fun p hp => ?_, C.low, C.nod⟩) hp
  exact (hs.2 p.1 (C.low p hp).2).trans (C.get p hp)
end

def bNames : List Str := [Str.ofString "len", Str.ofString "sum", Str.ofString "range", Str.ofString "ord", Str.ofString "chr", Str.ofString "bytes", Str.ofString "bytearray", Str.ofString "min", Str.ofString "max", Str.ofString "sorted", Str.ofString "isinstance", Str.ofString "bool", Str.ofString "divmod", Str.ofString "abs", Str.ofString "list", Str.ofString "zip", Str.ofString "str", Str.ofString "IndexError", Str.ofString "UnicodeDecodeError"]
/-- the globals' and the builtins' names -/
structure Gl (mg mb : Str → Option Value) (h : Heap) : Prop where
  g : h.Ns mainGlobals mg
  b : h.Ns builtinsNs mb
  bt : ∀ x : Str, x ≠ "__name__" → mb x = bootBuiltins x
  lim : h.NoLimit
  nob : ∀ x ∈ bNames, mg x = none
theorem Gl.kp {mg mb : Str → Option Value} {h h' : Heap} (G : Gl mg mb h) (k : Kp h h') : Gl mg mb h' :=
  ⟨G.g.keeps k, G.b.keeps k, G.bt, let ⟨mc, a, b⟩ := G.lim; ⟨mc, a.keeps k, b⟩, G.nob⟩

/-- a def of the text -/
structure Fn (mg : Str → Option Value) (h : Heap) (name : Str) (params : Arguments) (body : List Stmt) (scope : Scope) (a : Addr) (cd : Value) : Prop where
  nm : mg name = some (.ref a)
  ob : ∃ ob pm doc, h.get? a = some ob ∧ ob.data = .func (docDef name params body scope pm cd doc)
  code : h.CodeRec cd name
theorem Fn.kp {mg : Str → Option Value} {h h' : Heap} {name : Str} {params : Arguments} {body : List Stmt} {scope : Scope} {a : Addr} {cd : Value} (G : Fn mg h name params body scope a cd) (k : Kp h h') :
    Fn mg h' name params body scope a cd := ⟨G.nm, let ⟨ob, pm, doc, x, y⟩ := G.ob; ⟨ob, pm, doc, k _ _ x, y⟩, G.code.keeps k⟩

section
variable {M : Model} {A : Around} {E : Value → Shared → Prop} {h₀ h : Heap} {L : Addr} {m mg mb : Str → Option Value} {news : List (Addr × Obj)}
  {g : Array GenState} {d : Drawn} {t : Nat} {o : OsState} {env : Env} {Q : Value → Shared → Prop}
theorem nm_g {x : Str} {pos : Pos} {v : Value} (C : Cx h₀ L h m news) (G : Gl mg mb h₀) (hv : mg x = some v) (k : Q v ⟨h, g, d, t, o⟩)
    (hx : env.kindOf x = some .globalImplicit := by kernel_rfl) (hk : env.scope.kind = .function := by kernel_rfl) (hgl : env.globals = mainGlobals := by kernel_rfl) (hd : (x == ("__debug__" : Str)) = false := by kernel_rfl) :
    wpAny M A (eval (.Name x pos) env) Q E ⟨h, g, d, t, o⟩ :=
  Name_function_global hk hx (loadGlobal_global (env := env) (by rw [hgl]; exact (G.kp C.keep).g) hv k) hd
theorem nm_b {x : Str} {pos : Pos} {v : Value} (C : Cx h₀ L h m news) (G : Gl mg mb h₀) (hn : mg x = none) (hb : bootBuiltins x = some v) (k : Q v ⟨h, g, d, t, o⟩)
    (hx : env.kindOf x = some .globalImplicit := by kernel_rfl) (hk : env.scope.kind = .function := by kernel_rfl) (hgl : env.globals = mainGlobals := by kernel_rfl) (hbu : env.builtins = builtinsNs := by kernel_rfl) (hd : (x == ("__debug__" : Str)) = false := by kernel_rfl)
    (hne : x ≠ "__name__" := by decide +kernel) :
    wpAny M A (eval (.Name x pos) env) Q E ⟨h, g, d, t, o⟩ :=
  Name_function_global hk hx (loadGlobal_builtin (env := env) (by rw [hgl]; exact (G.kp C.keep).g) hn (by rw [hbu]; exact (G.kp C.keep).b) ((G.bt x hne).trans hb) k) hd
end

theorem lookup_lk : ∀ l : List (Str × Value), (fun x => l.lookup x) = lk l (fun _ => none)
  | [] => rfl
  | (y, v) :: r => by
    funext x
    show (match x == y with | true => some v | false => r.lookup x) = if x = y then some v else lk r (fun _ => none) x
    by_cases h : x = y
    · subst h; simp
    · rw [if_neg h, ← lookup_lk r]
      have : (x == y) = false := by simpa using h
      rw [this]

section
variable {prog : Program} {w : World} {A : Around} {E : Value → Shared → Prop} {h₀ h : Heap} {L : Addr} {m mg mb : Str → Option Value} {news : List (Addr × Obj)}
  {g : Array GenState} {d : Drawn} {t : Nat} {o : OsState} {Q : Value → Shared → Prop}
theorem call_fn {name : Str} {params : Arguments} {body : List Stmt} {scope : Scope} {a : Addr} {cd : Value} {args : List Value} {binds : List (Str × Value)}
    (G : Gl mg mb h) (f : Fn mg h name params body scope a cd) (hd : A.depth < recursionLimit)
    (k : ∀ h₁ t', Cx h h.objs.size h₁ (lk binds.reverse (fun _ => none)) [] →
      wpAny (model prog w) (A.deeper (envOf name scope h.objs.size a cd)) (execs body (envOf name scope h.objs.size a cd)) (fun f s' => Q (match f with | .ret v => v | _ => .none) s') (fun _ _ => False) ⟨h₁, g, d, t', o⟩)
    (hbind : ∀ pm doc, bindArgs (docDef name params body scope pm cd doc) ⟨args, []⟩ = pure binds)
    (hloc : ∀ x ∈ binds, scope.names.lookup x.1 = some .local)
    (hco : scope.isCoroutine = false := by rfl) (hgen : scope.isGenerator = false := by rfl) (hk : scope.kind = .function := by rfl)
    (hcell : ∀ x ∈ scope.names, x.2 ≠ .cell := by decide) :
    wpAny (model prog w) A (call (.ref a) args) Q E ⟨h, g, d, t, o⟩ := by
  obtain ⟨ob, pm, doc, x, y⟩ := f.ob
  refine wpAny_call (call_plain_ret hd x y G.lim f.code (hbind pm doc) hloc (fun h₁ F => ?_) hco hgen hk hcell)
  rw [lookup_lk] at F
  exact wpAny_mono (k h₁ _ ⟨F, (by intro _ hp; cases hp), (by intro _ hp; cases hp), List.nodup_nil⟩) (fun f s' q => q) (fun _ _ x => x)
end

theorem bb_len : bootBuiltins (Str.ofString "len") = some (.builtin "len") := by decide +kernel
theorem bb_sum : bootBuiltins (Str.ofString "sum") = some (.builtin "sum") := by decide +kernel
theorem bb_range : bootBuiltins (Str.ofString "range") = some (.type "range") := by decide +kernel
theorem bb_ord : bootBuiltins (Str.ofString "ord") = some (.builtin "ord") := by decide +kernel
theorem bb_chr : bootBuiltins (Str.ofString "chr") = some (.builtin "chr") := by decide +kernel
theorem bb_bytes : bootBuiltins (Str.ofString "bytes") = some (.type "bytes") := by decide +kernel
theorem bb_bytearray : bootBuiltins (Str.ofString "bytearray") = some (.type "bytearray") := by decide +kernel
theorem bb_min : bootBuiltins (Str.ofString "min") = some (.builtin "min") := by decide +kernel
theorem bb_max : bootBuiltins (Str.ofString "max") = some (.builtin "max") := by decide +kernel
theorem bb_sorted : bootBuiltins (Str.ofString "sorted") = some (.builtin "sorted") := by decide +kernel
theorem bb_isinstance : bootBuiltins (Str.ofString "isinstance") = some (.builtin "isinstance") := by decide +kernel
theorem bb_bool : bootBuiltins (Str.ofString "bool") = some (.type "bool") := by decide +kernel
theorem bb_divmod : bootBuiltins (Str.ofString "divmod") = some (.builtin "divmod") := by decide +kernel
theorem bb_abs : bootBuiltins (Str.ofString "abs") = some (.builtin "abs") := by decide +kernel
theorem bb_list : bootBuiltins (Str.ofString "list") = some (.type "list") := by decide +kernel
theorem bb_zip : bootBuiltins (Str.ofString "zip") = some (.type "zip") := by decide +kernel
theorem bb_str : bootBuiltins (Str.ofString "str") = some (.type "str") := by decide +kernel
theorem bb_IndexError : bootBuiltins (Str.ofString "IndexError") = some (.type "IndexError") := by decide +kernel
theorem bb_UDE : bootBuiltins (Str.ofString "UnicodeDecodeError") = some (.type "UnicodeDecodeError") := by decide +kernel
/-- the parts of a def -/
def sName : Stmt → Str | .FunctionDef n .. => n | _ => Str.empty
def sParams : Stmt → Arguments | .FunctionDef _ a .. => a | _ => default
def sBody : Stmt → List Stmt | .FunctionDef _ _ b .. => b | _ => []
def sScope : Stmt → Scope | .FunctionDef _ _ _ _ _ _ s .. => s | _ => default
def dAt (p : Program) (i : Nat) : Stmt := p.main.body.getD i (.Pass default)

theorem ite_dec {c : Prop} [Decidable c] {P R : Prop} (hp : c → P) (hn : ¬ c → R) : if decide c = true then P else R := by
  by_cases h : c
  · simp only [h, decide_true, if_true]; exact hp h
  · simp only [h, decide_false, Bool.false_eq_true, if_false]; exact hn h
theorem ite_yes {c : Prop} [Decidable c] {P R : Prop} (hc : c) (h : P) : if decide c = true then P else R := by
  simp only [hc, decide_true, if_true]; exact h
theorem ite_no {c : Prop} [Decidable c] {P R : Prop} (hc : ¬ c) (h : R) : if decide c = true then P else R := by
  simp only [hc, decide_false, Bool.false_eq_true, if_false]; exact h
theorem ite_t {P R : Prop} (h : P) : if true = true then P else R := h
theorem ite_f {P R : Prop} (h : R) : if false = true then P else R := h
def Has (m : Str → Option Value) : List (Str × Value) → Prop
  | [] => True
  | (x, v) :: r => m x = some v ∧ Has m r
theorem Has.eq {m : Str → Option Value} : ∀ {l : List (Str × Value)}, Has m l → m = lk l m
  | [], _ => rfl
  | (x, v) :: r, h => by
    funext y
    show m y = if y = x then some v else lk r m y
    by_cases e : y = x
    · rw [if_pos e, e]; exact h.1
    · rw [if_neg e]; exact congrFun h.2.eq y
theorem ite_b {c : Bool} {P R : Prop} (hp : c = true → P) (hn : c = false → R) : if c = true then P else R := by
  cases c with
  | true => exact hp rfl
  | false => exact hn rfl
end Mine

namespace Mine
open PySem PySem.W PyProof.Rows PySem.Calls
set_option maxRecDepth 100000
section
variable {prog : Program} {w : World} {A : Around} {E : Value → Shared → Prop} {h₀ h : Heap} {L : Addr} {m mg mb : Str → Option Value} {news : List (Addr × Obj)}
  {g : Array GenState} {d : Drawn} {t : Nat} {o : OsState} {env : Env} {Q : Value → Shared → Prop} {a b : Int} {ta tb : Tok}

theorem r_int {i : Int} {k : Nat} {pos : Pos} (k' : ∀ t' tr, Q (.int i tr) ⟨h, g, d, t', o⟩) : wpAny (model prog w) A (eval (.Constant (.int i) k pos) env) Q E ⟨h, g, d, t, o⟩ := wpAny_Constant_int (k' _ _)
theorem r_str {x : Str} {k : Nat} {pos : Pos} (k' : ∀ t' tr, Q (.str x tr) ⟨h, g, d, t', o⟩) : wpAny (model prog w) A (eval (.Constant (.str x) k pos) env) Q E ⟨h, g, d, t, o⟩ := PySem.Calls.Constant_str (k' _ _)
theorem r_bytes {x : List UInt8} {k : Nat} {pos : Pos} (k' : ∀ t' tr, Q (.bytes x.toArray tr) ⟨h, g, d, t', o⟩) : wpAny (model prog w) A (eval (.Constant (.bytes x) k pos) env) Q E ⟨h, g, d, t, o⟩ := PySem.W.Constant_bytes (k' _ _)
theorem r_none {k : Nat} {pos : Pos} (k' : Q .none ⟨h, g, d, t, o⟩) : wpAny (model prog w) A (eval (.Constant .none k pos) env) Q E ⟨h, g, d, t, o⟩ := Constant_none k'
theorem r_bool {c : Bool} {k : Nat} {pos : Pos} (k' : Q (.bool c) ⟨h, g, d, t, o⟩) : wpAny (model prog w) A (eval (.Constant (.bool c) k pos) env) Q E ⟨h, g, d, t, o⟩ := Constant_bool k'

theorem r_add (k : ∀ t' tr, Q (.int (a + b) tr) ⟨h, g, d, t', o⟩) : wpAny (model prog w) A (binaryOp .Add (.int a ta) (.int b tb)) Q E ⟨h, g, d, t, o⟩ := PyProof.Rows.add_int (k _ _)
theorem r_sub (k : ∀ t' tr, Q (.int (a - b) tr) ⟨h, g, d, t', o⟩) : wpAny (model prog w) A (binaryOp .Sub (.int a ta) (.int b tb)) Q E ⟨h, g, d, t, o⟩ := PyProof.Rows.sub_int (k _ _)
theorem r_mul (hm : IntMulOk a b) (k : ∀ t' tr, Q (.int (a * b) tr) ⟨h, g, d, t', o⟩) : wpAny (model prog w) A (binaryOp .Mult (.int a ta) (.int b tb)) Q E ⟨h, g, d, t, o⟩ := PyProof.Rows.mul_int (k _ _) hm
theorem r_iadd (k : ∀ t' tr, Q (.int (a + b) tr) ⟨h, g, d, t', o⟩) : wpAny (model prog w) A (inplaceOp .Add (.int a ta) (.int b tb)) Q E ⟨h, g, d, t, o⟩ := PyProof.Rows.iadd_int (k _ _)
theorem r_imul (hm : IntMulOk a b) (k : ∀ t' tr, Q (.int (a * b) tr) ⟨h, g, d, t', o⟩) : wpAny (model prog w) A (inplaceOp .Mult (.int a ta) (.int b tb)) Q E ⟨h, g, d, t, o⟩ := PyProof.Rows.imul_int (k _ _) hm
theorem r_div (hb : 0 < b) (hs : b < 1073741824) (k : ∀ t' tr, Q (.int (a / b) tr) ⟨h, g, d, t', o⟩) : wpAny (model prog w) A (binaryOp .FloorDiv (.int a ta) (.int b tb)) Q E ⟨h, g, d, t, o⟩ := by
  refine PyProof.Rows.floordiv_int (by omega) ?_ (.inl (PyProof.noPylong_small (by omega)))
  rw [Int.fdiv_eq_ediv_of_nonneg a (Int.le_of_lt hb)]
  exact k _ _
theorem r_mod (hb : 0 < b) (hs : b < 1073741824) (k : ∀ t' tr, Q (.int (a % b) tr) ⟨h, g, d, t', o⟩) : wpAny (model prog w) A (binaryOp .Mod (.int a ta) (.int b tb)) Q E ⟨h, g, d, t, o⟩ := by
  refine PyProof.Rows.mod_int' (by omega) ?_
  rw [Int.fmod_eq_emod_of_nonneg a (Int.le_of_lt hb)]
  exact k _ _
theorem r_eq (k : Q (.bool (decide (a = b))) ⟨h, g, d, t, o⟩) : wpAny (model prog w) A (compareOp .Eq (.int a ta) (.int b tb)) Q E ⟨h, g, d, t, o⟩ := by
  refine PyProof.Rows.eq_int ?_
  have : (a == b) = decide (a = b) := by simp [BEq.beq]
  rw [this]; exact k
theorem r_ne (k : Q (.bool (decide (a ≠ b))) ⟨h, g, d, t, o⟩) : wpAny (model prog w) A (compareOp .NotEq (.int a ta) (.int b tb)) Q E ⟨h, g, d, t, o⟩ := by
  refine PyProof.Rows.ne_int ?_
  have : (a != b) = decide (a ≠ b) := by simp [bne, BEq.beq]
  rw [this]; exact k
theorem r_lt (k : Q (.bool (decide (a < b))) ⟨h, g, d, t, o⟩) : wpAny (model prog w) A (compareOp .Lt (.int a ta) (.int b tb)) Q E ⟨h, g, d, t, o⟩ := PyProof.Rows.lt_int k
theorem r_le (k : Q (.bool (decide (a ≤ b))) ⟨h, g, d, t, o⟩) : wpAny (model prog w) A (compareOp .LtE (.int a ta) (.int b tb)) Q E ⟨h, g, d, t, o⟩ := PyProof.Rows.le_int k
theorem r_gt (k : Q (.bool (decide (b < a))) ⟨h, g, d, t, o⟩) : wpAny (model prog w) A (compareOp .Gt (.int a ta) (.int b tb)) Q E ⟨h, g, d, t, o⟩ := PyProof.Rows.gt_int k
theorem r_ge (k : Q (.bool (decide (b ≤ a))) ⟨h, g, d, t, o⟩) : wpAny (model prog w) A (compareOp .GtE (.int a ta) (.int b tb)) Q E ⟨h, g, d, t, o⟩ := PyProof.Rows.ge_int k
theorem r_tint {Q : Bool → Shared → Prop} (k : Q (decide (a ≠ 0)) ⟨h, g, d, t, o⟩) : wpAny (model prog w) A (truthy (.int a ta)) Q E ⟨h, g, d, t, o⟩ := by
  refine PyProof.Rows.truthy_int ?_
  have : (a != 0) = decide (a ≠ 0) := by simp [bne, BEq.beq]
  first | (rw [this]; exact k) | exact k | simpa using k
theorem t_last {Q : Bool → Shared → Prop} {s : Shared} {pos : Pos} {x : Value} {op : CmpOp} {r : Sem Value} {rs : List (Sem Value)}
    (k : wpAny (model prog w) A r (fun b s₁ => wpAny (model prog w) A (compareOp op x b) (fun c s₂ => wpAny (model prog w) A (truthy c) Q E s₂) E s₁) E s) (hrs : rs = [] := by kernel_rfl) :
    wpAny (model prog w) A (testChain pos x [op] (r :: rs)) Q E s := by
  subst hrs
  exact test_last k
end
end Mine

namespace Mine
open PySem PySem.W PyProof.Rows PySem.Calls
set_option maxRecDepth 100000
set_option linter.unusedVariables false
section
variable {prog : Program} {w : World} {A : Around} {E : Value → Shared → Prop} {h₀ h : Heap} {L : Addr} {m mg mb : Str → Option Value} {news : List (Addr × Obj)}
  {g : Array GenState} {d : Drawn} {t : Nat} {o : OsState} {env : Env} {Q : Flow → Shared → Prop}

/-- a turn's end: the loop goes on by a smaller number, or leaves -/
def TurnW (h₀ : Heap) (L : Addr) (g : Array GenState) (d : Drawn) (o : OsState) (Inv : Nat → (Str → Option Value) → List (Addr × Obj) → Prop) (n : Nat) (Q : Flow → Shared → Prop) (f : Flow) (s : Shared) : Prop :=
  match f with
  | .next | .cont => ∃ n' h t m news, n' < n ∧ s = ⟨h, g, d, t, o⟩ ∧ Cx h₀ L h m news ∧ Inv n' m news
  | .brk => Q .next s
  | .ret v => Q (.ret v) s
theorem TurnW.go {Inv : Nat → (Str → Option Value) → List (Addr × Obj) → Prop} {n n' : Nat} (C : Cx h₀ L h m news) (hn : n' < n) (hI : Inv n' m news) : TurnW h₀ L g d o Inv n Q .next ⟨h, g, d, t, o⟩ :=
  ⟨n', h, t, m, news, hn, rfl, C, hI⟩

theorem r_while {test : Expr} {body : List Stmt} {pos : Pos} (Inv : Nat → (Str → Option Value) → List (Addr × Obj) → Prop) (n : Nat) (C : Cx h₀ L h m news) (hI : Inv n m news)
    (turn : ∀ n h t m news, Cx h₀ L h m news → Inv n m news → wpAny (model prog w) A (isTrue test env (eval test env)) (fun b s₂ =>
      if b = true then wpAny (model prog w) A (execs body env) (TurnW h₀ L g d o Inv n Q) (fun _ _ => False) s₂ else Q .next s₂) (fun _ _ => False) ⟨h, g, d, t, o⟩) :
    wpAny (model prog w) A (exec (.While test body [] pos) env) Q E ⟨h, g, d, t, o⟩ := by
  refine wpAny_While (codeAny_whileLoop (fun n s => ∃ h t m news, s = ⟨h, g, d, t, o⟩ ∧ Cx h₀ L h m news ∧ Inv n m news) ?_ n ⟨h, t, m, news, rfl, C, hI⟩)
  rintro n s ⟨h, t, m, news, rfl, C, hI⟩
  refine wpAny_mono (turn n h t m news C hI) (fun b s₂ q => ?_) (fun _ _ x => x.elim)
  cases b with
  | false =>
    simp only [Bool.false_eq_true, if_false] at q ⊢
    exact wpAny_pure q
  | true =>
    simp only [if_true] at q ⊢
    refine wpAny_mono q (fun f s₃ q => ?_) (fun _ _ x => x.elim)
    cases f with
    | next => obtain ⟨n', h, t, m, news, hn, e, C, hI⟩ := q; exact ⟨n', hn, h, t, m, news, e, C, hI⟩
    | cont => obtain ⟨n', h, t, m, news, hn, e, C, hI⟩ := q; exact ⟨n', hn, h, t, m, news, e, C, hI⟩
    | brk => exact q
    | ret v => exact q

/-- a turn of a for: behind item i -/
def TurnF (h₀ : Heap) (L : Addr) (g : Array GenState) (d : Drawn) (o : OsState) (Inv : Nat → (Str → Option Value) → List (Addr × Obj) → Prop) (it : Addr) (io : Obj) (i : Nat) (Q : Flow → Shared → Prop) (f : Flow) (s : Shared) : Prop :=
  match f with
  | .next | .cont => ∃ h t m news, s = ⟨h, g, d, t, o⟩ ∧ Cx h₀ L h m ((it, io) :: news) ∧ Inv (i + 1) m news
  | .brk => Q .next s
  | .ret v => Q (.ret v) s
theorem TurnF.go {Inv : Nat → (Str → Option Value) → List (Addr × Obj) → Prop} {it : Addr} {io : Obj} {i : Nat} (C : Cx h₀ L h m ((it, io) :: news)) (hI : Inv (i + 1) m news) : TurnF h₀ L g d o Inv it io i Q .next ⟨h, g, d, t, o⟩ :=
  ⟨h, t, m, news, rfl, C, hI⟩

theorem Cx.ext {it : Addr} {io : Obj} {h' : Heap} (C : Cx h₀ L h m ((it, io) :: news)) (x : Heap.ExtBut it h h') : Cx h₀ L h' m news := by
  have hlow := C.low _ (.head _)
  have hne : ∀ p ∈ news, p.1 ≠ it := fun p hp q => (List.nodup_cons.mp C.nod).1 (by have := List.mem_map_of_mem (f := (·.1)) hp; rwa [q] at this)
  have hk : ∀ b o, b ≠ it → h.get? b = some o → h'.get? b = some o := fun b o hb e => x b o hb e
  have hold : ∀ b o, h₀.get? b = some o → b ≠ it := fun b o e q => by rw [q, hlow.1] at e; cases e
  refine ⟨⟨?_, fun b o e => hk b o (hold b o e) (C.fr.keep b o e), C.fr.above⟩, fun p hp => hk _ _ (hne p hp) (C.get p (.tail _ hp)), fun p hp => C.low p (.tail _ hp), (List.nodup_cons.mp C.nod).2⟩
  obtain ⟨oL, es, ep, e, r⟩ := C.fr.ns
  exact ⟨oL, es, ep, hk _ _ (Ne.symm hlow.2) e, r⟩
theorem Cx.upd0 {it : Addr} {io io' : Obj} {h' : Heap} (C : Cx h₀ L h m ((it, io) :: news)) (hs : Heap.SameBut it h h') (hg : h'.get? it = some io') : Cx h₀ L h' m ((it, io') :: news) :=
  C.upd (i := 0) rfl hs hg

theorem bound {x : Str} {pos : Pos} {v : Value} {Q : Unit → Shared → Prop} (hx : wpAny (model prog w) A (storeName env x v) Q E ⟨h, g, d, t, o⟩) : wpAny (model prog w) A (assign (.Name x pos) env v) Q E ⟨h, g, d, t, o⟩ := by
  exact PyProof.Rows.assign_Name hx

/-- a loop over a list that stands through it -/
theorem r_forL {x : Str} {px pos : Pos} {iter : Expr} {body : List Stmt} (C₀ : Cx h₀ L h m news) (Inv : Addr → Nat → (Str → Option Value) → List (Addr × Obj) → Prop) {items : List Value} {lo : Obj}
    (hlo : lo.cls = .type "list") (hli : ∃ n, lo.data = .seq items.toArray n)
    (hh : A.handled = none)
    (hstay : ∀ l i h m news, Cx h₀ L h m news → Inv l i m news → h.get? l = some lo)
    (turn : ∀ (l : Addr) (i : Nat) (v : Value) (it : Addr) (io : Obj) h t m news, items[i]? = some v → Cx h₀ L h (lk [(x, v)] m) ((it, io) :: news) → Inv l i m news →
      wpAny (model prog w) A (execs body env) (TurnF h₀ L g d o (Inv l) it io i Q) (fun _ _ => False) ⟨h, g, d, t, o⟩)
    (done : ∀ l h t m news, Cx h₀ L h m news → Inv l items.length m news → Q .next ⟨h, g, d, t, o⟩)
    (hiter : wpAny (model prog w) A (eval iter env) (fun v s₁ => ∃ l h t m news, v = .ref l ∧ s₁ = ⟨h, g, d, t, o⟩ ∧ Cx h₀ L h m news ∧ Inv l 0 m news) E ⟨h, g, d, t, o⟩)
    (hL : env.locals = L := by kernel_rfl) (hl : env.kindOf x = some .local := by kernel_rfl)
    (hp : (env.scope.kind == .class || (env.scope.kind == .module && env.locals != env.globals)) = false := by kernel_rfl)
    (hs : ∀ x, foldedSetIterable iter env x = pure x := by intro _; kernel_rfl) :
    wpAny (model prog w) A (exec (.For (.Name x px) iter body [] pos) env) Q E ⟨h, g, d, t, o⟩ := by
  have isl : ∀ (l : Addr) (h : Heap), h.get? l = some lo → h.IsList l items.toArray := fun l h e => by
    obtain ⟨n, q⟩ := hli
    exact ⟨lo, e, hlo, n, q⟩
  refine wpAny_For (wpAny_mono hiter ?_ (fun _ _ x => x)) hs
  rintro v s₁ ⟨l, h1, t, m, news, rfl, rfl, C, hI⟩
  refine wpAny_pyIter_list (isl _ _ (hstay _ _ _ _ _ C hI)) ?_
  refine codeAny_forLoop (fun n s => ∃ (h : Heap) (t : Nat) (m : Str → Option Value) (news : List (Addr × Obj)) (i : Nat) (io : Obj), s = ⟨h, g, d, t, o⟩ ∧ Cx h₀ L h m news ∧ Cx h₀ L h m ((h1.objs.size, io) :: news) ∧ h.IsListIter h1.objs.size l i ∧ Inv l i m news ∧ i + n = items.length) ?_ items.length ⟨_, t, m, news, 0, _, rfl, C.grown (Kp.push _ _), C.push _, ⟨_, Heap.get?_push_size _ rfl, rfl, rfl⟩, hI, by omega⟩
  rintro n s ⟨h, t, m, news, i, io, rfl, C0, C, hit, hI, hn⟩
  cases hx : items[i]? with
  | none =>
    refine wpAny_pyNext_list_end hh hit (isl _ _ (hstay _ _ _ _ _ C0 hI)) (by simpa using hx) (fun h' hx' => ?_)
    refine wpAny_pure ?_
    have : i = items.length := by
      have := List.getElem?_eq_none_iff.mp hx
      omega
    subst this
    exact done _ _ _ _ _ (C.ext hx') hI
  | some v =>
    refine wpAny_pyNext_list_item hit (isl _ _ (hstay _ _ _ _ _ C0 hI)) (by simpa using hx) (fun h' hit' hs' => ?_)
    obtain ⟨io', g1, g2, g3⟩ := id hit'
    have hlt : i < items.length := (List.getElem?_eq_some_iff.mp hx).1
    have C' := C.upd0 hs' g1
    refine bound ?_
    refine st_l (l := []) C' (fun h₂ t' C₂ => ?_) hL hl hp
    refine wpAny_mono (turn l i v _ io' h₂ t' m news hx C₂ hI) (fun f s₃ q => ?_) (fun _ _ x => x.elim)
    cases f with
    | next =>
      obtain ⟨h, t, m, news, e, C, hI⟩ := q
      exact ⟨n - 1, by omega, h, t, m, news, i + 1, io', e, C.sub (List.sublist_cons_self _ _), C, ⟨io', C.get _ (.head _), g2, g3⟩, hI, by omega⟩
    | cont =>
      obtain ⟨h, t, m, news, e, C, hI⟩ := q
      exact ⟨n - 1, by omega, h, t, m, news, i + 1, io', e, C.sub (List.sublist_cons_self _ _), C, ⟨io', C.get _ (.head _), g2, g3⟩, hI, by omega⟩
    | brk => exact q
    | ret v => exact q
/-- a loop over a range: n turns from a by c -/
theorem r_forR {x : Str} {px pos : Pos} {iter : Expr} {body : List Stmt} (C₀ : Cx h₀ L h m news) (Inv : Nat → (Str → Option Value) → List (Addr × Obj) → Prop) {a b c : Int} {n : Nat}
    (hsmall : Builtin.Range.small a b c = true) (hn : Builtin.Range.rangeSize a b c = n)
    (hh : A.handled = none)
    (turn : ∀ (i : Nat) (tv : Tok) (it : Addr) (io : Obj) h t m news, i < n → Cx h₀ L h (lk [(x, .int (a + (i : Int) * c) tv)] m) ((it, io) :: news) → Inv i m news →
      wpAny (model prog w) A (execs body env) (TurnF h₀ L g d o Inv it io i Q) (fun _ _ => False) ⟨h, g, d, t, o⟩)
    (done : ∀ h t m news, Cx h₀ L h m news → Inv n m news → Q .next ⟨h, g, d, t, o⟩)
    (hiter : wpAny (model prog w) A (eval iter env) (fun v s₁ => ∃ r h t m news t1 t2 t3, v = .ref r ∧ s₁ = ⟨h, g, d, t, o⟩ ∧ IsRange h r a b c t1 t2 t3 ∧ Cx h₀ L h m news ∧ Inv 0 m news) E ⟨h, g, d, t, o⟩)
    (hL : env.locals = L := by kernel_rfl) (hl : env.kindOf x = some .local := by kernel_rfl)
    (hp : (env.scope.kind == .class || (env.scope.kind == .module && env.locals != env.globals)) = false := by kernel_rfl)
    (hs : ∀ x, foldedSetIterable iter env x = pure x := by intro _; kernel_rfl) :
    wpAny (model prog w) A (exec (.For (.Name x px) iter body [] pos) env) Q E ⟨h, g, d, t, o⟩ := by
  refine wpAny_For (wpAny_mono hiter ?_ (fun _ _ x => x)) hs
  rintro v s₁ ⟨r, h1, t, m, news, t1, t2, t3, rfl, rfl, hr, C, hI⟩
  refine wpAny_pyIter_range hr hsmall ?_
  refine codeAny_forLoop (fun k s => ∃ (h : Heap) (t : Nat) (m : Str → Option Value) (news : List (Addr × Obj)) (i : Nat) (io : Obj), s = ⟨h, g, d, t, o⟩ ∧ Cx h₀ L h m ((h1.objs.size, io) :: news) ∧ IsRangeIter h h1.objs.size (a + (i : Int) * c) ((n : Int) - i) c ∧ Inv i m news ∧ i + k = n) ?_ n ⟨_, t, m, news, 0, _, rfl, C.push _, ?_, hI, by omega⟩
  · rintro k s ⟨h, t, m, news, i, io, rfl, C, hit, hI, hk⟩
    by_cases hlt : i < n
    · refine wpAny_pyNext_range_item hit (by omega) (fun h' hit' hs' => ?_)
      have C' := C.upd0 hs' hit'
      refine bound ?_
      refine st_l (l := []) C' (fun h₂ t' C₂ => ?_) hL hl hp
      refine wpAny_mono (turn i _ _ _ h₂ t' m news hlt C₂ hI) (fun f s₃ q => ?_) (fun _ _ x => x.elim)
      have e1 : a + (i : Int) * c + c = a + ((i + 1 : Nat) : Int) * c := by rw [Int.natCast_add, Int.add_mul]; simp [Int.add_assoc]
      have e2 : (n : Int) - i - 1 = (n : Int) - ((i + 1 : Nat) : Int) := by omega
      cases f with
      | next =>
        obtain ⟨h, t, m, news, e, C, hI⟩ := q
        refine ⟨k - 1, by omega, h, t, m, news, i + 1, _, e, C, ?_, hI, by omega⟩
        rw [← e1, ← e2]; exact C.get _ (.head _)
      | cont =>
        obtain ⟨h, t, m, news, e, C, hI⟩ := q
        refine ⟨k - 1, by omega, h, t, m, news, i + 1, _, e, C, ?_, hI, by omega⟩
        rw [← e1, ← e2]; exact C.get _ (.head _)
      | brk => exact q
      | ret v => exact q
    · refine wpAny_pyNext_range_end hh hit (by omega) (fun h' hx' => ?_)
      refine wpAny_pure ?_
      have : i = n := by omega
      subst this
      exact done _ _ _ _ (C.ext hx') hI
  · have e : a + ((0 : Nat) : Int) * c = a := by simp
    rw [e, hn]
    have e2 : (n : Int) - ((0 : Nat) : Int) = n := by simp
    rw [e2]
    exact Heap.get?_push_size _ rfl
end
end Mine

namespace Mine
open PySem PySem.W PyProof.Rows PySem.Calls
set_option maxRecDepth 100000
abbrev lst (vs : List Value) (n : Nat) : Obj := { cls := .type "list", data := .seq vs.toArray n }
abbrev tup (vs : List Value) : Obj := { cls := .type "tuple", data := .seq vs.toArray 0 }
section
variable {prog : Program} {w : World} {A : Around} {E : Value → Shared → Prop} {h₀ h : Heap} {L : Addr} {m mg mb : Str → Option Value} {news : List (Addr × Obj)}
  {g : Array GenState} {d : Drawn} {t : Nat} {o : OsState} {env : Env} {Q : Value → Shared → Prop} {value slice : Expr}

theorem r_newTuple {vs : List Value} (C : Cx h₀ L h m news) (hsz : vs.length ≤ sizeLine) (k : ∀ a h', Cx h₀ L h' m ((a, tup vs) :: news) → Q (.ref a) ⟨h', g, d, t, o⟩) :
    wpAny (model prog w) A (newTuple vs) Q E ⟨h, g, d, t, o⟩ :=
  wpAny_newObj_type (k _ _ (C.push _)) (by show vs.toArray.size ≤ sizeLine; rw [List.size_toArray]; exact hsz)
theorem r_newList {vs : List Value} (C : Cx h₀ L h m news) (hsz : vs.length ≤ sizeLine) (k : ∀ a h', Cx h₀ L h' m ((a, lst vs 0) :: news) → Q (.ref a) ⟨h', g, d, t, o⟩) :
    wpAny (model prog w) A (newList vs) Q E ⟨h, g, d, t, o⟩ :=
  wpAny_newObj_type (k _ _ (C.push _)) (by show vs.toArray.size ≤ sizeLine; rw [List.size_toArray]; exact hsz)

theorem r_bitem {b : Array UInt8} {i c : Int} {tb ti : Tok} (h0 : 0 ≤ i) (hc : (KBw.bInts b)[i.toNat]? = some c) (hfit : b.size ≤ 1000000000)
    (k : ∀ t' tr, 0 ≤ c → c < 256 → Q (.int c tr) ⟨h, g, d, t', o⟩)
    (hs : subscripted slice false (.bytes b tb) (.int i ti) = operate [.bytes b tb, .int i ti] (getItem (.bytes b tb) (.int i ti)) := by kernel_rfl)
    (ht : ∀ r, letTemporaryGo value (.bytes b tb) r = pure () := by intro _; kernel_rfl) :
    wpAny (model prog w) A (subscriptTail value slice (.bytes b tb) (.int i ti)) Q E ⟨h, g, d, t, o⟩ := by
  have hlt := (List.getElem?_eq_some_iff.mp hc).1
  refine KBw.item_K rfl (by rw [KBw.ints_length]; omega) h0 (by omega) (fun t' k' a b => ?_) hs ht
  have e : (KBw.bInts ‹_›).getD i.toNat 0 = c := by rw [List.getD_eq_getElem?_getD, hc]; rfl
  rw [e] at a b ⊢
  exact k _ _ a b

theorem r_titem {x : Addr} {vs : List Value} {i : Int} {ti : Tok} {v : Value} {n : Nat} (hx : h.get? x = some { cls := .type "tuple", data := .seq vs.toArray n }) (h0 : 0 ≤ i) (hv : vs[i.toNat]? = some v) (hfit : vs.length ≤ 1000000000) (k : Q v ⟨h, g, d, t, o⟩)
    (hs : subscripted slice false (.ref x) (.int i ti) = operate [.ref x, .int i ti] (getItem (.ref x) (.int i ti)) := by kernel_rfl)
    (hg : ∀ r, letTemporaryGo value (.ref x) r = pure () := by intro _; kernel_rfl) :
    wpAny (model prog w) A (subscriptTail value slice (.ref x) (.int i ti)) Q E ⟨h, g, d, t, o⟩ := by
  have hlt := (List.getElem?_eq_some_iff.mp hv).1
  refine item_tupleL (l := vs) (j := i.toNat) ⟨_, hx, rfl, _, rfl⟩ (by omega) (by omega) ?_ hv k hs hg
  have hn : ¬ i < 0 := by omega
  have h1 : i < vs.length := by omega
  simp [seqIndex?, hn, h0, h1]
theorem r_callf {nm : Str} {pa : Arguments} {bo : List Stmt} {sc : Scope} {a : Addr} {cd : Value} {e : Expr} {rest : List Expr} {pos : Pos} {s : Shared} (f : Fn mg h₀ nm pa bo sc a cd)
    (k : wpAny (model prog w) A (spliced (backTo pos (starEach (e :: rest) env))) (fun vs s₁ => Kp h₀ s₁.heap ∧ wpAny (model prog w) A (call (.ref a) vs) Q E s₁) E s)
    (he : starEach (e :: rest) env = (false, eval e env) :: starEach rest env := by kernel_rfl) :
    wpAny (model prog w) A (callWith pos (.ref a) [] (backTo pos (starEach (e :: rest) env)) []) Q E s := by
  obtain ⟨ob, pm, doc, x, y⟩ := f.ob
  exact callWith_def (o := ob) y (wpAny_mono k (fun vs s₁ q => ⟨q.1 _ _ x, q.2⟩) fun _ _ x => x) he
end
end Mine

namespace Mine
open PySem PySem.W PyProof.Rows PySem.Calls
set_option maxRecDepth 100000
set_option linter.unusedVariables false
theorem isl {h : Heap} {l : Addr} {vs : List Value} {n : Nat} (hx : h.get? l = some (lst vs n)) : h.IsList l vs.toArray := ⟨_, hx, rfl, n, rfl⟩
theorem ist {h : Heap} {l : Addr} {vs : List Value} (hx : h.get? l = some (tup vs)) : IsTup h l vs.toArray := ⟨_, hx, rfl, 0, rfl⟩
section
variable {prog : Program} {w : World} {A : Around} {E : Value → Shared → Prop} {h₀ h : Heap} {L : Addr} {m mg mb : Str → Option Value} {news news' : List (Addr × Obj)}
  {g : Array GenState} {d : Drawn} {t : Nat} {o : OsState} {env : Env} {Q : Value → Shared → Prop} {value slice : Expr} {l l' : Addr} {vs ws : List Value} {n n' : Nat} {ns ms : List Int}

theorem r_len (hx : h.get? l = some (lst vs n)) (hz : vs.length ≤ 1000000) (k : ∀ t' tr, Q (.int vs.length tr) ⟨h, g, d, t', o⟩) : wpAny (model prog w) A (call (.builtin "len") [.ref l]) Q E ⟨h, g, d, t, o⟩ := by
  have e : vs.toArray.size = vs.length := by simp
  refine call_len_list (isl hx) (by rw [e]; omega) ?_
  rw [e]; exact k _ _
theorem r_lenB {b : Array UInt8} {tb : Tok} (hz : b.size ≤ 1000000) (k : ∀ t' tr, Q (.int b.size tr) ⟨h, g, d, t', o⟩) : wpAny (model prog w) A (call (.builtin "len") [.bytes b tb]) Q E ⟨h, g, d, t, o⟩ :=
  len_bytes (by omega) (k _ _)
theorem r_sum (C : Cx h₀ L h m news) (hh : A.handled = none) (hx : h.get? l = some (lst vs n)) (hi : IntsAre vs ns) (k : ∀ h' t' tr, Cx h₀ L h' m news → Q (.int ns.sum tr) ⟨h', g, d, t', o⟩) :
    wpAny (model prog w) A (call (.builtin "sum") [.ref l]) Q E ⟨h, g, d, t, o⟩ :=
  LSm.sum_ints C.fr C.nw hh (isl hx) hi fun h' tk t' F N => k h' tk t' (C.ofN F N)
theorem r_litem {i : Int} {ti : Tok} {v : Value} (hx : h.get? l = some (lst vs n)) (h0 : 0 ≤ i) (hv : vs[i.toNat]? = some v) (hz : vs.length ≤ 1000000) (k : Q v ⟨h, g, d, t, o⟩)
    (hs : subscripted slice false (.ref l) (.int i ti) = operate [.ref l, .int i ti] (getItem (.ref l) (.int i ti)) := by kernel_rfl) : wpAny (model prog w) A (subscriptTail value slice (.ref l) (.int i ti)) Q E ⟨h, g, d, t, o⟩ := by
  have hlt := (List.getElem?_eq_some_iff.mp hv).1
  exact item_listR (isl hx) h0 (by omega) (by simpa using hv) k hs
theorem r_litemN {i : Int} {ti : Tok} {v : Value} (hx : h.get? l = some (lst vs n)) (h0 : i < 0) (h1 : -(vs.length : Int) ≤ i) (hv : vs[(i + vs.length).toNat]? = some v) (hz : vs.length ≤ 1000000) (k : Q v ⟨h, g, d, t, o⟩)
    (hs : subscripted slice false (.ref l) (.int i ti) = operate [.ref l, .int i ti] (getItem (.ref l) (.int i ti)) := by kernel_rfl) : wpAny (model prog w) A (subscriptTail value slice (.ref l) (.int i ti)) Q E ⟨h, g, d, t, o⟩ := by
  refine kde_neg (vs := vs) (j := (i + vs.length).toNat) (isl hx) h0 (by omega) ?_ hv k hs
  have h2 : 0 ≤ i + (vs.length : Int) := by omega
  have h3 : i + (vs.length : Int) < vs.length := by omega
  simp [seqIndex?, h0, h2, h3]
theorem r_append {v : Value} (C : Cx h₀ L h m news) (u : UpdAt l (lst vs n) (lst (vs ++ [v]) (n + 1)) news news') (hz : vs.length ≤ 1000000) (k : ∀ h', Cx h₀ L h' m news' → Q .none ⟨h', g, d, t, o⟩) :
    wpAny (model prog w) A (call (.builtin "list.append") [.ref l, v]) Q E ⟨h, g, d, t, o⟩ := by
  refine append_at (its := vs.toArray) (n := n) (u.at C) (fun h' hs hg => k h' (C.updAt u hs ?_)) (by rw [sizeLine_eq]; simp; omega)
  rw [hg]; simp
theorem r_addL (C : Cx h₀ L h m news) (hx : h.get? l = some (lst vs n)) (hy : h.get? l' = some (lst ws n')) (hz : vs.length + ws.length ≤ 1000000) (k : ∀ a h', Cx h₀ L h' m ((a, lst (vs ++ ws) 0) :: news) → Q (.ref a) ⟨h', g, d, t, o⟩) :
    wpAny (model prog w) A (binaryOp .Add (.ref l) (.ref l')) Q E ⟨h, g, d, t, o⟩ := by
  refine P.add_list hx hy ?_ (by rw [sizeLine_eq]; simp; omega)
  have := k _ _ (C.push (lst (vs ++ ws) 0))
  simpa using this
theorem r_sorted (C : Cx h₀ L h m news) (hx : h.get? l = some (lst vs n)) (hi : IntsAre vs ns) (hz : vs.length < 64)
    (k : ∀ a h' vs' ns' e, Cx h₀ L h' m ((a, lst vs' e) :: news) → IntsAre vs' ns' → ns'.Perm ns → ns'.Pairwise (· ≤ ·) → Q (.ref a) ⟨h', g, d, t, o⟩) : wpAny (model prog w) A (call (.builtin "sorted") [.ref l]) Q E ⟨h, g, d, t, o⟩ :=
  sorted_N C.fr C.nw (isl hx) hi hz fun h' vs' ns' e F N a b c => k _ h' vs' ns' e (C.ofN1 F N (get_past (Nat.le_succ _))) a b c
theorem r_range1 {b : Int} {tb : Tok} (C : Cx h₀ L h m news) (k : ∀ a h' t' t1 t2 t3, Cx h₀ L h' m ((a, { cls := .type "range", data := .fields #[.int 0 t1, .int b t2, .int 1 t3] }) :: news) → Q (.ref a) ⟨h', g, d, t', o⟩) :
    wpAny (model prog w) A (call (.type "range") [.int b tb]) Q E ⟨h, g, d, t, o⟩ :=
  range1_rows C.fr C.nw fun h' tk t1 t2 t3 R F N hk => k _ h' tk t1 t2 t3 (C.add hk (get_size _) R)
theorem r_range2 {b c : Int} {tb tc : Tok} (C : Cx h₀ L h m news) (k : ∀ a h' t' t1 t2 t3, Cx h₀ L h' m ((a, { cls := .type "range", data := .fields #[.int b t1, .int c t2, .int 1 t3] }) :: news) → Q (.ref a) ⟨h', g, d, t', o⟩) :
    wpAny (model prog w) A (call (.type "range") [.int b tb, .int c tc]) Q E ⟨h, g, d, t, o⟩ :=
  range2_rows C.fr C.nw fun h' tk t1 t2 t3 R F N hk => k _ h' tk t1 t2 t3 (C.add hk (get_size _) R)
theorem r_ord {x : Str} {tx : Tok} (h1 : x.length = 1) (k : ∀ t' tr, Q (.int (x.cps.getD 0 0 : Nat) tr) ⟨h, g, d, t', o⟩) : wpAny (model prog w) A (call (.builtin "ord") [.str x tx]) Q E ⟨h, g, d, t, o⟩ := ord_of_one h1 (k _ _)
theorem r_chr {i : Int} {ti : Tok} (h0 : 0 ≤ i) (h1 : i ≤ 1114111) (k : ∀ t' tr, Q (.str ⟨#[i.toNat]⟩ tr) ⟨h, g, d, t', o⟩) : wpAny (model prog w) A (call (.builtin "chr") [.int i ti]) Q E ⟨h, g, d, t, o⟩ := chr_of_range h0 h1 (k _ _)
theorem r_bytesL (C : Cx h₀ L h m news) (hh : A.handled = none) (hx : h.get? l = some (lst vs n)) (hi : IntsAre vs ns) (hr : ∀ x ∈ ns, 0 ≤ x ∧ x < 256) (hz : vs.length ≤ 1000000) (k : ∀ h' t' tr, Cx h₀ L h' m news → Q (.bytes (byteArr ns) tr) ⟨h', g, d, t', o⟩) :
    wpAny (model prog w) A (call (.type "bytes") [.ref l]) Q E ⟨h, g, d, t, o⟩ :=
  call_bytes_ints (isl hx) hi hr (by rw [sizeLine_eq]; omega) hh fun h' tk t' hk => k h' t' tk (C.grown hk)
theorem r_isiI {i : Int} {ti : Tok} (k : ∀ t', Q (.bool false) ⟨h, g, d, t', o⟩) : wpAny (model prog w) A (call (.builtin "isinstance") [.int i ti, .type "bool"]) Q E ⟨h, g, d, t, o⟩ := IsiPair.int_bool (k _)
theorem r_isiN (k : ∀ t', Q (.bool false) ⟨h, g, d, t', o⟩) : wpAny (model prog w) A (call (.builtin "isinstance") [.none, .type "bool"]) Q E ⟨h, g, d, t, o⟩ := IsiPair.NoneType_bool (k _)
theorem r_max {a b : Int} {ta tb : Tok} (C : Cx h₀ L h m news) (hh : A.handled = none) (k : ∀ h' t' tr, Cx h₀ L h' m news → Q (.int (max a b) tr) ⟨h', g, d, t', o⟩) :
    wpAny (model prog w) A (call (.builtin "max") [.int a ta, .int b tb]) Q E ⟨h, g, d, t, o⟩ :=
  max_two_N hh C.fr C.nw fun h' tk F N => by
    have e : (if b > a then b else a) = max a b := by split <;> omega
    rw [e]; exact k _ _ _ (C.ofN F N)
theorem r_min {a b : Int} {ta tb : Tok} (C : Cx h₀ L h m news) (hh : A.handled = none) (k : ∀ h' t' tr, Cx h₀ L h' m news → Q (.int (min a b) tr) ⟨h', g, d, t', o⟩) :
    wpAny (model prog w) A (call (.builtin "min") [.int a ta, .int b tb]) Q E ⟨h, g, d, t, o⟩ :=
  min_two_N hh C.fr C.nw fun h' tk F N => by
    have e : (if b < a then b else a) = min a b := by split <;> omega
    rw [e]; exact k _ _ _ (C.ofN F N)
theorem r_abs {a : Int} {ta : Tok} (k : ∀ t' tr, Q (.int (a.natAbs : Int) tr) ⟨h, g, d, t', o⟩) : wpAny (model prog w) A (call (.builtin "abs") [.int a ta]) Q E ⟨h, g, d, t, o⟩ :=
  call_abs_int fun u tk => by
    have e : (if a < 0 then -a else a) = (a.natAbs : Int) := by split <;> omega
    rw [e]; exact k _ _
theorem r_divmod {a b : Int} {ta tb : Tok} (C : Cx h₀ L h m news) (hb : 0 < b) (hs : b < 1073741824) (k : ∀ x h' t' t1 t2, Cx h₀ L h' m ((x, tup [.int (a / b) t1, .int (a % b) t2]) :: news) → Q (.ref x) ⟨h', g, d, t', o⟩) :
    wpAny (model prog w) A (call (.builtin "divmod") [.int a ta, .int b tb]) Q E ⟨h, g, d, t, o⟩ := by
  refine divmod_N C.fr C.nw (by omega) (fun h' F N => ?_) (.inl (PyProof.noPylong_small (by omega)))
  rw [Int.fdiv_eq_ediv_of_nonneg a (Int.le_of_lt hb), Int.fmod_eq_emod_of_nonneg a (Int.le_of_lt hb)] at N
  exact k _ _ _ _ _ (C.ofN1 F N (get_size _))
theorem r_pow {a b : Int} {ta tb : Tok} (hn : 0 ≤ b) (hsz : (Builtin.Int.intBits a : Int) * b ≤ 2 ^ 27) (k : ∀ t' tr, Q (.int (a ^ b.toNat) tr) ⟨h, g, d, t', o⟩) :
    wpAny (model prog w) A (binaryOp .Pow (.int a ta) (.int b tb)) Q E ⟨h, g, d, t, o⟩ := pow_int hn hsz (k _ _)
theorem r_neg {a : Int} {ta : Tok} (k : ∀ t' tr, Q (.int (-a) tr) ⟨h, g, d, t', o⟩) : wpAny (model prog w) A (unaryOp .USub (.int a ta)) Q E ⟨h, g, d, t, o⟩ := PyProof.Rows.neg_int (k _ _)

/-- a slice is made and asked for -/
def SliceOn (prog : Program) (w : World) (A : Around) (value slice : Expr) (ov vl vu : Value) (Q : Value → Shared → Prop) (E : Value → Shared → Prop) (s : Shared) : Prop :=
  wpAny (model prog w) A (subscriptTail value slice ov (.ref s.heap.objs.size)) Q E { s with heap := s.heap.push { cls := .type "slice", data := .fields #[vl, vu, .none] } }
theorem r_subslice {lower upper : Option Expr} {p pos : Pos} {s : Shared}
    (k : wpAny (model prog w) A (eval value env) (fun ov s₁ => wpAny (model prog w) A (evalPart lower env) (fun vl s₂ => wpAny (model prog w) A (evalPart upper env) (fun vu s₃ => SliceOn prog w A value (.Slice lower upper none p) ov vl vu Q E s₃) E s₂) E s₁) E s) :
    wpAny (model prog w) A (eval (.Subscript value (.Slice lower upper none p) pos) env) Q E s := by
  refine Subscript_ (wpAny_mono k (fun ov s₁ k => wpAny_Slice (wpAny_mono k (fun vl s₂ k => wpAny_mono k (fun vu s₃ k => ?_) fun _ _ x => x) fun _ _ x => x)) fun _ _ x => x)
  rw [evalPart_none]
  exact wpAny_pure k
theorem r_slice {vl vu : Value} {lo hi : Option Int} (C : Cx h₀ L h m news) (hx : h.get? l = some (lst vs n)) (pl : IsPart vl lo) (pu : IsPart vu hi) (hz : vs.length ≤ 1000000)
    (k : ∀ a h', Cx h₀ L h' m ((a, lst (slicePick vs.toArray lo hi none).toList 0) :: news) → Q (.ref a) ⟨h', g, d, t, o⟩)
    (hs : subscripted slice false (.ref l) (.ref h.objs.size) = operate [.ref h.objs.size, .ref l] (getItem (.ref l) (.ref h.objs.size)) := by kernel_rfl)
    (ht : ∀ r, letTemporaryGo value (.ref l) r = pure () := by intro _; kernel_rfl) : SliceOn prog w A value slice (.ref l) vl vu Q E ⟨h, g, d, t, o⟩ :=
  slice_list (s := ⟨h, g, d, t, o⟩) C.fr C.nw (isl hx) pl pu (fun h' F N => k _ h' (C.ofN1 F (by simpa using N) (get_past (Nat.le_succ _)))) hs ht (by rw [sizeLine_eq]; simp; omega)
theorem sp_from (vs : List Value) (a : Nat) : (slicePick vs.toArray (some (a : Int)) none none).toList = vs.drop a := by rw [slicePick_from']
theorem sp_upto (vs : List Value) (a : Nat) : (slicePick vs.toArray none (some (a : Int)) none).toList = vs.take a := by rw [slicePick_upto']

/-- what a slice takes -/
def pick {α : Type} (ns : List α) (lo hi : Option Int) : List α := (ns.drop (lo.elim 0 (clipAt ns.length))).take (hi.elim ns.length (clipAt ns.length) - lo.elim 0 (clipAt ns.length))
theorem sp_pick (vs : List Value) (lo hi : Option Int) : (slicePick vs.toArray lo hi none).toList = pick vs lo hi := by rw [slicePick_plain]; simp [pick]
theorem pick_ints (hi : IntsAre vs ns) (lo up : Option Int) : IntsAre (pick vs lo up) (pick ns lo up) := by
  unfold pick
  rw [hi.length]
  exact (hi.drop _).take _
theorem sp_ints (hi : IntsAre vs ns) (lo up : Option Int) : IntsAre (slicePick vs.toArray lo up none).toList (pick ns lo up) := by rw [sp_pick]; exact pick_ints hi lo up
theorem pick_len {α : Type} (ns : List α) (lo up : Option Int) : (pick ns lo up).length ≤ ns.length := by unfold pick; simp; omega
theorem pick_upto {α : Type} (ns : List α) (a : Nat) : pick ns none (some (a : Int)) = ns.take a := by
  unfold pick
  simp only [Option.elim, clipAt_nat, List.drop_zero, Nat.sub_zero]
  by_cases h : a ≤ ns.length
  · rw [Nat.min_eq_left h]
  · rw [Nat.min_eq_right (by omega), List.take_length, List.take_of_length_le (by omega)]
theorem pick_from {α : Type} (ns : List α) (a : Nat) : pick ns (some (a : Int)) none = ns.drop a := by
  unfold pick
  simp only [Option.elim, clipAt_nat]
  by_cases h : a ≤ ns.length
  · rw [Nat.min_eq_left h, List.take_of_length_le (by simp)]
  · rw [Nat.min_eq_right (by omega)]; simp; omega
theorem pick_mid {α : Type} (ns : List α) (a b : Nat) (hab : a ≤ b) : pick ns (some (a : Int)) (some (b : Int)) = (ns.drop a).take (b - a) := by
  unfold pick
  simp only [Option.elim, clipAt_nat]
  by_cases h : a ≤ ns.length
  · rw [Nat.min_eq_left h]
    by_cases h2 : b ≤ ns.length
    · rw [Nat.min_eq_left h2]
    · rw [Nat.min_eq_right (by omega), List.take_of_length_le (by simp), List.take_of_length_le (by simp; omega)]
  · rw [Nat.min_eq_right (by omega), List.drop_of_length_le (by omega), List.drop_of_length_le (by omega)]; simp
theorem pick_one_sum (ns : List Int) (a : Nat) : (pick ns (some (a : Int)) (some ((a : Int) + 1))).sum = ns.getD a 0 := by
  have : ((a : Int) + 1) = ((a + 1 : Nat) : Int) := by simp
  rw [this, pick_mid ns a (a + 1) (by omega)]
  have e : a + 1 - a = 1 := by omega
  rw [e]
  cases h : ns.drop a with
  | nil =>
    have : ns.length ≤ a := by simpa using h
    simp [List.getD_eq_getElem?_getD, List.getElem?_eq_none this]
  | cons x r =>
    have : ns[a]? = some x := by
      have := congrArg (fun l => l[0]?) h
      simpa [List.getElem?_drop] using this
    simp [List.getD_eq_getElem?_getD, this]
end
end Mine

namespace Mine
open PySem PySem.W PyProof.Rows PySem.Calls
set_option maxRecDepth 100000
set_option linter.unusedVariables false
section
variable {prog : Program} {w : World} {A : Around} {E : Value → Shared → Prop} {h₀ h : Heap} {L : Addr} {m mg mb : Str → Option Value} {news news' : List (Addr × Obj)}
  {g : Array GenState} {d : Drawn} {t : Nat} {o : OsState} {env : Env} {Q : Value → Shared → Prop} {value slice : Expr} {l l' : Addr} {vs ws : List Value} {n n' : Nat} {ns ms : List Int}

theorem r_mcall {ob : Expr} {name : Str} {apos pos : Pos} {args : List Expr} {s : Shared}
    (k : wpAny (model prog w) A (eval ob env) (fun ov s₁ => wpAny (model prog w) A (getMethod ov name (do return (← importBound ob env).getD true)) (fun fx s₂ => wpAny (model prog w) A (callWith pos fx.1 fx.2 (backTo pos (starEach args env)) []) Q E s₂) E s₁) E s)
    (he : eval (.Call (.Attribute ob name apos) args [] pos) env = (do
      let ov ← eval ob env
      standAt apos.atName
      let (f, first) ← holding [ov] (getMethod ov name (do return (← importBound ob env).getD true))
      callWith pos f first (backTo pos (starEach args env)) []) := by kernel_rfl) :
    wpAny (model prog w) A (eval (.Call (.Attribute ob name apos) args [] pos) env) Q E s := MethodCall_ k he
theorem r_getAppend {pl : Sem Bool} {Q : Value × List Value → Shared → Prop} (hx : h.get? l = some (lst vs n)) (k : Q (.builtin "list.append", [.ref l]) ⟨h, g, d, t, o⟩) :
    wpAny (model prog w) A (getMethod (.ref l) (Str.ofString "append") pl) Q E ⟨h, g, d, t, o⟩ := Calls.getMethod_list_append hx rfl rfl k
theorem r_method1 {pos : Pos} {id : String} {first : List Value} {e : Expr} {rest : List Expr} {s : Shared}
    (k : wpAny (model prog w) A (spliced (backTo pos (starEach (e :: rest) env))) (fun vs s₁ => wpAny (model prog w) A (call (.builtin id) (first ++ vs)) Q E s₁) E s)
    (he : starEach (e :: rest) env = (false, eval e env) :: starEach rest env := by kernel_rfl)
    (hplain : (backTo pos (starEach rest env)).any (·.1) = false := by kernel_rfl) :
    wpAny (model prog w) A (callWith pos (.builtin id) first (backTo pos (starEach (e :: rest) env)) []) Q E s := callWith_method1 k he hplain

theorem not_size {h : Heap} {b : Addr} {ob : Obj} (e : h.get? b = some ob) : b ∉ [h.objs.size] := by
  intro hb
  rw [List.mem_singleton.mp hb, get_size] at e
  cases e
/-- the frame of a comprehension's own names -/
theorem Cx.comp {C' : Addr} {io : Obj} {h3 : Heap} {x : Str} {v : Value} {m3 : Str → Option Value} (C : Cx h₀ L h m news) (hC : (h.push io).objs.size ≤ C') (hn : h3.Ns C' m3) (hx : m3 x = some v)
    (hk : ∀ b ob, b ∉ [h.objs.size] → (h.push io).get? b = some ob → h3.get? b = some ob) : Cx h₀ C' h3 (lk [(x, v)] m3) news := by
  have hk' : Kp h h3 := fun b ob e => hk b ob (not_size e) (Heap.get?_push_of_some _ e)
  rw [Heap.size_push] at hC
  have e : m3 = lk [(x, v)] m3 := Has.eq (l := [(x, v)]) ⟨hx, trivial⟩
  rw [← e]
  refine ⟨⟨hn, fun b ob q => hk' _ _ (C.fr.keep b ob q), Nat.le_trans C.fr.above (Nat.le_trans (Nat.le_of_lt C.lt) (Nat.le_of_succ_le hC))⟩, fun p hp => hk' _ _ (C.get p hp), fun p hp => ⟨(C.low p hp).1, ?_⟩, C.nod⟩
  exact Nat.ne_of_lt (Nat.lt_of_lt_of_le (Heap.lt_size (C.get p hp)) (Nat.le_of_succ_le hC))

/-- a comprehension over a list -/
theorem r_compL {elt iter : Expr} {x : Str} {px : Pos} {scope : Scope} {cl : List (Str × Addr)} {pos : Pos} {s : Shared} (C₀ : Cx h₀ L h m news) (F : Value → Value → Prop) (hh : A.handled = none)
    (hclos : closureFor scope env = pure cl) (hcell : ∀ y ∈ scope.names, y.2 ≠ .cell) (hnames : ∀ y ∈ scope.names, y.2 = .local → scope.names.lookup y.1 = some .local)
    (hiter : wpAny (model prog w) A (eval iter env) (fun v s₁ => ∃ l vs n h t news, v = .ref l ∧ s₁ = ⟨h, g, d, t, o⟩ ∧ Cx h₀ L h m news ∧ h.get? l = some (lst vs n) ∧ vs.length ≤ 1000000 ∧
      (∀ C' v h3 g3 d3 t3 o3 m3 E', v ∈ vs → Kp h h3 → Cx h₀ C' h3 (lk [(x, v)] m3) news → wpAny (model prog w) A (eval elt (compEnvC scope cl C' env)) (fun y s₄ => F v y ∧ Keeps ⟨h3, g3, d3, t3, o3⟩ s₄) E' ⟨h3, g3, d3, t3, o3⟩) ∧
      (∀ a h' t' ys e, Cx h₀ L h' m ((a, lst ys e) :: news) → Kp h h' → Paired F vs ys → Q (.ref a) ⟨h', g, d, t', o⟩)) E s)
    (hkind : scope.kind = .function := by kernel_rfl) (hx : scope.names.lookup x = some .local := by kernel_rfl)
    (hs : ∀ x, foldedSetIterable iter env x = pure x := by intro _; kernel_rfl) :
    wpAny (model prog w) A (eval (.ListComp elt [⟨.Name x px, iter, [], 0⟩] scope pos) env) Q E s := by
  refine wpAny_ListComp_free (cl := cl) (fun _ => true) F hclos hcell hkind hnames hx (wpAny_mono hiter ?_ fun _ _ x => x) hs
  rintro v s₁ ⟨l, vs, n, h, t, news, rfl, rfl, C, hl, hz, helt, hk⟩
  have hll : l < h.objs.size := Heap.lt_size hl
  have hsz : vs.toArray.size = vs.length := by simp
  refine wpAny_pyIter_list (isl hl) ⟨h.objs.size, [h.objs.size, l], [h.objs.size], vs.toArray.size, _, _, rfl, Walks.list hh _ l (Nat.ne_of_lt hll) vs.toArray, by rw [sizeLine_eq, hsz]; omega, ?_, ?_, ⟨?_, ?_⟩, ?_⟩
  · exact ⟨⟨_, Heap.get?_push_size _ rfl, rfl, rfl⟩, (isl hl).push _⟩
  · intro b hb
    show b < (h.push _).objs.size
    rw [Heap.size_push]
    rcases List.mem_cons.mp hb with rfl | hb
    · exact Nat.lt_succ_self _
    · rw [List.mem_singleton.mp hb]; exact Nat.lt_succ_of_lt hll
  · intro C' i v s₃ m₃ E' _ _ _ _ _ _
    exact wpAny_tests_nil ⟨rfl, _, _, rfl, fun _ _ e => e⟩
  · rintro C' i v ⟨h3, g3, d3, t3, o3⟩ m₃ E' hC hP _ hn hx' hk' _
    have hv : v ∈ vs := List.mem_of_getElem? (i := i) (by simpa using hP)
    exact helt C' v h3 g3 d3 t3 o3 m₃ E' hv (fun b ob e => hk' b ob (not_size e) (Heap.get?_push_of_some _ e)) (C.comp hC hn hx' hk')
  · intro D h' tk ys us hD hl' hpl hlen hP hF hk'
    have hK : Kp h h' := fun b ob e => hk' b ob (not_size e) (Heap.get?_push_of_some _ e)
    obtain ⟨e, he⟩ := hpl
    have hus : us = vs := by
      apply List.ext_getElem?
      intro j
      by_cases hj : j < vs.length
      · have hj' : j < us.length := by rw [hlen, hsz]; exact hj
        have q := hP j _ (List.getElem?_eq_getElem hj')
        rw [List.getElem?_eq_getElem hj']
        simpa using q.symm
      · rw [List.getElem?_eq_none (by rw [hlen, hsz]; omega), List.getElem?_eq_none (by omega)]
    subst hus
    have e1 : us.filter (fun _ => true) = us := by simp
    rw [e1] at hF
    exact hk D h' tk ys.toList e (C.add hK ((Kp.push h _).free hD) (by simpa using he)) hK hF

/-- a comprehension over a range -/
theorem r_compR {elt iter : Expr} {x : Str} {px : Pos} {ifs : List Expr} {scope : Scope} {cl : List (Str × Addr)} {pos : Pos} {s : Shared} (C₀ : Cx h₀ L h m news) (p : Value → Bool) (F : Value → Value → Prop) (hh : A.handled = none)
    (hclos : closureFor scope env = pure cl) (hcell : ∀ y ∈ scope.names, y.2 ≠ .cell) (hnames : ∀ y ∈ scope.names, y.2 = .local → scope.names.lookup y.1 = some .local)
    (hiter : wpAny (model prog w) A (eval iter env) (fun v s₁ => ∃ (r : Addr) (a b c : Int) (n : Nat) (h : Heap) (t : Nat) (news : List (Addr × Obj)) (t1 t2 t3 : Tok), v = .ref r ∧ s₁ = ⟨h, g, d, t, o⟩ ∧ Cx h₀ L h m news ∧ IsRange h r a b c t1 t2 t3 ∧ Builtin.Range.small a b c = true ∧ Builtin.Range.rangeSize a b c = (n : Int) ∧ n ≤ 1000000 ∧
      (∀ C' i tv h3 g3 d3 t3 o3 m3 E', i < n → Kp h h3 → Cx h₀ C' h3 (lk [(x, .int (a + (i : Int) * c) tv)] m3) news → wpAny (model prog w) A (forIn ifs true fun c r => if r = true then do let ok ← isTrue c (compEnvC scope cl C' env) (eval c (compEnvC scope cl C' env)); pure (ForInStep.yield ok) else pure (ForInStep.yield r))
        (fun ok s₄ => ok = p (.int (a + (i : Int) * c) tv) ∧ Keeps ⟨h3, g3, d3, t3, o3⟩ s₄) E' ⟨h3, g3, d3, t3, o3⟩) ∧
      (∀ C' i tv h3 g3 d3 t3 o3 m3 E', i < n → p (.int (a + (i : Int) * c) tv) = true → Kp h h3 → Cx h₀ C' h3 (lk [(x, .int (a + (i : Int) * c) tv)] m3) news → wpAny (model prog w) A (eval elt (compEnvC scope cl C' env)) (fun y s₄ => F (.int (a + (i : Int) * c) tv) y ∧ Keeps ⟨h3, g3, d3, t3, o3⟩ s₄) E' ⟨h3, g3, d3, t3, o3⟩) ∧
      (∀ x h' t' (us ys : List Value) e, Cx h₀ L h' m ((x, lst ys e) :: news) → Kp h h' → us.length = n → (∀ (j : Nat) v, us[j]? = some v → ∃ t, v = .int (a + (j : Int) * c) t) → Paired F (us.filter p) ys → Q (.ref x) ⟨h', g, d, t', o⟩)) E s)
    (hkind : scope.kind = .function := by kernel_rfl) (hx : scope.names.lookup x = some .local := by kernel_rfl)
    (hs : ∀ x, foldedSetIterable iter env x = pure x := by intro _; kernel_rfl) :
    wpAny (model prog w) A (eval (.ListComp elt [⟨.Name x px, iter, ifs, 0⟩] scope pos) env) Q E s := by
  refine wpAny_ListComp_free (cl := cl) p F hclos hcell hkind hnames hx (wpAny_mono hiter ?_ fun _ _ x => x) hs
  rintro v s₁ ⟨r, a, b, c, n, h, t, news, t1, t2, t3, rfl, rfl, C, hr, hsm, hn, hz, htest, helt, hk⟩
  refine wpAny_pyIter_range hr hsm ⟨h.objs.size, [h.objs.size], [h.objs.size], n, _, _, rfl, (Walks.range hh _ a c n).bound, by rw [sizeLine_eq]; omega, ?_, ?_, ⟨?_, ?_⟩, ?_⟩
  · show IsRangeIter _ _ _ _ _
    rw [hn]
    simpa using Heap.get?_push_size _ rfl
  · intro b hb
    show b < (h.push _).objs.size
    rw [Heap.size_push, List.mem_singleton.mp hb]
    exact Nat.lt_succ_self _
  · rintro C' i v ⟨h3, g3, d3, t3, o3⟩ m₃ E' hC ⟨hi, tv, rfl⟩ hn' hx' hk' _
    exact htest C' i tv h3 g3 d3 t3 o3 m₃ E' hi (fun b ob e => hk' b ob (not_size e) (Heap.get?_push_of_some _ e)) (C.comp hC hn' hx' hk')
  · rintro C' i v ⟨h3, g3, d3, t3, o3⟩ m₃ E' hC ⟨hi, tv, rfl⟩ hp hn' hx' hk' _
    exact helt C' i tv h3 g3 d3 t3 o3 m₃ E' hi hp (fun b ob e => hk' b ob (not_size e) (Heap.get?_push_of_some _ e)) (C.comp hC hn' hx' hk')
  · intro D h' tk ys us hD hl' hpl hlen hP hF hk'
    have hK : Kp h h' := fun b ob e => hk' b ob (not_size e) (Heap.get?_push_of_some _ e)
    obtain ⟨e, he⟩ := hpl
    exact hk D h' tk us ys.toList e (C.add hK ((Kp.push h _).free hD) (by simpa using he)) hK hlen (fun j v q => (hP j v q).2) hF
end
/-- the capital letter or figure of a number below 36 -/
def sgn (k : Int) : Int := if k < 26 then k + 65 else k + 22
abbrev SIGNS : Str := Str.ofString "ABCDEFGHIJKLMNOPQRSTUVWXYZ0123456789"
theorem sgn_fin : ∀ i : Fin 36, Txt.item SIGNS ((i.val : Nat) : Int) = ⟨#[(sgn ((i.val : Nat) : Int)).toNat]⟩ := by decide +kernel
theorem sgn_item {i : Int} (h0 : 0 ≤ i) (h1 : i < 36) : Txt.item SIGNS i = ⟨#[(sgn i).toNat]⟩ := by
  have := sgn_fin ⟨i.toNat, by omega⟩
  have e : ((i.toNat : Nat) : Int) = i := by omega
  simpa only [e] using this
theorem sgn_lo {i : Int} (h0 : 0 ≤ i) (h1 : i < 36) : 48 ≤ sgn i ∧ sgn i ≤ 90 := by unfold sgn; split <;> omega
section
variable {prog : Program} {w : World} {A : Around} {E : Value → Shared → Prop} {h : Heap}
  {g : Array GenState} {d : Drawn} {t : Nat} {o : OsState} {Q : Value → Shared → Prop} {value slice : Expr}
theorem r_sgn {i : Int} {ti tx : Tok} (h0 : 0 ≤ i) (h1 : i < 36) (k : ∀ t' tr, Q (.str ⟨#[(sgn i).toNat]⟩ tr) ⟨h, g, d, t', o⟩)
    (hs : subscripted slice false (.str SIGNS tx) (.int i ti) = operate [.str SIGNS tx, .int i ti] (getItem (.str SIGNS tx) (.int i ti)) := by kernel_rfl)
    (ht : ∀ r, letTemporaryGo value (.str SIGNS tx) r = pure () := by intro _; kernel_rfl) :
    wpAny (model prog w) A (subscriptTail value slice (.str SIGNS tx) (.int i ti)) Q E ⟨h, g, d, t, o⟩ := by
  have hl : SIGNS.length = 36 := by decide +kernel
  refine item_str (by unfold fitsSsize; simp; omega) (by rw [hl]; omega) (by rw [hl]; omega) (fun _ => ?_) hs ht
  rw [sgn_item h0 h1]
  exact k _ _
theorem r_ordS {i : Int} {tx : Tok} (h0 : 0 ≤ i) (h1 : i < 36) (k : ∀ t' tr, Q (.int (sgn i) tr) ⟨h, g, d, t', o⟩) : wpAny (model prog w) A (call (.builtin "ord") [.str ⟨#[(sgn i).toNat]⟩ tx]) Q E ⟨h, g, d, t, o⟩ := by
  refine r_ord rfl (fun t' tr => ?_)
  have e : (((#[(sgn i).toNat] : Array Nat).getD 0 0 : Nat) : Int) = sgn i := by
    have := sgn_lo h0 h1
    show (((sgn i).toNat : Nat) : Int) = _
    omega
  rw [e]; exact k _ _
end
end Mine

namespace Mine
open PySem PySem.W PyProof.Rows PySem.Calls
set_option maxRecDepth 100000
set_option linter.unusedVariables false
theorem slot_bytes_join : Slot "bytes" "join" "bytes.join" :=
  .of (owner := "bytes") (n := "join") (by rw [typeLookup_type, builtinLookup_eq_fast]; kernel_rfl) (by decide +kernel) (by decide +kernel) (by decide +kernel)
    (by first | exact .inl (by decide +kernel) | exact .inr (by decide +kernel)) (by rw [isSubtype_type]; kernel_rfl)
theorem entry_bytes_join : entryFor table "bytes.join" = some Builtin.«bytes.join» := by first | exact entryFor_of_fast (by kernel_rfl) | exact entryFor_of_tree (by kernel_rfl)
theorem args_bytes_join (a b : Value) : argsOk "bytes.join" ⟨[a, b], []⟩ := by unfold argsOk; kernel_rfl
theorem noGetattr_bytes : typeLookup (.type "bytes") "__getattr__" = pure none := by rw [typeLookup_type, builtinLookup_eq_fast]; kernel_rfl
theorem getattribute_bytes : typeLookup (.type "bytes") "__getattribute__" = pure (some (.builtin "bytes.__getattribute__")) := by rw [typeLookup_type, builtinLookup_eq_fast]; kernel_rfl
theorem tb_eq {id : String} {b : Array UInt8} {t : Tok} : Builtin.Bytes.takeBufferQuiet? id (.bytes b t) 0 = pure (some (b, none)) := by
  unfold Builtin.Bytes.takeBufferQuiet? Builtin.Bytes.takeBuffer?
  rw [show ((0 : Int) == Builtin.Bytes.fullReadOnly) = false from by decide, KBy.special_eq KBy.look_buffer, KBy.own_buffer, KBy.buffer_eq]
  rfl
def pickOne {α : Type} (items : Array Value) (f : Value → Sem α) (g : Sem α) : Sem α := match items with | #[x] => f x | _ => g
theorem pick_else {α : Type} (items : Array Value) (hs : items.size ≠ 1) (f : Value → Sem α) (g : Sem α) : pickOne items f g = g := by
  obtain ⟨li⟩ := items
  rcases li with _ | ⟨a0, _ | ⟨b0, r0⟩⟩
  · rfl
  · simp at hs
  · rfl
/-- the octets of a list of bytes, one behind the other -/
def BytesAre : List Value → List (Array UInt8) → Prop
  | [], [] => True
  | v :: vs, b :: bs => (∃ t, v = .bytes b t) ∧ BytesAre vs bs
  | _, _ => False
theorem BytesAre.length : ∀ {vs : List Value} {bs : List (Array UInt8)}, BytesAre vs bs → vs.length = bs.length
  | [], [], _ => rfl
  | _ :: _, _ :: _, h => congrArg (· + 1) (BytesAre.length h.2)
theorem BytesAre.get : ∀ {vs : List Value} {bs : List (Array UInt8)} {i : Nat}, BytesAre vs bs → i < vs.length → ∃ b t, vs[i]? = some (.bytes b t) ∧ bs[i]? = some b
  | _ :: _, b :: _, 0, h, _ => let ⟨t, e⟩ := h.1; ⟨b, t, by rw [e]; rfl, rfl⟩
  | _ :: vs, _ :: bs, i + 1, h, hi => by simpa using BytesAre.get (i := i) h.2 (by simpa using hi)
theorem joined_nil (bs : List (Array UInt8)) : Builtin.Bytes.joined #[] bs = bs.foldl (· ++ ·) #[] := by
  unfold Builtin.Bytes.joined
  have : ∀ (l : List (Array UInt8)) (n : Nat) (a : Array UInt8), (l.zipIdx n).foldl (fun out (p, i) => (if i > 0 then out ++ (#[] : Array UInt8) else out) ++ p) a = l.foldl (· ++ ·) a := by
    intro l
    induction l with
    | nil => intro n a; rfl
    | cons x r ih =>
      intro n a
      rw [List.zipIdx_cons, List.foldl_cons, List.foldl_cons, ih]
      simp
  exact this bs 0 #[]
theorem size_cat : ∀ (bs : List (Array UInt8)) (a : Array UInt8), (bs.foldl (· ++ ·) a).size = a.size + (bs.map (·.size)).sum
  | [], a => by simp
  | b :: r, a => by rw [List.foldl_cons, size_cat r, Array.size_append]; simp; omega
theorem joinLetGo_ {M : Model} {A : Around} {E : Value → Shared → Prop} {s : Shared} {keep : List Value} {Q : Unit → Shared → Prop} : ∀ (taken : List (Value × Option Value)), (∀ p ∈ taken, p.2 = none) → Q () s → wpAny M A (Builtin.Bytes.joinLetGo taken keep) Q E s
  | [], _, h => wpAny_pure h
  | (x, w) :: r, hn, h => by
    obtain rfl : w = none := hn _ (.head _)
    unfold Builtin.Bytes.joinLetGo
    dsimp only
    refine wpAny_bind (wpAny_letGo (joinLetGo_ r (fun p hp => hn p (.tail _ hp)) h))
section
variable {prog : Program} {w : World} {A : Around} {E : Value → Shared → Prop} {h₀ h : Heap} {L : Addr} {m mg mb : Str → Option Value} {news news' : List (Addr × Obj)}
  {g : Array GenState} {d : Drawn} {t : Nat} {o : OsState} {env : Env} {Q : Value → Shared → Prop} {l : Addr} {vs : List Value} {n : Nat}
theorem r_getJoin {pl : Sem Bool} {b : Array UInt8} {tb : Tok} {Q : Value × List Value → Shared → Prop} (k : Q (.builtin "bytes.join", [.bytes b tb]) ⟨h, g, d, t, o⟩) :
    wpAny (model prog w) A (getMethod (.bytes b tb) (Str.ofString "join") pl) Q E ⟨h, g, d, t, o⟩ :=
  getMethod_value (T := "bytes") (typeIs_bytes _ _ _) (fun a e => by cases e) getattribute_bytes (by decide +kernel) noGetattr_bytes slot_bytes_join.lookup (by kernel_rfl) k
theorem r_join {tb : Tok} {bs : List (Array UInt8)} (hx : h.get? l = some (lst vs n)) (hb : BytesAre vs bs) (h2 : 2 ≤ vs.length) (hz : (bs.map (·.size)).sum ≤ 1000000)
    (k : ∀ t' tr, Q (.bytes (bs.foldl (· ++ ·) #[]) tr) ⟨h, g, d, t', o⟩) : wpAny (model prog w) A (call (.builtin "bytes.join") [.bytes #[] tb, .ref l]) Q E ⟨h, g, d, t, o⟩ := by
  refine wpAny_call_entry slot_bytes_join (typeIs_bytes _ _ _) entry_bytes_join ?_ (args_bytes_join _ _)
  unfold Builtin.«bytes.join» Builtin.Bytes.joinM
  refine wpAny_bind (wpAny_of_eq (a := (Value.bytes #[] tb, Value.ref l)) (by kernel_rfl) ?_)
  refine wpAny_bind ?_
  show wpAny _ _ (Builtin.Bytes.joinItems (.ref l)) _ _ _
  unfold Builtin.Bytes.joinItems
  have hx' : h.get? l = some { cls := .type "list", data := .seq vs.toArray n } := hx
  have hsz : vs.toArray.size = vs.length := by simp
  have hgd : ∀ x, vs.toArray.getD x Value.none = (vs[x]?).getD Value.none := fun x => by rw [Array.getD_eq_getD_getElem?]; simp
  clear hx
  generalize vs.toArray = items at hx' hsz hgd
  have hx := hx'
  refine wpAny_bind (wpAny_typeOf_ref hx ?_)
  refine wpAny_pure ?_
  refine wpAny_bind (wpAny_seqItems hx rfl ?_)
  have hbl := hb.length
  · dsimp only
    rw [if_pos (by decide)]
    refine Eq.mpr (congrArg (fun t => wpAny (model prog w) A.in1 t _ _ _) (pick_else items (by omega) _ _)) ?_
    refine wpAny_bind ?_
    rw [Std.Legacy.Range.forIn_eq_forIn_range']
    simp only [Std.Legacy.Range.size, Nat.sub_zero, Nat.add_sub_cancel, Nat.div_one]
    refine wpAny_forIn_list _ (fun rest st s' => ∃ i, s' = ⟨h, g, d, t, o⟩ ∧ rest = List.range' i (vs.length - i) ∧ i ≤ vs.length ∧ st.1.toList = bs.take i ∧ (∀ p ∈ st.2, p.1.onHeap = false ∧ p.2 = none)) _ ?_ ?_ _ _ ⟨0, rfl, by rw [hsz]; rfl, Nat.zero_le _, by simp, by simp⟩
    · rintro x rest ⟨parts, taken⟩ s' ⟨i, rfl, hr, hi, hp, htk⟩
      have hlt : i < vs.length := by
        rcases Nat.lt_or_ge i vs.length with h | h
        · exact h
        · rw [Nat.sub_eq_zero_of_le h] at hr; simp at hr
      have hr' : x = i ∧ rest = List.range' (i + 1) (vs.length - (i + 1)) := by
        have e : vs.length - i = (vs.length - (i + 1)) + 1 := by omega
        rw [e, List.range'_succ] at hr
        exact ⟨(List.cons.inj hr).1, (List.cons.inj hr).2⟩
      obtain ⟨rfl, hr2⟩ := hr'
      obtain ⟨b, tb', hvb, hbb⟩ := hb.get hlt
      dsimp only
      refine wpAny_bind (wpAny_seqItems hx rfl ?_)
      have hgd : items.getD x Value.none = .bytes b tb' := by rw [hgd, hvb]; rfl
      have hany : (taken.any fun x => x.1.onHeap) = false := by
        rw [List.any_eq_false]
        intro p hp'
        rw [(htk p hp').1]; decide
      simp only [hgd, hany]
      rw [if_neg (by decide)]
      refine wpAny_bind (wpAny_holding (wpAny_of_eq tb_eq ?_))
      dsimp only
      refine wpAny_bind (wpAny_seqItems hx rfl ?_)
      dsimp only
      rw [if_neg (by simp)]
      refine wpAny_pure ⟨x + 1, rfl, hr2, hlt, ?_, ?_⟩
      · show (parts.push b).toList = _
        rw [Array.toList_push, hp, List.take_add_one, hbb]; rfl
      · intro p hp'
        rcases List.mem_append.mp hp' with hp' | hp'
        · exact htk p hp'
        · rw [List.mem_singleton.mp hp']; exact ⟨rfl, rfl⟩
    · rintro ⟨parts, taken⟩ s' ⟨i, rfl, hr, hi, hp, htk⟩
      have hi' : i = vs.length := by
        rcases Nat.lt_or_ge i vs.length with h | h
        · have e : vs.length - i = (vs.length - (i + 1)) + 1 := by omega
          rw [e, List.range'_succ] at hr; cases hr
        · omega
      subst hi'
      rw [hbl, List.take_length] at hp
      dsimp only
      refine wpAny_bind (wpAny_of_eq (a := (#[] : Array UInt8)) (by kernel_rfl) ?_)
      have hp : parts.toList = bs := hp
      have hsum : Array.foldl (fun x1 x2 => x1 + x2.size) ((#[] : Array UInt8).size * (parts.size - 1)) parts = (bs.map (·.size)).sum := by
        rw [← Array.foldl_toList, hp]
        have : ∀ (l : List (Array UInt8)) (a : Nat), l.foldl (fun x1 x2 => x1 + x2.size) a = a + (l.map (·.size)).sum := by
          intro l
          induction l with
          | nil => intro a; simp
          | cons x r ih => intro a; rw [List.foldl_cons, ih]; simp; omega
        rw [this]; simp
      rw [hsum, KBy.tooLong_not (by omega), if_neg (by decide), hp, joined_nil]
      have hszb : (bs.foldl (· ++ ·) (#[] : Array UInt8)).size ≤ sizeLine := by
        rw [size_cat, sizeLine_eq]; simp; omega
      refine wpAny_bind ?_
      show wpAny _ _ (mkBytes _) _ _ _
      unfold mkBytes
      rw [if_neg (Nat.not_lt.mpr hszb)]
      refine wpAny_bind (wpAny_fresh (wpAny_pure ?_))
      refine wpAny_bind (wpAny_holding (wpAny_point ?_))
      refine wpAny_bind (joinLetGo_ taken (fun p hp => (htk p hp).2) ?_)
      exact wpAny_pure ⟨_, rfl, k _ _⟩
end
end Mine

namespace Mine
open PySem PySem.W PyProof.Rows PySem.Calls PySem.SeqAt
set_option maxRecDepth 100000
set_option linter.unusedVariables false
section
variable {prog : Program} {w : World} {A : Around} {E : Value → Shared → Prop} {h₀ h : Heap} {L : Addr} {m mg mb : Str → Option Value} {news news' : List (Addr × Obj)}
  {g : Array GenState} {d : Drawn} {t : Nat} {o : OsState} {env : Env} {Q : Value → Shared → Prop} {x y : Addr}
/-- what an int or None is as data -/
inductive Sm : Value → PyData → Prop
  | int (i t) : Sm (.int i t) (.int i)
  | none : Sm .none .none
theorem Sm.reads {v : Value} {p : PyData} (s : Sm v p) : Reads h v p [] := by cases s <;> constructor
theorem rd2 {a b : Value} {da db : PyData} (hx : h.get? x = some (tup [a, b])) (sa : Sm a da) (sb : Sm b db) : Reads h (.ref x) (.tuple [da, db]) [] :=
  .tuple hx rfl rfl (.cons (as := []) (bs := []) sa.reads (.cons (as := []) (bs := []) sb.reads .nil))
theorem shaped2 {a b : Value} {da db : PyData} (sa : Sm a da) (sb : Sm b db) : shaped (.tuple [da, db]) = true := by
  cases sa <;> cases sb <;> rfl
theorem r_ne2 {a b a' b' : Value} {da db da' db' : PyData} (hx : h.get? x = some (tup [a, b])) (hy : h.get? y = some (tup [a', b'])) (sa : Sm a da) (sb : Sm b db) (sa' : Sm a' da') (sb' : Sm b' db') (hu : A.units + 64 < cLine)
    (k : Q (.bool (!(PyData.eqv da da' && PyData.eqv db db'))) ⟨h, g, d, t, o⟩) : wpAny (model prog w) A (compareOp .NotEq (.ref x) (.ref y)) Q E ⟨h, g, d, t, o⟩ := by
  refine compareNe_shaped (rd2 hx sa sb) (rd2 hy sa' sb') (shaped2 sa sb) (shaped2 sa' sb') hu ?_
  simpa [PyData.eqv, PyData.eqvAll] using k
theorem r_eq2 {a b a' b' : Value} {da db da' db' : PyData} (hx : h.get? x = some (tup [a, b])) (hy : h.get? y = some (tup [a', b'])) (sa : Sm a da) (sb : Sm b db) (sa' : Sm a' da') (sb' : Sm b' db') (hu : A.units + 64 < cLine)
    (k : Q (.bool (PyData.eqv da da' && PyData.eqv db db')) ⟨h, g, d, t, o⟩) : wpAny (model prog w) A (compareOp .Eq (.ref x) (.ref y)) Q E ⟨h, g, d, t, o⟩ := by
  refine compareEq_shaped (rd2 hx sa sb) (rd2 hy sa' sb') (shaped2 sa sb) (shaped2 sa' sb') hu ?_
  simpa [PyData.eqv, PyData.eqvAll] using k
theorem r_ne2_same {a b a' b' : Value} {da db da' db' : PyData} (hx : h.get? x = some (tup [a, b])) (hy : h.get? y = some (tup [a', b'])) (sa : Sm a da) (sb : Sm b db) (sa' : Sm a' da') (sb' : Sm b' db') (hu : A.units + 64 < cLine) (e : da = da') (e' : db = db')
    (k : Q (.bool false) ⟨h, g, d, t, o⟩) : wpAny (model prog w) A (compareOp .NotEq (.ref x) (.ref y)) Q E ⟨h, g, d, t, o⟩ := by
  subst e e'
  refine r_ne2 hx hy sa sb sa' sb' hu ?_
  cases sa <;> cases sb <;> simpa [PyData.eqv] using k
theorem r_eq2_same {a b a' b' : Value} {da db da' db' : PyData} (hx : h.get? x = some (tup [a, b])) (hy : h.get? y = some (tup [a', b'])) (sa : Sm a da) (sb : Sm b db) (sa' : Sm a' da') (sb' : Sm b' db') (hu : A.units + 64 < cLine) (e : da = da') (e' : db = db')
    (k : Q (.bool true) ⟨h, g, d, t, o⟩) : wpAny (model prog w) A (compareOp .Eq (.ref x) (.ref y)) Q E ⟨h, g, d, t, o⟩ := by
  subst e e'
  refine r_eq2 hx hy sa sb sa' sb' hu ?_
  cases sa <;> cases sb <;> simpa [PyData.eqv] using k
theorem r_tit {value slice : Expr} {vs : List Value} {i : Int} {ti : Tok} {v : Value} (hx : h.get? x = some (tup vs)) (h0 : 0 ≤ i) (hv : vs[i.toNat]? = some v) (hfit : vs.length ≤ 100) (k : Q v ⟨h, g, d, t, o⟩)
    (hs : subscripted slice false (.ref x) (.int i ti) = operate [.ref x, .int i ti] (getItem (.ref x) (.int i ti)) := by kernel_rfl)
    (hg : ∀ r, letTemporaryGo value (.ref x) r = pure () := by intro _; kernel_rfl) :
    wpAny (model prog w) A (subscriptTail value slice (.ref x) (.int i ti)) Q E ⟨h, g, d, t, o⟩ := r_titem hx h0 hv (by omega) k hs hg
theorem r_eqSF {x y : Str} {tx ty : Tok} (e : (x == y) = false) (k : Q (.bool false) ⟨h, g, d, t, o⟩) : wpAny (model prog w) A (compareOp .Eq (.str x tx) (.str y ty)) Q E ⟨h, g, d, t, o⟩ :=
  PyProof.Rows.eq_str (by rw [e]; exact k)
theorem r_eqST {x y : Str} {tx ty : Tok} (e : (x == y) = true) (k : Q (.bool true) ⟨h, g, d, t, o⟩) : wpAny (model prog w) A (compareOp .Eq (.str x tx) (.str y ty)) Q E ⟨h, g, d, t, o⟩ :=
  PyProof.Rows.eq_str (by rw [e]; exact k)
theorem eqv_int (a b : Int) : PyData.eqv (.int a) (.int b) = (a == b) := by simp [PyData.eqv]
end
theorem ints_fun {vs : List Value} {ns ms : List Int} (h : IntsAre vs ns) (h' : IntsAre vs ms) : ns = ms := by
  induction h generalizing ms with
  | nil => cases h'; rfl
  | cons n t _ ih => cases h' with | cons _ _ h' => rw [ih h']
end Mine

namespace Mine
open PySem PySem.W PyProof.Rows PySem.Calls PyProof.Rows.TI
set_option maxRecDepth 100000
set_option linter.unusedVariables false
/-- all is kept, but for the slots of some frames -/
structure KpX (fa : List Addr) (h h' : Heap) : Prop where
  keep : ∀ b o, b ∉ fa → h.get? b = some o → h'.get? b = some o
  slot : ∀ b o, b ∈ fa → h.get? b = some o → ∃ sl, h'.get? b = some { o with slots := sl }
theorem KpX.of {fa : List Addr} {h h' : Heap} (k : Kp h h') : KpX fa h h' := ⟨fun b o _ e => k b o e, fun b o _ e => ⟨o.slots, k b o e⟩⟩
theorem gone_size (h : Heap) : ∀ l : List Addr, (gone h l).objs.size = h.objs.size
  | [] => rfl
  | a :: l => by
    show ((gone h l).update a _).objs.size = _
    rw [Heap.size_update, gone_size h l]
theorem sameUp_addrs {a b : List (Addr × Obj)} (h : SameUp a b) : b.map (·.1) = a.map (·.1) := by
  induction a generalizing b with
  | nil =>
    cases b with
    | nil => rfl
    | cons q qs => exact h.elim
  | cons p ps ih =>
    cases b with
    | nil => exact h.elim
    | cons q qs =>
      obtain ⟨h1, _, h3⟩ := h
      rw [List.map_cons, List.map_cons, ih h3, h1]
section
variable {prog : Program} {w : World} {A : Around} {E : Value → Shared → Prop} {h₀ h h' : Heap} {L : Addr} {m mg mb : Str → Option Value} {news new frs : List (Addr × Obj)}
  {g : Array GenState} {d : Drawn} {t : Nat} {o : OsState} {env : Env}
theorem Cx.L0 (C : Cx h₀ L h m news) : h₀.get? L = none := Heap.get?_none_of_le C.fr.above
/-- a frame over others that may be changed in their slots -/
theorem Cx.under {h₁ : Heap} (C : Cx h L h₁ m []) (hf : ∀ p ∈ frs, h.get? p.1 = some p.2) (nd : (frs.map (·.1)).Nodup) : Cx (gone h (frs.map (·.1))) L h₁ m frs :=
  ⟨⟨C.fr.ns, fun b o e => C.fr.keep b o (gone_some e).2, by rw [gone_size]; exact C.fr.above⟩, fun p hp => C.fr.keep _ _ (hf p hp),
    fun p hp => ⟨gone_none (List.mem_map.mpr ⟨p, hp, rfl⟩), Nat.ne_of_lt (Nat.lt_of_lt_of_le (Heap.lt_size (hf p hp)) C.fr.above)⟩, nd⟩
/-- back in the caller's frame -/
theorem Cx.grownX (C : Cx h₀ L h m (new ++ frs)) (k : KpX (L :: frs.map (·.1)) h h') : ∃ frs', SameUp frs frs' ∧ Cx h₀ L h' m (new ++ frs') := by
  obtain ⟨frs', SU, hs⟩ := sameUp_of (h' := h') (frs := frs) fun p hp => k.slot p.1 p.2 (List.mem_cons_of_mem _ (List.mem_map.mpr ⟨p, hp, rfl⟩)) (C.get p (List.mem_append_right _ hp))
  have hn := C.nod
  rw [List.map_append] at hn
  refine ⟨frs', SU, ⟨⟨?_, ?_, C.fr.above⟩, ?_, ?_, ?_⟩⟩
  · obtain ⟨oL, es, ep, hL, r⟩ := C.fr.ns
    obtain ⟨sl, e⟩ := k.slot L oL (List.mem_cons_self) hL
    exact ⟨_, es, ep, e, r⟩
  · intro b ob e
    refine k.keep b ob (fun hb => ?_) (C.fr.keep b ob e)
    rcases List.mem_cons.mp hb with rfl | hb
    · rw [C.L0] at e; cases e
    · obtain ⟨p, hp, rfl⟩ := List.mem_map.mp hb
      rw [(C.low p (List.mem_append_right _ hp)).1] at e; cases e
  · intro p hp
    rcases List.mem_append.mp hp with hp | hp
    · refine k.keep p.1 p.2 (fun hb => ?_) (C.get p (List.mem_append_left _ hp))
      rcases List.mem_cons.mp hb with q | hb
      · exact (C.low p (List.mem_append_left _ hp)).2 q
      · exact (List.nodup_append.mp hn).2.2 p.1 (List.mem_map.mpr ⟨p, hp, rfl⟩) p.1 hb rfl
    · exact hs p hp
  · intro p hp
    rcases List.mem_append.mp hp with hp | hp
    · exact C.low p (List.mem_append_left _ hp)
    · have : p.1 ∈ frs.map (·.1) := by rw [← sameUp_addrs SU]; exact List.mem_map.mpr ⟨p, hp, rfl⟩
      obtain ⟨q, hq, e⟩ := List.mem_map.mp this
      rw [← e]; exact C.low q (List.mem_append_right _ hq)
  · rw [List.map_append, sameUp_addrs SU]; exact hn
/-- what a frame tells its caller -/
theorem Cx.outX (hf : ∀ p ∈ frs, h.get? p.1 = some p.2) {frs' : List (Addr × Obj)} (SU : SameUp frs frs') {h₁ : Heap} (C : Cx (gone h (frs.map (·.1))) L h₁ m (new ++ frs')) : KpX (frs.map (·.1)) h h₁ := by
  refine ⟨fun b ob hb e => C.fr.keep b ob ((gone_get hb).trans e), fun b ob hb e => ?_⟩
  obtain ⟨p, hp, rfl⟩ := List.mem_map.mp hb
  obtain ⟨sl, hq⟩ := SU.back p hp
  rw [hf p hp] at e
  cases e
  exact ⟨sl, C.get _ (List.mem_append_right _ hq)⟩
theorem Cx.outN (hf : ∀ p ∈ frs, h.get? p.1 = some p.2) {frs' : List (Addr × Obj)} (SU : SameUp frs frs') {h₁ : Heap} {p : Addr × Obj} (C : Cx (gone h (frs.map (·.1))) L h₁ m (p :: frs')) : h.get? p.1 = none := by
  cases e : h.get? p.1 with
  | none => rfl
  | some ob =>
    by_cases hb : p.1 ∈ frs.map (·.1)
    · have := C.nod
      rw [List.map_cons, sameUp_addrs SU] at this
      exact absurd hb (List.nodup_cons.mp this).1
    · have := (C.low p (.head _)).1
      rw [gone_get hb, e] at this
      cases this
theorem Cx.addX {x : Addr} {ob : Obj} (C : Cx h₀ L h m news) (k : KpX [L] h h') (ha : h.get? x = none) (hg : h'.get? x = some ob) : Cx h₀ L h' m ((x, ob) :: news) := by
  obtain ⟨frs', SU, C'⟩ := Cx.grownX (new := news) (frs := []) (by rw [List.append_nil]; exact C) k
  cases frs' with
  | cons q qs => exact SU.elim
  | nil =>
    rw [List.append_nil] at C'
    obtain ⟨h1, h2, h3⟩ := C.free ha
    refine ⟨C'.fr, ?_, ?_, List.nodup_cons.mpr ⟨h3, C'.nod⟩⟩
    · intro p hp
      rcases List.mem_cons.mp hp with rfl | hp
      · exact hg
      · exact C'.get p hp
    · intro p hp
      rcases List.mem_cons.mp hp with rfl | hp
      · exact ⟨h1, h2⟩
      · exact C'.low p hp
theorem gl_gone (G : Gl mg mb h₀) (hk : ∀ b ob, h₀.get? b = some ob → (gone h (frs.map (·.1))).get? b = some ob) : Gl mg mb (gone h (frs.map (·.1))) := G.kp hk
/-- the frame of the caller, as the callee has it among its news -/
theorem Cx.frame (C : Cx h₀ L h m news) : ∃ oL es ep, h.get? L = some oL ∧ oL.data = .dict es ep := by
  obtain ⟨oL, es, ep, hL, r, _⟩ := C.fr.ns
  exact ⟨oL, es, ep, hL, r⟩
open Builtin in
theorem raises_bytes_getitem (b : Array UInt8) (i : Int) (t u : Tok) (hr : Bytes.fitsIndex i = true) (h : (seqIndex? i b.size).bind (b[·]?) = none) :
    Meets («bytes.__getitem__» ⟨[.bytes b t, .int i u], []⟩) (raisesNew "IndexError") := by
  intro prog w A R s hS
  show wpAny _ _ (Bytes.subscript? (.int i u) >>= fun r => _) _ _ s
  refine wpAny_bind ?_
  unfold Bytes.subscript?
  refine wpAny_bind (wpAny_specialOf (typeIs_int s i u) F.slot_int_index.lookup ?_)
  show wpAny _ _ (if (!Bytes.fitsIndex i) = true then _ else pure (some i)) _ _ s
  rw [hr]
  refine wpAny_pure ?_
  show wpAny _ _ (match (seqIndex? i b.size).bind (b[·]?) with | some x => retInt x.toNat | none => _) _ _ s
  rw [h]
  first
    | exact wpAny_bind (wpAny_rule (by exact_raiseError plainExc_IndexError hS.1 hS.2))
    | exact wpAny_bind (wpAny_rule (wpAny_bind (by exact_raiseError plainExc_IndexError hS.1 hS.2)))
theorem r_bitemX {value slice : Expr} {Q : Value → Shared → Prop} {b : Array UInt8} {i : Int} {tb ti : Tok} (hA : A.handled = none) (h0 : (b.size : Int) ≤ i) (hfit : i ≤ 1000000000)
    (k : ∀ h' tk e, Heap.NewExc h h' e "IndexError" → E (.ref e) ⟨h', g, d, tk, o⟩)
    (hs : subscripted slice false (.bytes b tb) (.int i ti) = operate [.bytes b tb, .int i ti] (getItem (.bytes b tb) (.int i ti)) := by kernel_rfl)
    (ht : ∀ r, letTemporaryGo value (.bytes b tb) r = pure () := by intro _; kernel_rfl) :
    wpAny (model prog w) A (subscriptTail value slice (.bytes b tb) (.int i ti)) Q E ⟨h, g, d, t, o⟩ := by
  have hf : Builtin.Bytes.fitsIndex i = true := by unfold Builtin.Bytes.fitsIndex; simp; omega
  refine tail_of_ItemOn ⟨"bytes", _, FB.slot_bytes_getitem.lookup, typeIs_bytes _ _ _, getItem_meets (typeIs_bytes _ b tb) (by decide) FB.slot_bytes_getitem FB.entry_bytes_getitem (FB.args_bytes_getitem_2 _ _)
      (raises_bytes_getitem b i tb ti hf (by rw [seqIndex_none (.inr h0)]; rfl)) ⟨hA, k⟩⟩ hs ht
theorem call_fnX {Q : Value → Shared → Prop} {name : Str} {params : Arguments} {body : List Stmt} {scope : Scope} {a : Addr} {cd : Value} {args : List Value} {binds : List (Str × Value)}
    (G : Gl mg mb h) (f : Fn mg h name params body scope a cd) (hd : A.depth < recursionLimit) (hf : ∀ p ∈ frs, h.get? p.1 = some p.2) (nd : (frs.map (·.1)).Nodup)
    (k : ∀ h₁ t', Cx (gone h (frs.map (·.1))) h.objs.size h₁ (lk binds.reverse (fun _ => none)) frs →
      wpAny (model prog w) (A.deeper (envOf name scope h.objs.size a cd)) (execs body (envOf name scope h.objs.size a cd)) (fun f s' => Q (match f with | .ret v => v | _ => .none) s')
        (fun e s' => wpAny (model prog w) (A.deeper (envOf name scope h.objs.size a cd)) (leaving (envOf name scope h.objs.size a cd) e) (fun _ s'' => E e s'') (fun e' s'' => E e' s'') s') ⟨h₁, g, d, t', o⟩)
    (hbind : ∀ pm doc, bindArgs (docDef name params body scope pm cd doc) ⟨args, []⟩ = pure binds)
    (hloc : ∀ x ∈ binds, scope.names.lookup x.1 = some .local)
    (hco : scope.isCoroutine = false := by rfl) (hgen : scope.isGenerator = false := by rfl) (hk : scope.kind = .function := by rfl)
    (hcell : ∀ x ∈ scope.names, x.2 ≠ .cell := by decide) :
    wpAny (model prog w) A (call (.ref a) args) Q E ⟨h, g, d, t, o⟩ := by
  obtain ⟨ob, pm, doc, x, y⟩ := f.ob
  refine wpAny_call (call_plain hd x y G.lim f.code (hbind pm doc) hloc (fun h₁ F => ?_) hco hgen hk hcell)
  rw [lookup_lk] at F
  have C : Cx h h.objs.size h₁ (lk binds.reverse (fun _ => none)) [] := ⟨F, (by intro _ hp; cases hp), (by intro _ hp; cases hp), List.nodup_nil⟩
  exact wpAny_mono (k h₁ _ (C.under hf nd)) (fun f s' q => q) (fun _ _ x => x)
theorem caught_IE {l : List Env} {b₀ : Stmt} {suite : List Stmt} {pos np : Pos} {rest : List ExceptHandler} {Q : Flow → Shared → Prop} {e a : Addr} {name : Str} {scope : Scope} {cd : Value}
    (C : Cx h₀ L h m (new ++ frs)) (G : Gl mg mb h₀) (hfr : A.frames = some l) (Fs : Frs l frs) (hnd : new.all notDict = true) (hx : Heap.NewExc h h' e "IndexError")
    (hn : mg (Str.ofString "IndexError") = none)
    (k : ∀ h'' frs', SameUp frs frs' → Frs l frs' → Cx h₀ L h'' m (new ++ frs') →
      wpAny (model prog w) ((A.deeper (envOf name scope L a cd)).mark (some (.ref e))) (execs (b₀ :: suite) (envOf name scope L a cd)) Q E ⟨h'', g, d, t, o⟩)
    (hk : scope.kind = .function := by kernel_rfl) (hxk : (envOf name scope L a cd).kindOf (Str.ofString "IndexError") = some .globalImplicit := by kernel_rfl)
    (hE : PassesOwnAt (model prog w) ((A.deeper (envOf name scope L a cd)).mark (some (.ref e))) (A.deeper (envOf name scope L a cd)) (envOf name scope L a cd) E := by passes_own) :
    wpAny (model prog w) (A.deeper (envOf name scope L a cd)) (noteFrame (.ref e) (envOf name scope L a cd))
      (fun _ s₂ => wpAny (model prog w) (A.deeper (envOf name scope L a cd)) (setFlight (.ref e) none) (fun _ s₃ =>
        wpAny (model prog w) (A.deeper (envOf name scope L a cd)) (handleBy (.ref e) (envOf name scope L a cd) (.ExceptHandler (some (.Name (Str.ofString "IndexError") np)) none (b₀ :: suite) pos :: rest)) Q E s₃) E s₂) E ⟨h', g, d, t, o⟩ := by
  have nod := C.nod
  refine noted_newT (s' := ⟨h', g, d, t, o⟩) hfr Fs hx C.fr C.nw hnd (fun h₁ frs₁ SU Fs₁ H => ?_) hk
  refine TT.HeldNA.land (s' := ⟨h₁, g, d, t, o⟩) H (fun h₂ H => ?_)
  have C₂ : Cx h₀ L h₂ m (new ++ frs₁) := ⟨H.held.fr, fun p hp => (H.made p hp).1, fun p hp => ⟨(H.made p hp).2.2, (H.made p hp).2.1⟩, by rw [List.map_append, sameUp_addrs SU, ← List.map_append]; exact nod⟩
  refine wpAny_handleBy_builtin (X := "IndexError") (T := "IndexError") (b := true) (isSubtype_of_subB (by decide +kernel)) (isSubtype_of_subB (by decide +kernel)) (isSubtype_of_subB (by decide +kernel)) (wpAny_passesOwnAt hE (nm_b C₂ G hn bb_IndexError ⟨rfl, H.isA, ?_⟩ hxk hk))
  rw [if_pos rfl]
  refine TT.HeldNA.lands (s' := ⟨h₂, g, d, t, o⟩) H fun h₃ F' N' => wpAny_passesOwnAt hE (k h₃ frs₁ SU Fs₁ ⟨F', fun p hp => (N' p hp).1, fun p hp => ⟨(N' p hp).2.2, (N' p hp).2.1⟩, C₂.nod⟩)
end
end Mine

namespace Mine
open PySem PySem.W PyProof.Rows PySem.Calls PyProof.Rows.TI
set_option maxRecDepth 100000
set_option linter.unusedVariables false
theorem ude_new : ExcNewFacts "UnicodeDecodeError" "UnicodeDecodeError.__new__" where
  ends := by decide +kernel
  owner := by decide +kernel
  entry := entryFor_alias (id' := "BaseException.__new__") (by rw [fastTable_eq_tree]; kernel_rfl) (by first | rfl | decide +kernel) (by decide +kernel) (by rw [fastTable_eq_tree]; kernel_rfl)
  sub := by rw [isSubtype_type]; kernel_rfl
  notAttr := by rw [isSubtype_type]; kernel_rfl
  notName := by rw [isSubtype_type]; kernel_rfl
  made := by kernel_rfl
theorem ude_init : Slot "UnicodeDecodeError" "__init__" "UnicodeDecodeError.__init__" :=
  .of (owner := "UnicodeDecodeError") (n := "__init__") (by rw [typeLookup_type, builtinLookup_eq_fast]; kernel_rfl) (by decide +kernel) (by decide +kernel) (by decide +kernel)
    (by first | exact .inl (by decide +kernel) | exact .inr (by decide +kernel)) (by rw [isSubtype_type]; kernel_rfl)
theorem ude_initEntry : entryFor table "UnicodeDecodeError.__init__" = some Builtin.«UnicodeDecodeError.__init__» := entryFor_of_tree (by kernel_rfl)
theorem ude_canMake : ((Manifest.find? "UnicodeDecodeError").bind fun x => List.findSome? (fun t => (Manifest.find? t).bind fun b =>
    if b.noNew = true then some true else if (b.attrs.any fun x => x.fst == "__new__") = true then some false else none) x.mro).getD false = false := by kernel_rfl
theorem ude_noVector (args : Args) : checkTypeCall "UnicodeDecodeError" args = pure () := by kernel_rfl
theorem ude_mro : mroOf (.type "UnicodeDecodeError") = pure [.type "UnicodeDecodeError", .type "UnicodeError", .type "ValueError", .type "Exception", .type "BaseException", .type "object"] := by rw [mroOf_type]; kernel_rfl
theorem ude_madeBy : Bind.madeBy (.type "UnicodeDecodeError") = pure (some "UnicodeDecodeError.__new__") := by kernel_rfl
theorem ude_newOk (rest : List Value) : checkBuiltinCall "UnicodeDecodeError.__new__" ⟨.type "UnicodeDecodeError" :: rest, []⟩ = pure () := by kernel_rfl
section
variable {prog : Program} {w : World} {A : Around} {E : Value → Shared → Prop} {h₀ h h' : Heap} {g : Array GenState} {d : Drawn} {t : Nat} {o : OsState}
def excOb (cls : String) (vs : Array Value) : Obj := { cls := .type cls, data := .fields vs }
/-- an own object is written -/
theorem put_self {e : Addr} {cls : String} {vs : Array Value} {f : Array Value → Array Value} (K : Kp h₀ h) (hn : h₀.get? e = none) (he : h.get? e = some (excOb cls vs)) :
    Kp h₀ (h.update e (Obj.mapFields f)) ∧ (h.update e (Obj.mapFields f)).get? e = some (excOb cls (f vs)) := by
  refine ⟨fun b ob hb => ?_, ?_⟩
  · rw [Heap.get?_update_other _ _ (fun q => by rw [q] at hn; rw [hn] at hb; cases hb)]
    exact K b ob hb
  · exact Heap.get?_update_self _ he rfl
open Builtin.UnicodeEncodeError in
theorem ude_check {self : Value} {rest : List Value} {Q : Unit → Shared → Prop} (hT : Shared.TypeIs ⟨h, g, d, t, o⟩ self "UnicodeDecodeError") (k : Q () ⟨h, g, d, t, o⟩) :
    wpAny (model prog w) A (checkBuiltinCall "UnicodeDecodeError.__init__" ⟨self :: rest, []⟩) Q E ⟨h, g, d, t, o⟩ := by
  have e1 : builtinKind "UnicodeDecodeError.__init__" = some .slot := by kernel_rfl
  have e2 : splitId "UnicodeDecodeError.__init__" = some ("UnicodeDecodeError", "__init__") := by kernel_rfl
  have e3 : Manifest.signature? "UnicodeDecodeError.__init__" = some ⟨.hand, "wrapper __init__", "", .self, []⟩ := by kernel_rfl
  have hsub := ude_new.sub
  simp only [checkBuiltinCall, e1, e2, e3]
  wp_walk
  exact k
theorem ar1 (a b c d e f : Value) : (#[a,b,c,d,e,f].setIfInBounds 0 c) = #[c,b,c,d,e,f] := rfl
theorem ar2 (a b c d e f x y z u v : Value) : #[a,b,c,d,e,f].extract 0 6 ++ #[x,y,z,u,v] = #[a,b,c,d,e,f,x,y,z,u,v] := by simp
theorem ar3 (a b c d e f x y z u v x' y' z' u' v' : Value) : #[a,b,c,d,e,f,x,y,z,u,v].extract 0 6 ++ #[x',y',z',u',v'] = #[a,b,c,d,e,f,x',y',z',u',v'] := by simp
theorem ar4 (a b c d e f x y z u v : Value) : (#[a,b,c,d,e,f,x,y,z,u,v].extract 6).toList = [x,y,z,u,v] := by simp
theorem ar5 (a b c d e f : Value) : (#[a,b,c,d,e,f].extract 6).toList = [] := by simp
section
open Builtin.UnicodeEncodeError
variable {e : Addr} {cls : String} {a1 a2 a3 a4 a5 a6 b1 b2 b3 b4 b5 : Value}
theorem w_mem6 {Q : Members → Shared → Prop} (he : h.get? e = some (excOb cls #[a1, a2, a3, a4, a5, a6])) (k : Q {} ⟨h, g, d, t, o⟩) : wpAny (model prog w) A (members (.ref e)) Q E ⟨h, g, d, t, o⟩ := by
  unfold members
  refine wpAny_bind (wpAny_fieldsOf he rfl ?_)
  rw [ar5]
  exact wpAny_pure k
theorem w_mem {i j : Int} {ti tj : Tok} {Q : Members → Shared → Prop} (he : h.get? e = some (excOb cls #[a1, a2, a3, a4, a5, a6, b1, b2, .int i ti, .int j tj, b5])) (k : Q ⟨b1, b2, i, j, b5⟩ ⟨h, g, d, t, o⟩) : wpAny (model prog w) A (members (.ref e)) Q E ⟨h, g, d, t, o⟩ := by
  unfold members
  refine wpAny_bind (wpAny_fieldsOf he rfl ?_)
  rw [ar4]
  exact wpAny_pure k
theorem w_set6 {mm : Members} {Q : Unit → Shared → Prop} (K : Kp h₀ h) (hn : h₀.get? e = none) (he : h.get? e = some (excOb cls #[a1, a2, a3, a4, a5, a6]))
    (k : ∀ h', Kp h₀ h' → h'.get? e = some (excOb cls #[a1, a2, a3, a4, a5, a6, mm.encoding, mm.object, rawInt mm.start, rawInt mm.stop, mm.reason]) → Q () ⟨h', g, d, t, o⟩) :
    wpAny (model prog w) A (setMembers (.ref e) mm) Q E ⟨h, g, d, t, o⟩ := by
  unfold setMembers
  refine wpAny_updateFields he rfl ?_ ?_
  · obtain ⟨x, y⟩ := put_self (f := fun vs => vs.extract 0 6 ++ #[mm.encoding, mm.object, rawInt mm.start, rawInt mm.stop, mm.reason]) K hn he
    rw [ar2] at y
    exact k _ x y
  · rw [ar2]; exact (by decide : 11 ≤ sizeLine + 3)
theorem w_set {mm : Members} {Q : Unit → Shared → Prop} (K : Kp h₀ h) (hn : h₀.get? e = none) (he : h.get? e = some (excOb cls #[a1, a2, a3, a4, a5, a6, b1, b2, b3, b4, b5]))
    (k : ∀ h', Kp h₀ h' → h'.get? e = some (excOb cls #[a1, a2, a3, a4, a5, a6, mm.encoding, mm.object, rawInt mm.start, rawInt mm.stop, mm.reason]) → Q () ⟨h', g, d, t, o⟩) :
    wpAny (model prog w) A (setMembers (.ref e) mm) Q E ⟨h, g, d, t, o⟩ := by
  unfold setMembers
  refine wpAny_updateFields he rfl ?_ ?_
  · obtain ⟨x, y⟩ := put_self (f := fun vs => vs.extract 0 6 ++ #[mm.encoding, mm.object, rawInt mm.start, rawInt mm.stop, mm.reason]) K hn he
    rw [ar3] at y
    exact k _ x y
  · rw [ar3]; exact (by decide : 11 ≤ sizeLine + 3)
theorem w_begin {t0 : Addr} {rest : List Value} {Q : Value × List Value → Shared → Prop} (K : Kp h₀ h) (hn : h₀.get? e = none)
    (he : h.get? e = some (excOb cls #[.ref t0, a2, a3, a4, a5, a6])) (hr : rest.length = 5)
    (k : ∀ h' t1, Kp h₀ h' → h'.get? e = some (excOb cls #[.ref t1, a2, a3, a4, a5, a6, unset, unset, rawInt 0, rawInt 0, unset]) → Q (.ref e, rest) ⟨h', g, d, t, o⟩) :
    wpAny (model prog w) A (beginInit "UnicodeDecodeError.__init__" 5 ⟨.ref e :: rest, []⟩) Q E ⟨h, g, d, t, o⟩ := by
  unfold beginInit
  dsimp only
  rw [if_neg (by simp)]
  refine wpAny_bind (wpAny_field he rfl rfl ?_)
  unfold newTuple
  refine wpAny_bind (wpAny_newObj_type ?_ (by show rest.toArray.size ≤ sizeLine; rw [List.size_toArray, hr]; decide))
  have he1 := Heap.get?_push_of_some (h := h) { cls := .type "tuple", data := .seq rest.toArray } he
  replace K := K.trans (Kp.push h { cls := .type "tuple", data := .seq rest.toArray })
  refine wpAny_bind (wpAny_setField he1 rfl (by show 0 < 6; omega) ?_)
  obtain ⟨K1, he2⟩ := put_self (f := (·.setIfInBounds 0 (.ref h.objs.size))) K hn he1
  replace he2 : _ = some (excOb cls #[.ref h.objs.size, a2, a3, a4, a5, a6]) := he2
  clear he he1 K
  refine wpAny_bind (wpAny_letGo ?_)
  rw [if_pos (by decide)]
  refine wpAny_bind (w_mem6 he2 ?_)
  refine wpAny_bind (w_set6 K1 hn he2 ?_)
  clear he2 K1
  intro h3 K3 he3
  refine wpAny_bind (wpAny_letGo ?_)
  refine wpAny_bind (w_mem he3 ?_)
  refine wpAny_bind (w_set K3 hn he3 ?_)
  clear he3 K3
  intro h4 K4 he4
  refine wpAny_bind (wpAny_letGo ?_)
  refine wpAny_bind (w_mem he4 ?_)
  refine wpAny_bind (w_set K4 hn he4 ?_)
  clear he4 K4
  intro h5 K5 he5
  refine wpAny_bind (wpAny_letGo ?_)
  rw [if_neg (by rw [hr]; decide)]
  exact wpAny_pure (k h5 _ K5 he5)
theorem w_strArg {id : String} {i : Nat} {x : Str} {tx : Tok} {Q : Unit → Shared → Prop} (k : Q () ⟨h, g, d, t, o⟩) : wpAny (model prog w) A (strArgument id i (.str x tx)) Q E ⟨h, g, d, t, o⟩ := by
  unfold strArgument
  exact wpAny_bind (wpAny_pure (wpAny_pure k))
theorem w_sizeArg {id : String} {i : Int} {tx : Tok} {Q : Int → Shared → Prop} (hi : 0 ≤ i ∧ i ≤ 1000000000) (k : Q i ⟨h, g, d, t, o⟩) : wpAny (model prog w) A (sizeArgument id (.int i tx)) Q E ⟨h, g, d, t, o⟩ := by
  unfold sizeArgument asIndex
  refine wpAny_bind (wpAny_bind (wpAny_pure (wpAny_pure ?_)))
  rw [if_neg (by simp; omega)]
  exact wpAny_pure k
theorem w_range {i j : Int} {ti tj tx ty : Tok} {x y : Int} {Q : Unit → Shared → Prop} (K : Kp h₀ h) (hn : h₀.get? e = none)
    (he : h.get? e = some (excOb cls #[a1, a2, a3, a4, a5, a6, b1, b2, .int x tx, .int y ty, b5])) (hi : 0 ≤ i ∧ i ≤ 1000000000) (hj : 0 ≤ j ∧ j ≤ 1000000000)
    (k : ∀ h', Kp h₀ h' → h'.get? e = some (excOb cls #[a1, a2, a3, a4, a5, a6, b1, b2, rawInt i, rawInt j, b5]) → Q () ⟨h', g, d, t, o⟩) :
    wpAny (model prog w) A (initRange "UnicodeDecodeError.__init__" (.ref e) (.int i ti) (.int j tj)) Q E ⟨h, g, d, t, o⟩ := by
  unfold initRange
  refine wpAny_bind (w_sizeArg hi (wpAny_bind (w_mem he (wpAny_bind (w_set K hn he ?_)))))
  clear K he
  intro h1 K he
  exact wpAny_bind (w_sizeArg hj (wpAny_bind (w_mem he (w_set K hn he k))))
theorem ude_body {t0 : Addr} {enc rs : Str} {b : Array UInt8} {i j : Int} {te tb ti tj tr : Tok} {Q : Fin → Shared → Prop} (K : Kp h₀ h) (hn : h₀.get? e = none)
    (he : h.get? e = some (excOb cls #[.ref t0, a2, a3, a4, a5, a6])) (hi : 0 ≤ i ∧ i ≤ 1000000000) (hj : 0 ≤ j ∧ j ≤ 1000000000)
    (k : ∀ h' t1, Kp h₀ h' → h'.get? e = some (excOb cls #[.ref t1, a2, a3, a4, a5, a6, .str enc te, .bytes b tb, rawInt i, rawInt j, .str rs tr]) → Q (.done (.ret .none)) ⟨h', g, d, t, o⟩) :
    wpAny (model prog w) A (Builtin.«UnicodeDecodeError.__init__» ⟨[.ref e, .str enc te, .bytes b tb, .int i ti, .int j tj, .str rs tr], []⟩) Q E ⟨h, g, d, t, o⟩ := by
  unfold Builtin.«UnicodeDecodeError.__init__»
  dsimp only
  refine wpAny_bind (w_begin K hn he rfl ?_)
  clear K he
  intro h1 t1 K he
  dsimp only
  refine wpAny_bind (w_strArg ?_)
  refine wpAny_bind (w_range K hn he hi hj ?_)
  clear K he
  intro h2 K he
  refine wpAny_bind (w_strArg ?_)
  refine wpAny_bind (m := Builtin.UnicodeDecodeError.bytesOf? _) (wpAny_pure ?_)
  rw [if_pos (by rfl)]
  have hu : isUnset (.bytes b tb) = false := rfl
  simp only [hu, Bool.not_false, if_true, Bool.false_eq_true, if_false, pure_bind]
  refine wpAny_bind (w_mem he ?_)
  refine wpAny_bind (w_set K hn he ?_)
  intro h3 K3 he3
  exact wpAny_pure (k h3 _ K3 he3)
theorem call_ude {enc rs : Str} {b : Array UInt8} {i j : Int} {te tb ti tj tr : Tok} {Q : Value → Shared → Prop} (hi : 0 ≤ i ∧ i ≤ 1000000000) (hj : 0 ≤ j ∧ j ≤ 1000000000)
    (k : ∀ e h' t1, Kp h h' → h.get? e = none → h'.get? e = some (excOb "UnicodeDecodeError" #[.ref t1, .none, .none, .none, .bool false, .none, .str enc te, .bytes b tb, rawInt i, rawInt j, .str rs tr]) → Q (.ref e) ⟨h', g, d, t, o⟩) :
    wpAny (model prog w) A (call (.type "UnicodeDecodeError") [.str enc te, .bytes b tb, .int i ti, .int j tj, .str rs tr]) Q E ⟨h, g, d, t, o⟩ := by
  refine wpAny_call (codeAny_of_tree ?_)
  show wpAny _ _ (again (.builtin "type.__call__" ⟨.type "UnicodeDecodeError" :: _, []⟩)) _ _ _
  refine wpAny_pure ⟨Code.quiet_builtin _ (by decide +kernel), codeAny_builtin entry_typeCall ?_⟩
  have hnt : (Value.type "UnicodeDecodeError" == Value.type "type") = false := by decide +kernel
  have hcan := ude_canMake
  have hchk := ude_noVector ⟨[.str enc te, .bytes b tb, .int i ti, .int j tj, .str rs tr], []⟩
  have hmro := ude_mro
  have hmade := ude_madeBy
  wp_walk
  refine codeAny_call_builtin_code (Code.quiet_builtin _ (by decide +kernel)) (wpAny_of_eq (ude_newOk _) ?_)
  refine codeAny_exc_new ude_new ?_
  show wpAny _ _ _ _ _ _
  have hget : ((h.push { cls := .type "tuple", data := .seq [.str enc te, .bytes b tb, .int i ti, .int j tj, .str rs tr].toArray }).push
      { cls := .type "UnicodeDecodeError", data := .fields #[.ref h.objs.size, .none, .none, .none, .bool false, .none] }).get? (h.objs.size + 1) = some
      (excOb "UnicodeDecodeError" #[.ref h.objs.size, .none, .none, .none, .bool false, .none]) := Heap.get?_push_at (by simp only [Heap.size_push]) rfl
  refine wpAny_bind (wpAny_isInstance ⟨_, hget, rfl⟩ ude_new.sub ?_)
  wp_step
  refine wpAny_bind (wpAny_holding (wpAny_callSpecial?_slot ⟨_, hget, rfl⟩ ude_init (wpAny_call (codeAny_call_builtin ude_init.plain ude_initEntry (ude_check ⟨_, hget, rfl⟩ ?_)))))
  refine ude_body (h₀ := h) ((Kp.push _ _).trans (Kp.push _ _)) (Heap.get?_none_of_le (Nat.le_succ _)) hget hi hj ?_
  intro h' t1 K' he'
  wp_walk
  exact k _ _ t1 K' (Heap.get?_none_of_le (Nat.le_succ _)) he'
end
end
end Mine

namespace Mine
open PySem PySem.W PyProof.Rows PySem.Calls PyProof.Rows.TI
set_option maxRecDepth 100000
set_option linter.unusedVariables false
section
variable {prog : Program} {w : World} {A : Around} {E : Value → Shared → Prop} {h₀ h h' : Heap} {L : Addr} {m mg mb : Str → Option Value} {news new frs : List (Addr × Obj)}
  {g : Array GenState} {d : Drawn} {t : Nat} {o : OsState} {env : Env} {l : List Env} {name : Str} {scope : Scope} {a e T : Addr} {cd : Value} {cls : String} {vs ts : Array Value}
theorem Cx.funFrames (C : Cx h₀ L h m (new ++ frs)) (Fs : Frs l frs) (hk : scope.kind = .function) : h.FunFrames h₀ (envOf name scope L a cd :: l) := by
  obtain ⟨oL, es, ep, hL, hLd⟩ := C.frame
  refine ⟨?_, ⟨L, oL, rfl, C.L0, hL, fun vs q => by rw [hLd] at q; cases q⟩, Fs.fun fun p hp => ⟨C.get p (List.mem_append_right _ hp), (C.low p (List.mem_append_right _ hp)).1⟩⟩
  show scope.kind ≠ .module
  rw [hk]; decide
theorem Frs.kpx (Fs : Frs l frs) (hs : Heap.SlotsOnly ((envOf name scope L a cd :: l).filterMap (·.frame)) h h') : KpX (L :: frs.map (·.1)) h h' := by
  have e1 : (envOf name scope L a cd :: l).filterMap (·.frame) = L :: frs.map (·.1) := by
    rw [← Fs.addrs]; rfl
  rw [e1] at hs
  exact ⟨fun b ob hb q => (hs.2.1 b hb).trans q, fun b ob _ q => hs.2.2 b ob q⟩
theorem Cx.putF {news' : List (Addr × Obj)} (f : Array Value → Array Value) (C : Cx h₀ L h m news) (u : UpdAt e (excOb cls vs) (excOb cls (f vs)) news news') : Cx h₀ L (h.update e (Obj.mapFields f)) m news' :=
  C.updAt u (.update ..) (Heap.get?_update_self (Obj.mapFields f) (u.at C) rfl)
theorem entryC {head : Value} {hadNext : Bool} {Q : Unit → Shared → Prop} (C : Cx h₀ L h m ((e, excOb cls vs) :: (new ++ frs))) (hfr : A.frames = some l) (Fs : Frs l frs) (hsz : 1 < vs.size)
    (k : ∀ h' frs' T ts, SameUp frs frs' → Frs l frs' → ts[3]? = some (rawInt L) → Cx h₀ L h' m ((T, excOb "traceback" ts) :: (e, excOb cls (vs.setIfInBounds 1 (.ref T))) :: (new ++ frs')) → Q () ⟨h', g, d, t, o⟩)
    (hk : scope.kind = .function := by kernel_rfl) :
    wpAny (model prog w) (A.deeper (envOf name scope L a cd)) (do let a ← frameOf (envOf name scope L a cd); let pl ← entryPlaceOf L hadNext; let b ← EntryCells.newEntry head a .none (rawInt L) .none pl; setField (.ref e) 1 b) Q E ⟨h, g, d, t, o⟩ := by
  have C1 : Cx h₀ L h m (((e, excOb cls vs) :: new) ++ frs) := C
  have hl := Cx.funFrames (name := name) (a := a) (cd := cd) C1 Fs hk
  refine wpAny_bind (wpAny_frameOf_fun (s := ⟨h, g, d, t, o⟩) (Around.frames_deeper hfr) hl rfl fun h₁ hs₁ => ?_)
  obtain ⟨frs', SU, C2⟩ := Cx.grownX C1 (Frs.kpx Fs hs₁)
  refine wpAny_bind (wpAny_entryPlaceOf fun pl hpl => ?_)
  unfold EntryCells.newEntry newFields
  refine wpAny_bind (wpAny_newObj_type ?_ (hpl.sizeOk5 _ _ _ _ _))
  have C3 := C2.push { cls := .type "traceback", dict := none, data := .fields ([head, .ref L, .none, rawInt L, .none] ++ (if pl.isEmpty then List.replicate 6 Value.none else pl)).toArray }
  have he := C3.get (e, excOb cls vs) (.tail _ (.head _))
  refine wpAny_setField he rfl hsz ?_
  have C4 := C3.putF (vs := vs) (·.setIfInBounds 1 (.ref h₁.objs.size)) (.tail .head)
  exact k _ frs' _ _ SU (Fs.up SU) (by simp) C4
theorem noteC1 {Q : Unit → Shared → Prop} (C : Cx h₀ L h m ((e, excOb cls vs) :: (new ++ frs))) (hfr : A.frames = some l) (Fs : Frs l frs) (h1 : vs[1]? = some .none)
    (k : ∀ h' frs' T ts, SameUp frs frs' → Frs l frs' → ts[3]? = some (rawInt L) → Cx h₀ L h' m ((T, excOb "traceback" ts) :: (e, excOb cls (vs.setIfInBounds 1 (.ref T))) :: (new ++ frs')) → Q () ⟨h', g, d, t, o⟩)
    (hk : scope.kind = .function := by kernel_rfl) :
    wpAny (model prog w) (A.deeper (envOf name scope L a cd)) (noteFrame (.ref e) (envOf name scope L a cd)) Q E ⟨h, g, d, t, o⟩ := by
  have hf : (envOf name scope L a cd).frame = some L := rfl
  have he := C.get (e, excOb cls vs) (.head _)
  unfold noteFrame
  simp only [hf]
  refine wpAny_bind (wpAny_field he rfl h1 ?_)
  rw [if_neg (by decide)]
  exact entryC C hfr Fs (Array.getElem?_eq_some_iff.mp h1).1 k hk
theorem noteC2 {Q : Unit → Shared → Prop} (C : Cx h₀ L h m ((T, excOb "traceback" ts) :: (e, excOb cls vs) :: (new ++ frs))) (hfr : A.frames = some l) (Fs : Frs l frs) (h1 : vs[1]? = some (.ref T)) (h3 : ts[3]? = some .none)
    (k : ∀ h' frs' T ts, SameUp frs frs' → Frs l frs' → ts[3]? = some (rawInt L) → Cx h₀ L h' m ((T, excOb "traceback" ts) :: (e, excOb cls (vs.setIfInBounds 1 (.ref T))) :: (new ++ frs')) → Q () ⟨h', g, d, t, o⟩)
    (hk : scope.kind = .function := by kernel_rfl) :
    wpAny (model prog w) (A.deeper (envOf name scope L a cd)) (noteFrame (.ref e) (envOf name scope L a cd)) Q E ⟨h, g, d, t, o⟩ := by
  have hf : (envOf name scope L a cd).frame = some L := rfl
  have hT := C.get (T, excOb "traceback" ts) (.head _)
  have he := C.get (e, excOb cls vs) (.tail _ (.head _))
  unfold noteFrame
  simp only [hf]
  refine wpAny_bind (wpAny_field he rfl h1 ?_)
  rw [if_pos (show (Value.ref T != Value.none) = true from by simp)]
  refine wpAny_bind (wpAny_field hT rfl h3 ?_)
  rw [if_neg (show ¬ ((Value.none == rawInt L) = true) from by simp [rawInt])]
  refine wpAny_bind (wpAny_setField hT rfl (Array.getElem?_eq_some_iff.mp h3).1 ?_)
  have C1 := C.putF (vs := ts) (·.setIfInBounds 3 .none) .head
  exact entryC (C1.sub (List.sublist_cons_self _ _)) hfr Fs (Array.getElem?_eq_some_iff.mp h1).1 k hk
theorem landC {Q : Unit → Shared → Prop} (C : Cx h₀ L h m ((T, excOb "traceback" ts) :: (e, excOb cls vs) :: news)) (h1 : vs[1]? = some (.ref T)) (h3 : 3 < ts.size)
    (k : ∀ h' ts', ts'[3]? = some .none → Cx h₀ L h' m ((T, excOb "traceback" ts') :: (e, excOb cls vs) :: news) → Q () ⟨h', g, d, t, o⟩) :
    wpAny (model prog w) A (setFlight (.ref e) none) Q E ⟨h, g, d, t, o⟩ := by
  have hT := C.get (T, excOb "traceback" ts) (.head _)
  have he := C.get (e, excOb cls vs) (.tail _ (.head _))
  unfold setFlight
  refine wpAny_bind (wpAny_field he rfl h1 ?_)
  rw [if_pos (show (Value.ref T != Value.none) = true from by simp)]
  refine wpAny_setField hT rfl h3 ?_
  exact k _ _ (by simp [h3]) (C.putF (vs := ts) (·.setIfInBounds 3 .none) .head)
/-- the first frame is left -/
theorem leaveC1 {Q : Unit → Shared → Prop} (C : Cx h₀ L h m ((e, excOb cls vs) :: (new ++ frs))) (hfr : A.frames = some l) (Fs : Frs l frs) (h1 : vs[1]? = some .none)
    (k : ∀ h' frs' T ts, SameUp frs frs' → Frs l frs' → ts[3]? = some .none → Cx h₀ L h' m ((T, excOb "traceback" ts) :: (e, excOb cls (vs.setIfInBounds 1 (.ref T))) :: (new ++ frs')) → Q () ⟨h', g, d, t, o⟩)
    (hk : scope.kind = .function := by kernel_rfl) :
    wpAny (model prog w) (A.deeper (envOf name scope L a cd)) (leaving (envOf name scope L a cd) (.ref e)) Q E ⟨h, g, d, t, o⟩ := by
  unfold leaving
  have hsz := (Array.getElem?_eq_some_iff.mp h1).1
  refine wpAny_bind (noteC1 C hfr Fs h1 ?_ hk)
  intro h' frs' T ts SU Fs' h3 C'
  refine landC C' (by simp [hsz]) (Array.getElem?_eq_some_iff.mp h3).1 ?_
  intro h'' ts' h3' C''
  exact k h'' frs' T ts' SU Fs' h3' C''
/-- one is raised -/
theorem r_raise {M : Model} {s : Shared} {x : Expr} {pos : Pos} {X : String} {Q : Flow → Shared → Prop} (hb : isSubtype (.type X) (.type "BaseException") = pure true) (hm : (Value.type ((Manifest.find? X).elim "type" (·.metatype)) == Value.type "type") = true)
    (k : wpAny M A (eval x env) (fun v s₁ => ∃ a vs, v = .ref a ∧ s₁.heap.get? a = some (excOb X vs) ∧ vs[1]? = some .none ∧ wpAny M A (raiseNew (.ref a)) Q E s₁) E s) :
    wpAny M A (exec (.Raise (some x) none pos) env) Q E s := by
  show wpAny M A (do standAt pos; raiseStmt env (some (do let v ← eval x env; standAt pos; pure v)) none) Q E s
  refine wpAny_bind (wpAny_standAt ?_)
  unfold raiseStmt
  dsimp only
  refine wpAny_bind (wpAny_bind (wpAny_mono k (fun v s₁ h₁ => wpAny_bind (wpAny_standAt (wpAny_pure ?_))) fun _ _ x => x))
  obtain ⟨a, vs, rfl, ha, h1, hE⟩ := h₁
  have hT : s₁.TypeIs (.ref a) X := ⟨_, ha, rfl⟩
  have hnt : ∀ {Q' : Bool → Shared → Prop}, Q' false s₁ → wpAny M A (isType (.ref a)) Q' E s₁ := by
    intro Q' hq
    simp only [isType, loadHead]
    refine wpAny_bind (wpAny_loadPart ha ?_)
    exact wpAny_pure hq
  refine wpAny_bind (wpAny_pure ?_)
  dsimp only
  refine wpAny_bind (wpAny_holding ?_)
  unfold excFromValue isExcClass
  refine wpAny_bind (wpAny_bind (hnt ?_))
  simp only [Bool.false_eq_true, if_false]
  refine wpAny_pure ?_
  simp only [Bool.false_eq_true, if_false]
  refine wpAny_bind (wpAny_isInstance hT hb ?_)
  simp only [if_true]
  refine wpAny_pure ?_
  refine wpAny_bind (hnt ?_)
  simp only [Bool.false_eq_true, if_false]
  unfold raisedInstance
  refine wpAny_bind (wpAny_bind (wpAny_typeOf hT (wpAny_bind (m := typeOf (.type X)) (wpAny_pure ?_))))
  rw [if_pos hm]
  refine wpAny_pure ?_
  unfold setFlight
  refine wpAny_bind (wpAny_bind (wpAny_field ha rfl h1 ?_))
  rw [if_neg (by decide)]
  exact wpAny_pure hE
theorem unchain_entry : entryFor table "proto.unchain" = some Builtin.«proto.unchain» := entryFor_of_tree (by kernel_rfl)
/-- raised while another one is handled -/
theorem raiseNew_in {x : Addr} {cls' : String} {vs' : Array Value} {Q : Flow → Shared → Prop} (C : Cx h₀ L h m ((e, excOb cls vs) :: (x, excOb cls' vs') :: news)) (hh : A.handled = some (.ref x)) (h2 : vs'[2]? = some .none) (hsz : 2 < vs.size)
    (k : ∀ h', Cx h₀ L h' m ((e, excOb cls (vs.setIfInBounds 2 (.ref x))) :: (x, excOb cls' vs') :: news) → E (.ref e) ⟨h', g, d, t, o⟩) :
    wpAny (model prog w) A (raiseNew (.ref e)) Q E ⟨h, g, d, t, o⟩ := by
  have he := C.get (e, excOb cls vs) (.head _)
  have hx := C.get (x, excOb cls' vs') (.tail _ (.head _))
  have hne : x ≠ e := fun q => by
    have := C.nod
    rw [List.map_cons, List.map_cons, List.nodup_cons] at this
    exact this.1 (by rw [q]; exact .head _)
  unfold raiseNew
  refine wpAny_bind (wpAny_handled ?_)
  rw [hh]
  dsimp only
  rw [if_pos (by simp [hne])]
  refine wpAny_bind (wpAny_holding (wpAny_runValue (codeAny_builtin unchain_entry ?_)))
  unfold Builtin.«proto.unchain»
  dsimp only
  refine wpAny_bind (wpAny_field hx rfl h2 ?_)
  rw [if_pos (by decide)]
  refine wpAny_pure ?_
  refine wpAny_bind (wpAny_setField (a := e) he rfl hsz ?_)
  refine wpAny_throw ?_
  exact k _ (C.putF (vs := vs) (·.setIfInBounds 2 (.ref x)) .head)
end
end Mine

namespace Mine
open PySem PySem.W PyProof.Rows PySem.Calls PyProof.Rows.TI
set_option maxRecDepth 100000
set_option linter.unusedVariables false
def raisesEx (cls : String) : PySem.Spec := fun A R s => A.handled = none ∧ ∀ h' tk e t1, Kp s.heap h' → s.heap.get? e = none → h'.get? e = some (excOb cls #[.ref t1, .none, .none, .none, .bool false, .none]) → R (.error (.ref e)) { s with heap := h', toks := tk }
section
variable {prog : Program} {w : World} {A : Around} {E : Value → Shared → Prop} {h₀ h h' : Heap} {L : Addr} {m mg mb : Str → Option Value} {news new frs : List (Addr × Obj)}
  {g : Array GenState} {d : Drawn} {t : Nat} {o : OsState} {env : Env} {l : List Env} {name : Str} {scope : Scope} {a e T : Addr} {cd : Value} {cls : String} {vs ts : Array Value}
theorem raiseEx {α : Type} {M : Model} {s : Shared} {cls msg : String} {Q : α → Shared → Prop} (hp : PlainExc cls) (hh : A.handled = none)
    (h : ∀ h' tk e t1, Kp s.heap h' → s.heap.get? e = none → h'.get? e = some (excOb cls #[.ref t1, .none, .none, .none, .bool false, .none]) → E (.ref e) { s with heap := h', toks := tk }) :
    wpAny M A (raiseErrorWords cls msg : Sem α) Q E s := by
  unfold raiseErrorWords
  refine wpAny_bind (wpAny_mkText (wpAny_bind ?_))
  refine wpAny_newExc_plain hp ?_ (by show 1 ≤ sizeLine; decide)
  intro h' e hm
  obtain ⟨t1, he, _, _⟩ := hm.there
  exact wpAny_raiseNew_none hh (h h' _ e t1 hm.keeps hm.new he)
open Builtin in
theorem raises_bytes_getitemE (b : Array UInt8) (i : Int) (t u : Tok) (hr : Bytes.fitsIndex i = true) (h : (seqIndex? i b.size).bind (b[·]?) = none) :
    Meets («bytes.__getitem__» ⟨[.bytes b t, .int i u], []⟩) (raisesEx "IndexError") := by
  intro prog w A R s hS
  show wpAny _ _ (Bytes.subscript? (.int i u) >>= fun r => _) _ _ s
  refine wpAny_bind ?_
  unfold Bytes.subscript?
  refine wpAny_bind (wpAny_specialOf (typeIs_int s i u) F.slot_int_index.lookup ?_)
  show wpAny _ _ (if (!Bytes.fitsIndex i) = true then _ else pure (some i)) _ _ s
  rw [hr]
  refine wpAny_pure ?_
  show wpAny _ _ (match (seqIndex? i b.size).bind (b[·]?) with | some x => retInt x.toNat | none => _) _ _ s
  rw [h]
  first
    | exact wpAny_bind (wpAny_rule (raiseEx plainExc_IndexError hS.1 hS.2))
    | exact wpAny_bind (wpAny_rule (wpAny_bind (raiseEx plainExc_IndexError hS.1 hS.2)))
theorem r_bitemE {value slice : Expr} {Q : Value → Shared → Prop} {b : Array UInt8} {i : Int} {tb ti : Tok} (C : Cx h₀ L h m news) (hA : A.handled = none) (h0 : (b.size : Int) ≤ i) (hfit : i ≤ 1000000000)
    (k : ∀ h' tk e t1, Cx h₀ L h' m ((e, excOb "IndexError" #[.ref t1, .none, .none, .none, .bool false, .none]) :: news) → E (.ref e) ⟨h', g, d, tk, o⟩)
    (hs : subscripted slice false (.bytes b tb) (.int i ti) = operate [.bytes b tb, .int i ti] (getItem (.bytes b tb) (.int i ti)) := by kernel_rfl)
    (ht : ∀ r, letTemporaryGo value (.bytes b tb) r = pure () := by intro _; kernel_rfl) :
    wpAny (model prog w) A (subscriptTail value slice (.bytes b tb) (.int i ti)) Q E ⟨h, g, d, t, o⟩ := by
  have hf : Builtin.Bytes.fitsIndex i = true := by unfold Builtin.Bytes.fitsIndex; simp; omega
  refine tail_of_ItemOn ⟨"bytes", _, FB.slot_bytes_getitem.lookup, typeIs_bytes _ _ _, getItem_meets (typeIs_bytes _ b tb) (by decide) FB.slot_bytes_getitem FB.entry_bytes_getitem (FB.args_bytes_getitem_2 _ _)
      (raises_bytes_getitemE b i tb ti hf (by rw [seqIndex_none (.inr h0)]; rfl)) ⟨hA, fun h' tk e t1 k1 k2 k3 => k h' tk e t1 (C.add k1 k2 k3)⟩⟩ hs ht
/-- caught in the same frame by its own name; the object is kept in sight -/
theorem caught_IEk {b₀ : Stmt} {suite : List Stmt} {pos np : Pos} {rest : List ExceptHandler} {Q : Flow → Shared → Prop} {t1 : Addr}
    (C : Cx h₀ L h m ((e, excOb "IndexError" #[.ref t1, .none, .none, .none, .bool false, .none]) :: (new ++ frs))) (G : Gl mg mb h₀) (hfr : A.frames = some l) (Fs : Frs l frs)
    (hn : mg (Str.ofString "IndexError") = none)
    (k : ∀ h'' frs' v1, SameUp frs frs' → Frs l frs' → Cx h₀ L h'' m ((e, excOb "IndexError" #[.ref t1, v1, .none, .none, .bool false, .none]) :: (new ++ frs')) →
      wpAny (model prog w) ((A.deeper (envOf name scope L a cd)).mark (some (.ref e))) (execs (b₀ :: suite) (envOf name scope L a cd)) Q E ⟨h'', g, d, t, o⟩)
    (hk : scope.kind = .function := by kernel_rfl) (hxk : (envOf name scope L a cd).kindOf (Str.ofString "IndexError") = some .globalImplicit := by kernel_rfl)
    (hE : PassesOwnAt (model prog w) ((A.deeper (envOf name scope L a cd)).mark (some (.ref e))) (A.deeper (envOf name scope L a cd)) (envOf name scope L a cd) E := by passes_own) :
    wpAny (model prog w) (A.deeper (envOf name scope L a cd)) (noteFrame (.ref e) (envOf name scope L a cd))
      (fun _ s₂ => wpAny (model prog w) (A.deeper (envOf name scope L a cd)) (setFlight (.ref e) none) (fun _ s₃ =>
        wpAny (model prog w) (A.deeper (envOf name scope L a cd)) (handleBy (.ref e) (envOf name scope L a cd) (.ExceptHandler (some (.Name (Str.ofString "IndexError") np)) none (b₀ :: suite) pos :: rest)) Q E s₃) E s₂) E ⟨h, g, d, t, o⟩ := by
  refine noteC1 C hfr Fs rfl ?_ hk
  intro h1 frs1 T ts SU Fs1 h3 C1
  refine landC C1 rfl (Array.getElem?_eq_some_iff.mp h3).1 ?_
  intro h2 ts2 h32 C2
  refine wpAny_handleBy_builtin (X := "IndexError") (T := "IndexError") (b := true) (isSubtype_of_subB (by decide +kernel)) (isSubtype_of_subB (by decide +kernel)) (isSubtype_of_subB (by decide +kernel))
    (wpAny_passesOwnAt hE (nm_b C2 G hn bb_IndexError ⟨rfl, ⟨_, C2.get _ (.tail _ (.head _)), rfl⟩, ?_⟩ hxk hk))
  rw [if_pos rfl]
  refine landC C2 rfl (Array.getElem?_eq_some_iff.mp h32).1 ?_
  intro h4 ts4 _ C4
  exact wpAny_passesOwnAt hE (k h4 frs1 _ SU Fs1 (C4.sub (List.sublist_cons_self _ _)))
end
end Mine

namespace Mine
open PySem PySem.W PyProof.Rows PySem.Calls
set_option maxRecDepth 100000
set_option linter.unusedVariables false
section
variable {prog : Program} {w : World} {A : Around} {E : Value → Shared → Prop} {h₀ h : Heap} {L : Addr} {m mg mb : Str → Option Value} {news : List (Addr × Obj)}
  {g : Array GenState} {d : Drawn} {t : Nat} {o : OsState} {env : Env}
theorem r_unpack2 {x y : Str} {px py tpos : Pos} {kk} {q : Addr} {a b : Value} {Q : Unit → Shared → Prop} (C : Cx h₀ L h m news) (hx : h.get? q = some (tup [a, b])) (hh : A.handled = none)
    (k : ∀ h', Cx h₀ L h' m news → wpAny (model prog w) A (storeName env x a) (fun _ s₁ => wpAny (model prog w) A (storeName env y b) Q E s₁) E ⟨h', g, d, t, o⟩) :
    wpAny (model prog w) A (assign (.Tuple [.Name x px, .Name y py] kk tpos) env (.ref q)) Q E ⟨h, g, d, t, o⟩ := by
  refine assign_Tuple_tuple (s := ⟨h, g, d, t, o⟩) hh (ist hx) rfl rfl (fun h' he => ?_)
  have C' : Cx h₀ L h' m news := C.grown fun b ob e => he b ob (fun q => by rw [q, get_size] at e; cases e) e
  show wpAny (model prog w) A (assignInOrder [assign (.Name x px) env, assign (.Name y py) env] [a, b]) Q E _
  refine assignInOrder_cons (bound ?_)
  refine wpAny_mono (k h' C') (fun _ s₁ q => ?_) (fun _ _ x => x)
  exact assignInOrder_cons (PyProof.Rows.assign_Name (wpAny_mono q (fun _ _ z => assignInOrder_nil z) (fun _ _ z => z)))
variable {Q : Value → Shared → Prop}
theorem r_range3 {a b c : Int} {ta tb tc : Tok} (C : Cx h₀ L h m news) (hc : c ≠ 0) (hs : c.natAbs < 1073741824) (k : ∀ x h' t' t1 t2 t3, Cx h₀ L h' m ((x, { cls := .type "range", data := .fields #[.int a t1, .int b t2, .int c t3] }) :: news) → Q (.ref x) ⟨h', g, d, t', o⟩) :
    wpAny (model prog w) A (call (.type "range") [.int a ta, .int b tb, .int c tc]) Q E ⟨h, g, d, t, o⟩ :=
  range3_rows C.fr C.nw hc (fun h' tk t1 t2 t3 R F N hk => k _ h' tk t1 t2 t3 (C.add hk (get_size _) R)) (.inl (PyProof.noPylong_small (by omega)))
theorem rangeS (n : Nat) : Builtin.Range.rangeSize 0 (n : Int) 1 = n := by rw [rangeSize_nat]; simp
theorem rangeDown (e p : Nat) (h : p ≤ e + 1) : Builtin.Range.rangeSize (e : Int) ((p : Int) - 1) (-1) = ((e + 1 - p : Nat) : Int) := by
  unfold Builtin.Range.rangeSize
  rw [if_neg (by decide)]
  split
  · rw [show (-(-1) : Int) = 1 from rfl, Int.ediv_one]; omega
  · omega
theorem range_small {a b c : Int} (ha : -1000000000 ≤ a) (ha' : a ≤ 1000000000) (hb : -1000000000 ≤ b) (hb' : b ≤ 1000000000) (hc : c = 1 ∨ c = -1 ∨ c = 2) (n : Nat) (hn : Builtin.Range.rangeSize a b c = n) (hn' : n ≤ 1000000000) : Builtin.Range.small a b c = true := by
  unfold Builtin.Range.small
  rw [hn]
  simp only [Builtin.Range.rangeFitsLong]
  rcases hc with rfl | rfl | rfl <;> simp <;> omega
theorem r_getFind {pl : Sem Bool} {x : Str} {tx : Tok} {Q : Value × List Value → Shared → Prop} (k : Q (.builtin "str.find", [.str x tx]) ⟨h, g, d, t, o⟩) :
    wpAny (model prog w) A (getMethod (.str x tx) (Str.ofString "find") pl) Q E ⟨h, g, d, t, o⟩ := PySem.GM.find k
/-- the figure of an octet -/
def fig (c : Int) : Int := if 65 ≤ c ∧ c ≤ 90 then c - 65 else if 48 ≤ c ∧ c ≤ 57 then c - 22 else -1
theorem fig_fin : ∀ i : Fin 256, Txt.find SIGNS ⟨#[i.val]⟩ = fig i.val := by decide +kernel
theorem r_find {c : Int} {tx ty : Tok} (h0 : 0 ≤ c) (h1 : c < 256) (k : ∀ t' tr, Q (.int (fig c) tr) ⟨h, g, d, t', o⟩) : wpAny (model prog w) A (call (.builtin "str.find") [.str SIGNS tx, .str ⟨#[c.toNat]⟩ ty]) Q E ⟨h, g, d, t, o⟩ := by
  refine PySem.SC.find ?_
  have := fig_fin ⟨c.toNat, by omega⟩
  have e : ((c.toNat : Nat) : Int) = c := by omega
  rw [e] at this
  show Q (.int (Txt.find SIGNS ⟨#[c.toNat]⟩) t) _
  rw [this]
  exact k _ _
theorem r_isN {v : Value} (k : Q (.bool (v == .none)) ⟨h, g, d, t, o⟩) : wpAny (model prog w) A (compareOp .Is v .none) Q E ⟨h, g, d, t, o⟩ := is_none k
theorem r_isNotI {i : Int} {ti : Tok} (k : Q (.bool true) ⟨h, g, d, t, o⟩) : wpAny (model prog w) A (compareOp .IsNot (.int i ti) .none) Q E ⟨h, g, d, t, o⟩ := isNot_none k
theorem r_isNotN (k : Q (.bool false) ⟨h, g, d, t, o⟩) : wpAny (model prog w) A (compareOp .IsNot .none .none) Q E ⟨h, g, d, t, o⟩ := isNot_none k
theorem r_isI {i : Int} {ti : Tok} (k : Q (.bool false) ⟨h, g, d, t, o⟩) : wpAny (model prog w) A (compareOp .Is (.int i ti) .none) Q E ⟨h, g, d, t, o⟩ := is_none k
theorem r_isNN (k : Q (.bool true) ⟨h, g, d, t, o⟩) : wpAny (model prog w) A (compareOp .Is .none .none) Q E ⟨h, g, d, t, o⟩ := is_none k
end
end Mine

namespace Mine
open PySem PySem.W PyProof.Rows PySem.Calls PyProof.Rows.TI
set_option maxRecDepth 100000
set_option linter.unusedVariables false
def wordsI (c : Int) : Str := Str.ofString "Invalid extended code point '" ++ Str.ofString (toString c) ++ Str.ofString "'"
def wordsAt (l : List Int) (q : Nat) : Str := match l[q]? with | none => Str.ofString "incomplete punycode string" | some c => wordsI c
def udeOb (t1 : Addr) (v1 v2 : Value) (b : Array UInt8) (i j : Int) (words : Str) (te tb tr : Tok) : Obj :=
  excOb "UnicodeDecodeError" #[.ref t1, v1, v2, .none, .bool false, .none, .str (Str.ofString "punycode") te, .bytes b tb, rawInt i, rawInt j, .str words tr]
theorem wordsI_len : ∀ i : Fin 256, (Str.ofString (toString ((i.val : Nat) : Int))).length ≤ 3 := by decide +kernel
theorem wordsI_log : ∀ i : Fin 256, ((i.val : Nat) : Int).natAbs.log2 < 1920 := by decide +kernel
theorem words_len {c : Int} (h0 : 0 ≤ c) (h1 : c < 256) : (Str.ofString (toString c)).length ≤ 3 := by
  have := wordsI_len ⟨c.toNat, by omega⟩
  rwa [show (((⟨c.toNat, by omega⟩ : Fin 256).val : Nat) : Int) = c from by show (c.toNat : Int) = c; omega] at this
theorem words_log {c : Int} (h0 : 0 ≤ c) (h1 : c < 256) : c.natAbs.log2 < 1920 := by
  have := wordsI_log ⟨c.toNat, by omega⟩
  rwa [show (((⟨c.toNat, by omega⟩ : Fin 256).val : Nat) : Int) = c from by show (c.toNat : Int) = c; omega] at this
theorem inv_head : Str.empty ++ Str.ofString "Invalid extended code point '" = Str.ofString "Invalid extended code point '" := by kernel_rfl
section
variable {prog : Program} {w : World} {A : Around} {E : Value → Shared → Prop} {h₀ h h' : Heap} {L : Addr} {m mg mb : Str → Option Value} {news new frs : List (Addr × Obj)}
  {g : Array GenState} {d : Drawn} {t : Nat} {o : OsState} {env : Env}
/-- the words of the fault, by an f-string -/
theorem r_fwords {v : Expr} {pos p1 p2 p3 : Pos} {k1 k2 : Nat} {Q : Value → Shared → Prop}
    (k : ∀ t, wpAny (model prog w) A (eval v env) (fun v s₁ => ∃ c tc h₁ t₁, v = .int c tc ∧ s₁ = ⟨h₁, g, d, t₁, o⟩ ∧ 0 ≤ c ∧ c < 256 ∧ ∀ t' tr, Q (.str (wordsI c) tr) ⟨h₁, g, d, t', o⟩) E ⟨h, g, d, t, o⟩) :
    wpAny (model prog w) A (eval (.JoinedStr [.Constant (.str (Str.ofString "Invalid extended code point '")) k1 p1, .FormattedValue v (-1) none p2, .Constant (.str (Str.ofString "'")) k2 p3] pos) env) Q E ⟨h, g, d, t, o⟩ := by
  refine JoinedStr_many (joinParts_cons (r_str ?_))
  intro t1 tr
  refine ⟨by decide, ?_⟩
  rw [inv_head]
  refine joinParts_cons (FormattedValue_plain (wpAny_mono (k _) (fun v s₁ q => ?_) (fun _ _ x => x)))
  obtain ⟨c, tc, h₁, t₁, rfl, rfl, h0, h1, q⟩ := q
  refine formatField_int_small (words_log h0 h1) ?_
  have hl := words_len h0 h1
  have hz : (33 : Nat) ≤ sizeLine := by decide
  have e1 : (Str.ofString "Invalid extended code point '").length = 29 := by decide +kernel
  have e2 : (Str.ofString "'").length = 1 := by decide +kernel
  refine ⟨by rw [strLen_append, e1]; omega, ?_⟩
  refine joinParts_cons (r_str ?_)
  intro t2 tr2
  refine ⟨by rw [strLen_append, strLen_append, e1, e2]; omega, ?_⟩
  refine joinParts_nil ?_ (by rw [strLen_append, strLen_append, e1, e2]; omega)
  exact q _ _
theorem r_whileE {test : Expr} {body : List Stmt} {pos : Pos} {Q : Flow → Shared → Prop} (Inv : Nat → (Str → Option Value) → List (Addr × Obj) → Prop) (n : Nat) (C : Cx h₀ L h m news) (hI : Inv n m news)
    (turn : ∀ n h t m news, Cx h₀ L h m news → Inv n m news → wpAny (model prog w) A (isTrue test env (eval test env)) (fun b s₂ =>
      if b = true then wpAny (model prog w) A (execs body env) (TurnW h₀ L g d o Inv n Q) E s₂ else Q .next s₂) E ⟨h, g, d, t, o⟩)
    (hE : PassesOwn (model prog w) A env E := by passes_own) :
    wpAny (model prog w) A (exec (.While test body [] pos) env) Q E ⟨h, g, d, t, o⟩ := by
  refine wpAny_While (codeAny_whileLoop (fun n s => ∃ h t m news, s = ⟨h, g, d, t, o⟩ ∧ Cx h₀ L h m news ∧ Inv n m news) ?_ n ⟨h, t, m, news, rfl, C, hI⟩)
  rintro n s ⟨h, t, m, news, rfl, C, hI⟩
  refine wpAny_passesOwn hE (wpAny_mono (turn n h t m news C hI) (fun b s₂ q => ?_) (fun _ _ x => x))
  cases b with
  | false =>
    simp only [Bool.false_eq_true, if_false] at q ⊢
    exact wpAny_pure q
  | true =>
    simp only [if_true] at q ⊢
    refine wpAny_passesOwn hE (wpAny_mono q (fun f s₃ q => ?_) (fun _ _ x => x))
    cases f with
    | next => obtain ⟨n', h, t, m, news, hn, e, C, hI⟩ := q; exact ⟨n', hn, h, t, m, news, e, C, hI⟩
    | cont => obtain ⟨n', h, t, m, news, hn, e, C, hI⟩ := q; exact ⟨n', hn, h, t, m, news, e, C, hI⟩
    | brk => exact q
    | ret v => exact q
end
end Mine

namespace Mine
open PySem PySem.W PyProof.Rows PySem.Calls PyProof.Rows.TI
set_option maxRecDepth 100000
set_option linter.unusedVariables false
theorem ude_ga : Slot "UnicodeDecodeError" "__getattribute__" "BaseException.__getattribute__" :=
  .of (owner := "BaseException") (n := "__getattribute__") (by rw [typeLookup_type, builtinLookup_eq_fast]; kernel_rfl) (by decide +kernel) (by decide +kernel) (by decide +kernel)
    (by first | exact .inl (by decide +kernel) | exact .inr (by decide +kernel)) (by rw [isSubtype_type]; kernel_rfl)
structure UAttr (x : Str) (id : String) (B : Builtin) : Prop where
  lk : typeLookup (.type "UnicodeDecodeError") x = pure (some (.builtin id))
  ty : typeOf (.builtin id) = pure (.type "member_descriptor")
  entry : entryFor table id = some B
  own : (".".intercalate (id.cutAt '.').dropLast) = "UnicodeDecodeError"
  quiet : id.startsWith "lifetime." = false
theorem ua_encoding : UAttr (Str.ofString "encoding") "UnicodeDecodeError.encoding" Builtin.«UnicodeDecodeError.encoding» :=
  ⟨by rw [typeLookup_type, builtinLookup_eq_fast]; kernel_rfl, by show builtinType _ = _; rw [builtinType_eq_fast]; kernel_rfl, entryFor_of_tree (by kernel_rfl), by decide +kernel, by decide +kernel⟩
theorem ua_object : UAttr (Str.ofString "object") "UnicodeDecodeError.object" Builtin.«UnicodeDecodeError.object» :=
  ⟨by rw [typeLookup_type, builtinLookup_eq_fast]; kernel_rfl, by show builtinType _ = _; rw [builtinType_eq_fast]; kernel_rfl, entryFor_of_tree (by kernel_rfl), by decide +kernel, by decide +kernel⟩
theorem ua_start : UAttr (Str.ofString "start") "UnicodeDecodeError.start" Builtin.«UnicodeDecodeError.start» :=
  ⟨by rw [typeLookup_type, builtinLookup_eq_fast]; kernel_rfl, by show builtinType _ = _; rw [builtinType_eq_fast]; kernel_rfl, entryFor_of_tree (by kernel_rfl), by decide +kernel, by decide +kernel⟩
theorem ua_end : UAttr (Str.ofString "end") "UnicodeDecodeError.end" Builtin.«UnicodeDecodeError.end» :=
  ⟨by rw [typeLookup_type, builtinLookup_eq_fast]; kernel_rfl, by show builtinType _ = _; rw [builtinType_eq_fast]; kernel_rfl, entryFor_of_tree (by kernel_rfl), by decide +kernel, by decide +kernel⟩
theorem ua_reason : UAttr (Str.ofString "reason") "UnicodeDecodeError.reason" Builtin.«UnicodeDecodeError.reason» :=
  ⟨by rw [typeLookup_type, builtinLookup_eq_fast]; kernel_rfl, by show builtinType _ = _; rw [builtinType_eq_fast]; kernel_rfl, entryFor_of_tree (by kernel_rfl), by decide +kernel, by decide +kernel⟩
section
variable {prog : Program} {w : World} {A : Around} {E : Value → Shared → Prop} {h : Heap} {g : Array GenState} {d : Drawn} {t : Nat} {os : OsState} {a : Addr} {vs : Array Value} {x : Str} {id : String} {B : Builtin}
theorem ua_get {R : Result → Shared → Prop} (FX : UAttr x id B) (hx : h.get? a = some (excOb "UnicodeDecodeError" vs))
    (hq : ∀ A, wpAny (model prog w) A (B ⟨[.ref a], []⟩) (fun f s => ∃ v, f = .done (.ret v) ∧ R (.ok (.ret v)) s) (fun e s => R (.error e) s) ⟨h, g, d, t, os⟩) :
    codeAny (model prog w) A (.call (.builtin "member_descriptor.__get__") ⟨[.builtin id, .ref a, .type "UnicodeDecodeError"], []⟩) R ⟨h, g, d, t, os⟩ := by
  have hT : (⟨h, g, d, t, os⟩ : Shared).TypeIs (.ref a) "UnicodeDecodeError" := ⟨_, hx, rfl⟩
  have hT5 : (⟨h, g, d, t, os⟩ : Shared).TypeIs (.builtin id) "member_descriptor" := FX.ty
  have f8 : isSubtype (.type "UnicodeDecodeError") (.type (".".intercalate (id.cutAt '.').dropLast)) = pure true := by rw [FX.own]; exact ude_new.sub
  refine codeAny_call_builtin KF.slot_mem.plain KF.entry_mem (KF.slot_mem.check _ _ _ _ _ _ _ _ hT5 (KF.args_mem _ _ _) ?_)
  repeat (any_goals (first | assumption | wp_step))
  refine ⟨Code.quiet_builtin _ FX.quiet, codeAny_builtin FX.entry (wpAny_mono (hq _) (fun f s q => ?_) (fun _ _ x => x))⟩
  obtain ⟨v, rfl, q⟩ := q
  exact q
theorem ua_entry {tk : Tok} {Q : Fin → Shared → Prop} (FX : UAttr x id B) (hx : h.get? a = some (excOb "UnicodeDecodeError" vs))
    (hq : ∀ A, wpAny (model prog w) A (B ⟨[.ref a], []⟩) (fun f s => ∃ v, f = .done (.ret v) ∧ Q f s) E ⟨h, g, d, t, os⟩) :
    wpAny (model prog w) A (Builtin.«object.__getattribute__» ⟨[.ref a, .str x tk], []⟩) Q E ⟨h, g, d, t, os⟩ := by
  have hT : (⟨h, g, d, t, os⟩ : Shared).TypeIs (.ref a) "UnicodeDecodeError" := ⟨_, hx, rfl⟩
  have hT5 : (⟨h, g, d, t, os⟩ : Shared).TypeIs (.builtin id) "member_descriptor" := FX.ty
  have f4 := FX.lk
  have f5 := FX.ty
  have f6 := KF.slot_mem.lookup
  have f7 := KF.slot_mset.lookup
  repeat (any_goals (first | assumption | wp_step))
  refine ua_get FX hx (fun A => wpAny_mono (hq A) (fun f s q => ?_) (fun _ _ x => x))
  obtain ⟨v, rfl, q⟩ := q
  refine ⟨v, rfl, ?_⟩
  repeat (any_goals (first | assumption | wp_step))
theorem ua_call {tk : Tok} {R : Result → Shared → Prop} (FX : UAttr x id B) (hx : h.get? a = some (excOb "UnicodeDecodeError" vs))
    (hq : ∀ A, wpAny (model prog w) A (B ⟨[.ref a], []⟩) (fun f s => ∃ v, f = .done (.ret v) ∧ R (.ok (.ret v)) s) (fun e s => R (.error e) s) ⟨h, g, d, t, os⟩) :
    codeAny (model prog w) A (.call (.builtin "BaseException.__getattribute__") ⟨[.ref a, .str x tk], []⟩) R ⟨h, g, d, t, os⟩ :=
  codeAny_call_builtin ude_ga.plain F.entry_bexc_ga (ude_ga.check _ _ _ _ _ _ _ _ (show (⟨h, g, d, t, os⟩ : Shared).TypeIs (.ref a) "UnicodeDecodeError" from ⟨_, hx, rfl⟩) (F.args_bexc_ga _ _)
    (ua_entry FX hx (fun A => wpAny_mono (hq A) (fun f s q => by obtain ⟨v, rfl, q⟩ := q; exact ⟨v, rfl, q⟩) (fun _ _ x => x))))
theorem ua_by {tk : Tok} {fill expr : Bool} {Q : Value → Shared → Prop} (FX : UAttr x id B) (hx : h.get? a = some (excOb "UnicodeDecodeError" vs))
    (hq : ∀ A, wpAny (model prog w) A (B ⟨[.ref a], []⟩) (fun f s => ∃ v, f = .done (.ret v) ∧ (∀ id, v ≠ .builtin id) ∧ Q v s) (fun _ _ => False) ⟨h, g, d, t, os⟩) : wpAny (model prog w) A (getAttrBy (.ref a) (.str x tk) fill expr) Q E ⟨h, g, d, t, os⟩ := by
  have hT : (⟨h, g, d, t, os⟩ : Shared).TypeIs (.ref a) "UnicodeDecodeError" := ⟨_, hx, rfl⟩
  have f2 := ude_ga.lookup
  have f3 := ude_ga.bind (.ref a)
  have hx0 : (expr && onTheHeap (Value.builtin "BaseException.__getattribute__")) = false := by cases expr <;> rfl
  repeat (any_goals (first | assumption | wp_step))
  refine ua_call FX hx (fun A => wpAny_mono (hq A) (fun f s q => ?_) (fun _ _ x => x.elim))
  obtain ⟨v, rfl, hb, q⟩ := q
  refine ⟨v, rfl, ?_⟩
  repeat (any_goals (first | assumption | wp_step))
  cases v <;> first | exact wpAny_pure q | exact absurd rfl (hb _)
theorem ua_attr {expr : Bool} {Q : Value → Shared → Prop} (FX : UAttr x id B) (hx : h.get? a = some (excOb "UnicodeDecodeError" vs)) (hs : x.length ≤ sizeLine)
    (hq : ∀ A t, wpAny (model prog w) A (B ⟨[.ref a], []⟩) (fun f s => ∃ v, f = .done (.ret v) ∧ (∀ id, v ≠ .builtin id) ∧ Q v s) (fun _ _ => False) ⟨h, g, d, t, os⟩) : wpAny (model prog w) A (getAttr (.ref a) x expr) Q E ⟨h, g, d, t, os⟩ := by
  unfold getAttr
  repeat (any_goals (first | assumption | exact ua_by FX hx (fun A => hq A _) | wp_step))
variable {t1 : Addr} {v1 v2 : Value} {b : Array UInt8} {i j : Int} {words : Str} {te tb tr : Tok} {Q : Value → Shared → Prop}
open Builtin.UnicodeEncodeError in
theorem at_encoding (hx : h.get? a = some (udeOb t1 v1 v2 b i j words te tb tr)) (k : ∀ t, Q (.str (Str.ofString "punycode") te) ⟨h, g, d, t, os⟩) : wpAny (model prog w) A (getAttr (.ref a) (Str.ofString "encoding") true) Q E ⟨h, g, d, t, os⟩ := by
  refine ua_attr ua_encoding hx (by decide +kernel) (fun A t => ?_)
  unfold Builtin.«UnicodeDecodeError.encoding» objectGet
  exact wpAny_bind (w_mem hx (wpAny_pure ⟨_, rfl, (by intro id; simp [isUnset]), k _⟩))
open Builtin.UnicodeEncodeError in
theorem at_object (hx : h.get? a = some (udeOb t1 v1 v2 b i j words te tb tr)) (k : ∀ t, Q (.bytes b tb) ⟨h, g, d, t, os⟩) : wpAny (model prog w) A (getAttr (.ref a) (Str.ofString "object") true) Q E ⟨h, g, d, t, os⟩ := by
  refine ua_attr ua_object hx (by decide +kernel) (fun A t => ?_)
  unfold Builtin.«UnicodeDecodeError.object» objectGet
  exact wpAny_bind (w_mem hx (wpAny_pure ⟨_, rfl, (by intro id; simp [isUnset]), k _⟩))
open Builtin.UnicodeEncodeError in
theorem at_reason (hx : h.get? a = some (udeOb t1 v1 v2 b i j words te tb tr)) (k : ∀ t, Q (.str words tr) ⟨h, g, d, t, os⟩) : wpAny (model prog w) A (getAttr (.ref a) (Str.ofString "reason") true) Q E ⟨h, g, d, t, os⟩ := by
  refine ua_attr ua_reason hx (by decide +kernel) (fun A t => ?_)
  unfold Builtin.«UnicodeDecodeError.reason» objectGet
  exact wpAny_bind (w_mem hx (wpAny_pure ⟨_, rfl, (by intro id; simp [isUnset]), k _⟩))
open Builtin.UnicodeEncodeError in
theorem at_start (hx : h.get? a = some (udeOb t1 v1 v2 b i j words te tb tr)) (k : ∀ t ti, Q (.int i ti) ⟨h, g, d, t, os⟩) : wpAny (model prog w) A (getAttr (.ref a) (Str.ofString "start") true) Q E ⟨h, g, d, t, os⟩ := by
  refine ua_attr ua_start hx (by decide +kernel) (fun A t => ?_)
  unfold Builtin.«UnicodeDecodeError.start» sizeGet
  refine wpAny_bind (w_mem hx ?_)
  wp_walk
  exact ⟨_, rfl, (by intro id; simp), k _ _⟩
open Builtin.UnicodeEncodeError in
theorem at_end (hx : h.get? a = some (udeOb t1 v1 v2 b i j words te tb tr)) (k : ∀ t ti, Q (.int j ti) ⟨h, g, d, t, os⟩) : wpAny (model prog w) A (getAttr (.ref a) (Str.ofString "end") true) Q E ⟨h, g, d, t, os⟩ := by
  refine ua_attr ua_end hx (by decide +kernel) (fun A t => ?_)
  unfold Builtin.«UnicodeDecodeError.end» sizeGet
  refine wpAny_bind (w_mem hx ?_)
  wp_walk
  exact ⟨_, rfl, (by intro id; simp), k _ _⟩
end
end Mine

namespace Mine
open PySem PySem.W PyProof.Rows PySem.Calls PyProof.Rows.TI
set_option maxRecDepth 100000
set_option linter.unusedVariables false
section
variable {prog : Program} {w : World} {A : Around} {E : Value → Shared → Prop} {h₀ h h' : Heap} {L : Addr} {m mg mb : Str → Option Value} {news new frs : List (Addr × Obj)}
  {g : Array GenState} {d : Drawn} {t : Nat} {o : OsState} {env : Env} {l : List Env} {name : Str} {scope : Scope} {a e T : Addr} {cd : Value} {cls : String} {vs ts : Array Value}
/-- the name of a clause goes -/
theorem nameGoes {n : Str} {pos : Pos} {Q : Unit → Shared → Prop} (C : Cx h₀ L h m news) (k : ∀ h' t' m', Cx h₀ L h' m' news → Q () ⟨h', g, d, t', o⟩)
    (hL : env.locals = L := by kernel_rfl) (hl : env.kindOf n = some .local := by kernel_rfl)
    (hp : (env.scope.kind == .class || (env.scope.kind == .module && env.locals != env.globals)) = false := by kernel_rfl) :
    wpAny (model prog w) A (do bindName env n .none; unbindBehindTheSuite env n pos) Q E ⟨h, g, d, t, o⟩ := by
  subst hL
  refine wpAny_nameGoes hl C.fr.ns hp (fun h' m' hn hs => k h' _ m' ⟨C.fr.set hn hs, fun p hp => ?_, C.low, C.nod⟩)
  exact (hs.2 p.1 (C.low p hp).2).trans (C.get p hp)
/-- what a caller sees of two new objects, one of them a fault that came out of a callee -/
theorem Cx.addX2 {ob ob' : Obj} (C : Cx h₀ L h m (new ++ frs)) (k : KpX (L :: frs.map (·.1)) h h') (he : h.get? e = none) (hT : h.get? T = none) (hne : e ≠ T) (ge : h'.get? e = some ob) (gT : h'.get? T = some ob') :
    ∃ frs', SameUp frs frs' ∧ Cx h₀ L h' m ((T, ob') :: (e, ob) :: (new ++ frs')) := by
  obtain ⟨frs', SU, C'⟩ := Cx.grownX C k
  refine ⟨frs', SU, ?_⟩
  have fe := C.free he
  have fT := C.free hT
  have hmap : (new ++ frs').map (·.1) = (new ++ frs).map (·.1) := by rw [List.map_append, List.map_append, sameUp_addrs SU]
  refine ⟨C'.fr, ?_, ?_, ?_⟩
  · intro p hp
    rcases List.mem_cons.mp hp with rfl | hp
    · exact gT
    · rcases List.mem_cons.mp hp with rfl | hp
      · exact ge
      · exact C'.get p hp
  · intro p hp
    rcases List.mem_cons.mp hp with rfl | hp
    · exact ⟨fT.1, fT.2.1⟩
    · rcases List.mem_cons.mp hp with rfl | hp
      · exact ⟨fe.1, fe.2.1⟩
      · exact C'.low p hp
  · rw [List.map_cons, List.map_cons, hmap]
    refine List.nodup_cons.mpr ⟨?_, List.nodup_cons.mpr ⟨fe.2.2, C.nod⟩⟩
    intro hm
    rcases List.mem_cons.mp hm with q | q
    · exact hne q.symm
    · exact fT.2.2 q
theorem Cx.addX1 {ob : Obj} (C : Cx h₀ L h m (new ++ frs)) (k : KpX (L :: frs.map (·.1)) h h') (he : h.get? e = none) (ge : h'.get? e = some ob) :
    ∃ frs', SameUp frs frs' ∧ Cx h₀ L h' m ((e, ob) :: (new ++ frs')) := by
  obtain ⟨frs', SU, C'⟩ := Cx.grownX C k
  refine ⟨frs', SU, ?_⟩
  have fe := C.free he
  have hmap : (new ++ frs').map (·.1) = (new ++ frs).map (·.1) := by rw [List.map_append, List.map_append, sameUp_addrs SU]
  refine ⟨C'.fr, ?_, ?_, ?_⟩
  · intro p hp
    rcases List.mem_cons.mp hp with rfl | hp
    · exact ge
    · exact C'.get p hp
  · intro p hp
    rcases List.mem_cons.mp hp with rfl | hp
    · exact ⟨fe.1, fe.2.1⟩
    · exact C'.low p hp
  · rw [List.map_cons, hmap]
    exact List.nodup_cons.mpr ⟨fe.2.2, C.nod⟩
/-- the base of a callee's frame, where the frames below may change -/
theorem Cx.under_kp (C : Cx h₀ L h m (new ++ frs)) : Kp h₀ (gone h (L :: frs.map (·.1))) := by
  intro b ob e
  refine (gone_get ?_).trans (C.keep b ob e)
  intro hb
  rcases List.mem_cons.mp hb with rfl | hb
  · rw [C.L0] at e; cases e
  · obtain ⟨p, hp, rfl⟩ := List.mem_map.mp hb
    rw [(C.low p (List.mem_append_right _ hp)).1] at e; cases e
/-- caught by «except UnicodeDecodeError as fault» -/
theorem caught_as {n : Str} {b₀ : Stmt} {suite : List Stmt} {pos np : Pos} {rest : List ExceptHandler} {Q : Flow → Shared → Prop} {lm : List (Str × Value)} {a1 a3 a4 a5 a6 b1 b2 b3 b4 b5 : Value}
    (C : Cx h₀ L h (lk lm m) ((T, excOb "traceback" ts) :: (e, excOb "UnicodeDecodeError" #[a1, .ref T, a3, a4, a5, a6, b1, b2, b3, b4, b5]) :: (new ++ frs))) (h3 : ts[3]? = some .none) (G : Gl mg mb h₀) (hfr : A.frames = some l) (Fs : Frs l frs)
    (hn : mg (Str.ofString "UnicodeDecodeError") = none)
    (k : ∀ h'' frs' v1 t', SameUp frs frs' → Frs l frs' → Cx h₀ L h'' (lk ((n, .ref e) :: lm) m) ((e, excOb "UnicodeDecodeError" #[a1, v1, a3, a4, a5, a6, b1, b2, b3, b4, b5]) :: (new ++ frs')) →
      wpAny (model prog w) ((A.deeper (envOf name scope L a cd)).mark (some (.ref e))) (execs (b₀ :: suite) (envOf name scope L a cd))
        (fun f s₄ => ∃ h₄ t₄ m₄ news₄, s₄ = ⟨h₄, g, d, t₄, o⟩ ∧ Cx h₀ L h₄ m₄ news₄ ∧ ∀ h₅ t₅ m₅, Cx h₀ L h₅ m₅ news₄ → Q f ⟨h₅, g, d, t₅, o⟩) (fun _ _ => False) ⟨h'', g, d, t', o⟩)
    (hk : scope.kind = .function := by kernel_rfl) (hxk : (envOf name scope L a cd).kindOf (Str.ofString "UnicodeDecodeError") = some .globalImplicit := by kernel_rfl)
    (hl : (envOf name scope L a cd).kindOf n = some .local := by kernel_rfl)
    (hp : ((envOf name scope L a cd).scope.kind == .class || ((envOf name scope L a cd).scope.kind == .module && (envOf name scope L a cd).locals != (envOf name scope L a cd).globals)) = false := by kernel_rfl) :
    wpAny (model prog w) (A.deeper (envOf name scope L a cd)) (noteFrame (.ref e) (envOf name scope L a cd))
      (fun _ s₂ => wpAny (model prog w) (A.deeper (envOf name scope L a cd)) (setFlight (.ref e) none) (fun _ s₃ =>
        wpAny (model prog w) (A.deeper (envOf name scope L a cd)) (handleBy (.ref e) (envOf name scope L a cd) (.ExceptHandler (some (.Name (Str.ofString "UnicodeDecodeError") np)) (some n) (b₀ :: suite) pos :: rest)) Q E s₃) E s₂) E ⟨h, g, d, t, o⟩ := by
  refine noteC2 C hfr Fs rfl h3 ?_ hk
  clear C
  intro h1 frs1 T1 ts1 SU Fs1 h31 C
  refine landC C rfl (Array.getElem?_eq_some_iff.mp h31).1 ?_
  clear C
  intro h2 ts2 h32 C
  refine wpAny_handleBy_builtin_as (X := "UnicodeDecodeError") (T := "UnicodeDecodeError") (b := true) (isSubtype_of_subB (by decide +kernel)) (isSubtype_of_subB (by decide +kernel)) (isSubtype_of_subB (by decide +kernel))
    (nm_b C G hn bb_UDE ⟨rfl, ⟨_, C.get _ (.tail _ (.head _)), rfl⟩, ?_⟩ hxk hk)
  rw [if_pos rfl]
  refine landC C rfl (Array.getElem?_eq_some_iff.mp h32).1 ?_
  clear C
  intro h4 ts4 _ C
  refine st_l C ?_ rfl hl hp
  clear C
  intro h5 t5 C
  refine wpAny_mono (k h5 frs1 _ t5 SU Fs1 (C.sub (List.sublist_cons_self _ _))) (fun f s₄ q => ?_) (fun _ _ x => x.elim)
  obtain ⟨h₄, t₄, m₄, news₄, rfl, C₄, q⟩ := q
  exact nameGoes C₄ (fun h' t' m' C' => q h' t' m' C') rfl hl hp
end
end Mine

namespace Mine
open PySem PySem.W PyProof.Rows PySem.Calls
set_option maxRecDepth 100000
set_option linter.unusedVariables false
theorem slot_bytes_ga : Slot "bytes" "__getattribute__" "bytes.__getattribute__" :=
  .of (owner := "bytes") (n := "__getattribute__") (by rw [typeLookup_type, builtinLookup_eq_fast]; kernel_rfl) (by decide +kernel) (by decide +kernel) (by decide +kernel)
    (by first | exact .inl (by decide +kernel) | exact .inr (by decide +kernel)) (by rw [isSubtype_type]; kernel_rfl)
theorem entry_bytes_ga : entryFor table "bytes.__getattribute__" = some Builtin.«object.__getattribute__» :=
  entryFor_alias (id' := "object.__getattribute__") (by kernel_rfl) (by first | rfl | decide +kernel) (by decide +kernel) (by kernel_rfl)
theorem args_bytes_ga (a b : Value) : argsOk "bytes.__getattribute__" ⟨[a, b], []⟩ := by unfold argsOk; kernel_rfl
theorem lk_bytes_class : typeLookup (.type "bytes") "__class__" = pure (some (.builtin "object.__class__")) := by rw [typeLookup_type, builtinLookup_eq_fast]; kernel_rfl
theorem sub_bytes_class_owner : isSubtype (.type "bytes") (.type (".".intercalate ("object.__class__".cutAt '.').dropLast)) = pure true := by
  rw [F.owner_object_class, isSubtype_type]; kernel_rfl
section
variable {prog : Program} {w : World} {A : Around} {E : Value → Shared → Prop} {h : Heap} {g : Array GenState} {d : Drawn} {t : Nat} {os : OsState} {x : Array UInt8} {u : Tok}
theorem class_get_bytes {R : Result → Shared → Prop} (hq : R (.ok (.ret (.type "bytes"))) ⟨h, g, d, t, os⟩) :
    codeAny (model prog w) A (.call (.builtin "getset_descriptor.__get__") ⟨[.builtin "object.__class__", .bytes x u, .type "bytes"], []⟩) R ⟨h, g, d, t, os⟩ := by
  have hT : (⟨h, g, d, t, os⟩ : Shared).TypeIs (.bytes x u) "bytes" := rfl
  have hT5 : (⟨h, g, d, t, os⟩ : Shared).TypeIs (.builtin "object.__class__") "getset_descriptor" := F.typeOf_object_class
  have f8 := sub_bytes_class_owner
  refine codeAny_call_builtin F.slot_gs_get.plain F.entry_gs_get (F.slot_gs_get.check _ _ _ _ _ _ _ _ hT5 (F.args_gs_get _ _ _) ?_)
  repeat (any_goals (first | assumption | wp_step))
  refine ⟨Code.quiet_builtin _ (by decide +kernel), codeAny_builtin F.entry_object_class ?_⟩
  repeat (any_goals (first | assumption | wp_step))
theorem class_entry_bytes {tk : Tok} {Q : Fin → Shared → Prop} (hq : Q (.done (.ret (.type "bytes"))) ⟨h, g, d, t, os⟩) :
    wpAny (model prog w) A (Builtin.«object.__getattribute__» ⟨[.bytes x u, .str "__class__" tk], []⟩) Q E ⟨h, g, d, t, os⟩ := by
  have hT : (⟨h, g, d, t, os⟩ : Shared).TypeIs (.bytes x u) "bytes" := rfl
  have hT5 : (⟨h, g, d, t, os⟩ : Shared).TypeIs (.builtin "object.__class__") "getset_descriptor" := F.typeOf_object_class
  have f4 := lk_bytes_class
  have f5 := F.typeOf_object_class
  have f6 := F.slot_gs_get.lookup
  have f7 := F.slot_gs_set.lookup
  repeat (any_goals (first | assumption | wp_step))
  refine class_get_bytes ?_
  repeat (any_goals (first | assumption | wp_step))
theorem class_call_bytes {tk : Tok} {R : Result → Shared → Prop} (hq : R (.ok (.ret (.type "bytes"))) ⟨h, g, d, t, os⟩) :
    codeAny (model prog w) A (.call (.builtin "bytes.__getattribute__") ⟨[.bytes x u, .str "__class__" tk], []⟩) R ⟨h, g, d, t, os⟩ :=
  codeAny_call_builtin slot_bytes_ga.plain entry_bytes_ga (slot_bytes_ga.check _ _ _ _ _ _ _ _ (show (⟨h, g, d, t, os⟩ : Shared).TypeIs (.bytes x u) "bytes" from rfl) (args_bytes_ga _ _) (class_entry_bytes hq))
theorem class_by_bytes {tk : Tok} {Q : Value → Shared → Prop} (hq : Q (.type "bytes") ⟨h, g, d, t, os⟩) : wpAny (model prog w) A (getAttrBy (.bytes x u) (.str "__class__" tk) false) Q E ⟨h, g, d, t, os⟩ := by
  have hT : (⟨h, g, d, t, os⟩ : Shared).TypeIs (.bytes x u) "bytes" := rfl
  have f2 := slot_bytes_ga.lookup
  have f3 := slot_bytes_ga.bind (.bytes x u)
  repeat (any_goals (first | assumption | wp_step))
  refine class_call_bytes ?_
  repeat (any_goals (first | assumption | wp_step))
theorem class_attr_bytes {Q : Option Value → Shared → Prop} (hq : Q (some (.type "bytes")) ⟨h, g, d, t + 1, os⟩) : wpAny (model prog w) A (getAttr? (.bytes x u) "__class__") Q E ⟨h, g, d, t, os⟩ := by
  unfold getAttr? getAttrBy?
  repeat (any_goals (first | assumption | with_reducible apply class_by_bytes | wp_step))
set_option maxHeartbeats 1000000 in
theorem isi_nested_bytes {T : String} {dep : Int} {tk : Tok} {Q : Fin → Shared → Prop} (hne : (Value.type "bytes" == Value.type T) = false) (hty : typeOf (.type T) = pure (.type "type"))
    (hsub : isSubtype (.type "bytes") (.type T) = pure false) (hq : Q (.done (.ret (.bool false))) ⟨h, g, d, t + 1, os⟩) :
    wpAny (model prog w) A (Builtin.«isinstance.nested» ⟨[.bytes x u, .type T, .int dep tk], []⟩) Q E ⟨h, g, d, t, os⟩ := by
  have hT : (⟨h, g, d, t, os⟩ : Shared).TypeIs (.bytes x u) "bytes" := rfl
  repeat (any_goals (first | assumption | with_reducible apply class_attr_bytes | wp_step))
theorem r_isiB {Q : Value → Shared → Prop} (k : ∀ t', Q (.bool false) ⟨h, g, d, t', os⟩) : wpAny (model prog w) A (call (.builtin "isinstance") [.bytes x u, .type "bool"]) Q E ⟨h, g, d, t, os⟩ := by
  have g1 : Meets (Builtin.«isinstance» ⟨[.bytes x u, .type "bool"], []⟩) (fun _ R s => R (.ok (.ret (.bool false))) { s with toks := s.toks + 1 }) := fun _ _ _ _ s hs => by
    obtain ⟨h, g, d, t, os⟩ := s
    exact isinstance_outer (isi_nested_bytes (by decide +kernel) F.isi_meta_bool (by rw [isSubtype_type]; kernel_rfl) hs)
  exact call_isinstance g1 (k _)
theorem r_isiS {x : Str} {Q : Value → Shared → Prop} (k : ∀ t', Q (.bool false) ⟨h, g, d, t', os⟩) : wpAny (model prog w) A (call (.builtin "isinstance") [.str x u, .type "bool"]) Q E ⟨h, g, d, t, os⟩ := IsiPair.str_bool (k _)
end
end Mine

namespace Mine
open PySem PySem.W PyProof.Rows PySem.Calls PySem.SeqAt
set_option maxRecDepth 100000
set_option linter.unusedVariables false
/-- the same but for the tokens -/
inductive SameV : Value → Value → Prop
  | int (i : Int) (t u : Tok) : SameV (.int i t) (.int i u)
  | str (x : Str) (t u : Tok) : SameV (.str x t) (.str x u)
  | bytes (b : Array UInt8) (t u : Tok) : SameV (.bytes b t) (.bytes b u)
  | none : SameV .none .none
inductive SameL : List Value → List Value → Prop
  | nil : SameL [] []
  | cons {a b as bs} : SameV a b → SameL as bs → SameL (a :: as) (b :: bs)
theorem SameL.len {as bs : List Value} (h : SameL as bs) : as.length = bs.length := by
  induction h with
  | nil => rfl
  | cons _ _ ih => simp [ih]
theorem SameL.at {as bs : List Value} (h : SameL as bs) (j : Nat) (h1 : j < as.length) (h2 : j < bs.length) : SameV as[j] bs[j] := by
  induction h generalizing j with
  | nil => simp at h1
  | cons h _ ih => cases j with
    | zero => exact h
    | succ j => simpa using ih j (by simpa using h1) (by simpa using h2)
section
variable {prog : Program} {w : World} {A : Around} {E : Value → Shared → Prop} {h₀ h : Heap} {L : Addr} {m mg mb : Str → Option Value} {news news' : List (Addr × Obj)}
  {g : Array GenState} {d : Drawn} {t : Nat} {o : OsState} {env : Env} {Q : Value → Shared → Prop} {x y : Addr}
theorem SameV.eqAt {s : Shared} {a b : Value} (h : SameV a b) : EqAt A s a b true := by
  cases h with
  | int i t u => simpa using EqAt.int_int (A := A) (s := s) i t i u
  | str x t u => simpa using EqAt.str_str (A := A) (s := s) x t x u
  | bytes b t u => exact fun prog w E Q h => eqBool_bytes (by simpa using h)
  | none => exact EqAt.same _
theorem all_true (n : Nat) : (List.range n).all (fun _ => true) = true := by simp
theorem r_neT {vs ws : List Value} (hx : h.get? x = some (tup vs)) (hy : h.get? y = some (tup ws)) (hs : SameL vs ws) (hu : A.units + 64 < cLine) (k : Q (.bool false) ⟨h, g, d, t, o⟩) :
    wpAny (model prog w) A (compareOp .NotEq (.ref x) (.ref y)) Q E ⟨h, g, d, t, o⟩ := by
  have hl := hs.len
  refine RcNeAt.tuples (s := ⟨h, g, d, t, o⟩) (items := vs.toArray) (items2 := ws.toArray) (e := fun _ => true) ⟨_, hx, rfl, 0, rfl⟩ ⟨_, hy, rfl, 0, rfl⟩ (by omega) (fun j h1 h2 => ?_) prog w E Q ?_
  · have := hs.at j (by simpa using h1) (by simpa using h2)
    simpa using this.eqAt
  · rw [all_true]
    simpa [hl] using k
theorem r_eqT {vs ws : List Value} (hx : h.get? x = some (tup vs)) (hy : h.get? y = some (tup ws)) (hs : SameL vs ws) (hu : A.units + 64 < cLine) (k : Q (.bool true) ⟨h, g, d, t, o⟩) :
    wpAny (model prog w) A (compareOp .Eq (.ref x) (.ref y)) Q E ⟨h, g, d, t, o⟩ := by
  have hl := hs.len
  refine eq_tupleAt (s := ⟨h, g, d, t, o⟩) (items := vs.toArray) (items2 := ws.toArray) (e := fun _ => true) ⟨_, hx, rfl, 0, rfl⟩ ⟨_, hy, rfl, 0, rfl⟩ (by omega) (fun j h1 h2 => ?_) ?_
  · have := hs.at j (by simpa using h1) (by simpa using h2)
    simpa using this.eqAt
  · rw [all_true]
    simpa [hl] using k
theorem in_fin : ∀ i : Fin 256, Txt.contains SIGNS ⟨#[i.val]⟩ = decide (0 ≤ fig i.val) := by decide +kernel
theorem idx_fin : ∀ i : Fin 256, 0 ≤ fig i.val → (Builtin.Str.occurrences SIGNS ⟨#[i.val]⟩ 0 SIGNS.length 1).head? = some (fig i.val).toNat := by decide +kernel
theorem r_in {c : Int} {tx ty : Tok} (h0 : 0 ≤ c) (h1 : c < 256) (k : Q (.bool (decide (0 ≤ fig c))) ⟨h, g, d, t, o⟩) : wpAny (model prog w) A (compareOp .In (.str ⟨#[c.toNat]⟩ ty) (.str SIGNS tx)) Q E ⟨h, g, d, t, o⟩ := by
  refine SB.contains ?_
  have := in_fin ⟨c.toNat, by omega⟩
  have e : ((c.toNat : Nat) : Int) = c := by omega
  rw [e] at this
  rw [this]; exact k
theorem r_notIn {c : Int} {tx ty : Tok} (h0 : 0 ≤ c) (h1 : c < 256) (k : Q (.bool (decide (fig c < 0))) ⟨h, g, d, t, o⟩) : wpAny (model prog w) A (compareOp .NotIn (.str ⟨#[c.toNat]⟩ ty) (.str SIGNS tx)) Q E ⟨h, g, d, t, o⟩ := by
  refine SB.notContains ?_
  have := in_fin ⟨c.toNat, by omega⟩
  have e : ((c.toNat : Nat) : Int) = c := by omega
  rw [e] at this
  rw [this]
  have e2 : (!decide (0 ≤ fig c)) = decide (fig c < 0) := by
    by_cases hc : 0 ≤ fig c
    · simp [hc]
    · simp [hc]; omega
  rw [e2]; exact k
theorem r_getIndex {pl : Sem Bool} {x : Str} {tx : Tok} {Q : Value × List Value → Shared → Prop} (k : Q (.builtin "str.index", [.str x tx]) ⟨h, g, d, t, o⟩) :
    wpAny (model prog w) A (getMethod (.str x tx) (Str.ofString "index") pl) Q E ⟨h, g, d, t, o⟩ :=
  PySem.GM.of (.str x tx) (typeIs_str _ _ _) F.slot_str_index F.type_str_index PySem.GM.noRef k
theorem r_index {c : Int} {tx ty : Tok} (h0 : 0 ≤ c) (h1 : c < 256) (hf : 0 ≤ fig c) (k : ∀ t' tr, Q (.int (fig c) tr) ⟨h, g, d, t', o⟩) : wpAny (model prog w) A (call (.builtin "str.index") [.str SIGNS tx, .str ⟨#[c.toNat]⟩ ty]) Q E ⟨h, g, d, t, o⟩ := by
  have e : ((c.toNat : Nat) : Int) = c := by omega
  have := idx_fin ⟨c.toNat, by omega⟩ (by show 0 ≤ fig (c.toNat : Int); rw [e]; exact hf)
  replace this : (Builtin.Str.occurrences SIGNS ⟨#[c.toNat]⟩ 0 SIGNS.length 1).head? = some (fig (c.toNat : Int)).toNat := this
  rw [e] at this
  cases hocc : Builtin.Str.occurrences SIGNS ⟨#[c.toNat]⟩ 0 SIGNS.length 1 with
  | nil => rw [hocc] at this; cases this
  | cons i rest =>
    rw [hocc] at this
    have hi : i = (fig c).toNat := by simpa using this
    refine call_gives F.slot_str_index (typeIs_str _ _ _) F.entry_str_index (F.args_str_index_2 _ _) (gives_str_index _ _ _ _ i rest hocc) ?_
    have e2 : ((i : Nat) : Int) = fig c := by omega
    show Q (.int (i : Int) _) _
    rw [e2]
    exact k _ _
theorem r_strI {c : Int} {tc : Tok} (h0 : 0 ≤ c) (h1 : c < 256) (k : ∀ t' tr, Q (.str (Str.ofString (toString c)) tr) ⟨h, g, d, t', o⟩) : wpAny (model prog w) A (call (.type "str") [.int c tc]) Q E ⟨h, g, d, t, o⟩ :=
  P.str_of_int (words_log h0 h1) (k _ _)
theorem r_addS {x y : Str} {tx ty : Tok} (hz : x.length + y.length ≤ 1000) (k : ∀ t' tr, Q (.str (x ++ y) tr) ⟨h, g, d, t', o⟩) : wpAny (model prog w) A (binaryOp .Add (.str x tx) (.str y ty)) Q E ⟨h, g, d, t, o⟩ :=
  SB.add (fun t' k' => k k' t') (by have : (1000 : Nat) ≤ sizeLine := by decide
                                    omega)
theorem r_lenT {vs : List Value} (hx : h.get? x = some (tup vs)) (hz : vs.length ≤ 1000) (k : ∀ t' tr, Q (.int vs.length tr) ⟨h, g, d, t', o⟩) : wpAny (model prog w) A (call (.builtin "len") [.ref x]) Q E ⟨h, g, d, t, o⟩ := by
  refine PyProof.Rows.len_tuple (s := ⟨h, g, d, t, o⟩) (items := vs.toArray) ⟨_, hx, rfl, 0, rfl⟩ (by simp; omega) ?_
  simpa using k _ _
end
end Mine

namespace Mine
open PySem PySem.W PyProof.Rows PySem.Calls
set_option maxRecDepth 100000
set_option linter.unusedVariables false
section
variable {prog : Program} {w : World} {A : Around} {E : Value → Shared → Prop} {h₀ h : Heap} {L : Addr} {m : Str → Option Value} {news : List (Addr × Obj)}
  {g : Array GenState} {d : Drawn} {t : Nat} {o : OsState} {env : Env} {Q : Flow → Shared → Prop}
/-- the loop behind its list -/
def LoopOn (M : Model) (A : Around) (env : Env) (x : Str) (px : Pos) (body : List Stmt) (Q : Flow → Shared → Prop) (E : Value → Shared → Prop) (v : Value) (s : Shared) : Prop :=
  wpAny M A (pyIter v) (fun it s₂ => codeAny M A (.forLoop (.Name x px) it body [] env) (fun r s' => match r with | .ok f => Q f s' | .error e => cameBackBy M A env E e s') s₂) E s
theorem r_forD {x : Str} {px pos : Pos} {iter : Expr} {body : List Stmt} (k : wpAny (model prog w) A (eval iter env) (LoopOn (model prog w) A env x px body Q E) E ⟨h, g, d, t, o⟩)
    (hs : ∀ x, foldedSetIterable iter env x = pure x := by intro _; kernel_rfl) :
    wpAny (model prog w) A (exec (.For (.Name x px) iter body [] pos) env) Q E ⟨h, g, d, t, o⟩ := wpAny_For k hs
theorem r_iterL {x : Str} {px : Pos} {body : List Stmt} {l : Addr} (C : Cx h₀ L h m news) (Inv : Nat → (Str → Option Value) → List (Addr × Obj) → Prop) {items : List Value} {lo : Obj}
    (hlo : lo.cls = .type "list") (hli : ∃ n, lo.data = .seq items.toArray n)
    (hh : A.handled = none)
    (hI : Inv 0 m news)
    (hstay : ∀ i h m news, Cx h₀ L h m news → Inv i m news → h.get? l = some lo)
    (turn : ∀ (i : Nat) (v : Value) (it : Addr) (io : Obj) h t m news, items[i]? = some v → Cx h₀ L h (lk [(x, v)] m) ((it, io) :: news) → Inv i m news →
      wpAny (model prog w) A (execs body env) (TurnF h₀ L g d o Inv it io i Q) (fun _ _ => False) ⟨h, g, d, t, o⟩)
    (done : ∀ h t m news, Cx h₀ L h m news → Inv items.length m news → Q .next ⟨h, g, d, t, o⟩)
    (hL : env.locals = L := by kernel_rfl) (hl : env.kindOf x = some .local := by kernel_rfl)
    (hp : (env.scope.kind == .class || (env.scope.kind == .module && env.locals != env.globals)) = false := by kernel_rfl) :
    LoopOn (model prog w) A env x px body Q E (.ref l) ⟨h, g, d, t, o⟩ := by
  have isl : ∀ (l : Addr) (h : Heap), h.get? l = some lo → h.IsList l items.toArray := fun l h e => by
    obtain ⟨n, q⟩ := hli
    exact ⟨lo, e, hlo, n, q⟩
  refine wpAny_pyIter_list (isl _ _ (hstay _ _ _ _ C hI)) ?_
  refine codeAny_forLoop (fun n s => ∃ (h2 : Heap) (t : Nat) (m : Str → Option Value) (news : List (Addr × Obj)) (i : Nat) (io : Obj), s = ⟨h2, g, d, t, o⟩ ∧ Cx h₀ L h2 m news ∧ Cx h₀ L h2 m ((h.objs.size, io) :: news) ∧ h2.IsListIter h.objs.size l i ∧ Inv i m news ∧ i + n = items.length) ?_ items.length ⟨_, t, m, news, 0, _, rfl, C.grown (Kp.push _ _), C.push _, ⟨_, Heap.get?_push_size _ rfl, rfl, rfl⟩, hI, by omega⟩
  rintro n s ⟨h2, t, m, news, i, io, rfl, C0, C, hit, hI, hn⟩
  cases hx : items[i]? with
  | none =>
    refine wpAny_pyNext_list_end hh hit (isl _ _ (hstay _ _ _ _ C0 hI)) (by simpa using hx) (fun h' hx' => ?_)
    refine wpAny_pure ?_
    have : i = items.length := by
      have := List.getElem?_eq_none_iff.mp hx
      omega
    subst this
    exact done _ _ _ _ (C.ext hx') hI
  | some v =>
    refine wpAny_pyNext_list_item hit (isl _ _ (hstay _ _ _ _ C0 hI)) (by simpa using hx) (fun h' hit' hs' => ?_)
    obtain ⟨io', g1, g2, g3⟩ := id hit'
    have hlt : i < items.length := (List.getElem?_eq_some_iff.mp hx).1
    have C' := C.upd0 hs' g1
    refine bound ?_
    refine st_l (l := []) C' (fun h₂ t' C₂ => ?_) hL hl hp
    refine wpAny_mono (turn i v _ io' h₂ t' m news hx C₂ hI) (fun f s₃ q => ?_) (fun _ _ x => x.elim)
    cases f with
    | next =>
      obtain ⟨h, t, m, news, e, C, hI⟩ := q
      exact ⟨n - 1, by omega, h, t, m, news, i + 1, io', e, C.sub (List.sublist_cons_self _ _), C, ⟨io', C.get _ (.head _), g2, g3⟩, hI, by omega⟩
    | cont =>
      obtain ⟨h, t, m, news, e, C, hI⟩ := q
      exact ⟨n - 1, by omega, h, t, m, news, i + 1, io', e, C.sub (List.sublist_cons_self _ _), C, ⟨io', C.get _ (.head _), g2, g3⟩, hI, by omega⟩
    | brk => exact q
    | ret v => exact q
end
end Mine

namespace Mine
open PySem PySem.W PyProof.Rows PySem.Calls
set_option maxRecDepth 100000
set_option linter.unusedVariables false
/-- no decoder that holds a buffer -/
def NHc : Code → Bool
  | .builtin id _ => !Builtin.Bytes.decodersThatHold.contains id
  | _ => true
def NH (l : List (Code × Pos)) : Prop := ∀ x ∈ l, NHc x.1 = true
def wpC {α : Type} (M : Model) (A : Around) (t : Sem α) (Q : α → Shared → Prop) (E : Value → Shared → Prop) (s : Shared) : Prop :=
  ∀ Γ p, Γ.In A → NHc Γ.code = true → NH Γ.below → Sem.wp M Γ t (fun a _ s' => Q a s') (fun e _ s' => E e s') p s
def codeC (M : Model) (A : Around) (c : Code) (R : Result → Shared → Prop) (s : Shared) : Prop :=
  ∀ Γ p, Γ.code = c → Γ.Below A → NH Γ.below → wpCode M Γ R p s
section
variable {α β : Type} {M : Model} {A : Around} {E : Value → Shared → Prop} {s : Shared}
theorem wpC_of {t : Sem α} {Q : α → Shared → Prop} (h : wpAny M A t Q E s) : wpC M A t Q E s := fun Γ p hΓ _ _ => h Γ p hΓ
theorem wpC_pure {a : α} {Q : α → Shared → Prop} (h : Q a s) : wpC M A (pure a) Q E s := fun _ _ _ _ _ => h
theorem wpC_mono {t : Sem α} {Q Q' : α → Shared → Prop} {E' : Value → Shared → Prop} (h : wpC M A t Q E s) (hQ : ∀ a s, Q a s → Q' a s) (hE : ∀ e s, E e s → E' e s) : wpC M A t Q' E' s :=
  fun Γ p hΓ h1 h2 => Sem.wp_mono M Γ t (fun a _ s => hQ a s) (fun e _ s => hE e s) p s (h Γ p hΓ h1 h2)
theorem wpC_bind {m : Sem α} {f : α → Sem β} {Q : β → Shared → Prop} (h : wpC M A m (fun a s' => wpC M A (f a) Q E s') E s) : wpC M A (m >>= f) Q E s := fun Γ p hΓ h1 h2 => by
  rw [Sem.wp_bind']
  exact Sem.wp_mono M Γ m (fun a p' s' h' => h' Γ p' hΓ h1 h2) (fun _ _ _ h' => h') p s (h Γ p hΓ h1 h2)
theorem wpC_onRaise {m : Sem α} {k : Value → Sem Unit} {Q : α → Shared → Prop} (h : wpC M A m Q (fun _ _ => False) s) : wpC M A (m.onRaise k) Q E s := fun Γ p hΓ h1 h2 => by
  rw [Sem.wp_onRaise]
  exact Sem.wp_mono M Γ m (fun _ _ _ h' => h') (fun e p' s' h' => h'.elim) p s (h Γ p hΓ h1 h2)
theorem wpC_holding {vs : List Value} {m : Sem α} {Q : α → Shared → Prop} (h : wpC M A m Q E s) : wpC M A (holding vs m) Q E s :=
  fun Γ p hΓ h1 h2 => by rw [Sem.wp_holding]; exact h Γ p hΓ h1 h2
theorem wpC_standAt {pos : Pos} {Q : Unit → Shared → Prop} (h : Q () s) : wpC M A (standAt pos) Q E s := wpC_of (wpAny_standAt h)
theorem wpC_runValue {c : Code} {Q : Value → Shared → Prop}
    (hc : codeC M A c (fun r s' => match r with | .ok (.ret v) => Q v s' | .ok _ => False | .error e => E e s') s) : wpC M A (runValue c) Q E s := fun Γ p hΓ h1 h2 => by
  rw [Sem.wp_runValue]
  refine hc _ p rfl (hΓ.enter c none p (by intro x; cases x)) ?_
  intro x hx
  rcases List.mem_cons.mp hx with rfl | hx
  · exact h1
  · exact h2 x hx
theorem wpC_run {c : Code} {Q : Flow → Shared → Prop}
    (hc : codeC M A c (fun r s' => match r with | .ok f => Q f s' | .error e => E e s') s) : wpC M A (run c none) Q E s := fun Γ p hΓ h1 h2 => by
  rw [Sem.wp_run]
  refine hc _ p rfl (hΓ.enter c none p (by intro x; cases x)) ?_
  intro x hx
  rcases List.mem_cons.mp hx with rfl | hx
  · exact h1
  · exact h2 x hx
theorem wpC_call {f : Value} {pos : List Value} {kw : List (Str × Value)} {Q : Value → Shared → Prop}
    (hc : codeC M A (.call f ⟨pos, kw⟩) (fun r s' => match r with | .ok (.ret v) => Q v s' | .ok _ => False | .error e => E e s') s) : wpC M A (call f pos kw) Q E s := wpC_runValue hc
theorem codeC_of_tree {c : Code} {R : Result → Shared → Prop} (hn : NHc c = true)
    (h : wpC M (A.under c) (M.den c) (fun fin s' => match fin with | .done f => R (.ok f) s' | .again c' => c'.quiet = true ∧ codeC M A c' R s') (fun e s' => R (.error e) s') s) : codeC M A c R s := fun Γ p hc hΓ hb => by
  rw [wpCode_iff_wp, hc]
  refine Sem.wp_mono M Γ _ (fun fin p' s' h' => ?_) (fun _ _ _ h' => h') p s (h Γ p (hc ▸ hΓ.in) (by rw [hc]; exact hn) hb)
  cases fin with
  | done f => exact h'
  | again c' => exact ⟨h'.1, h'.2 (Γ.goto c') p' rfl (hΓ.goto c') hb⟩
theorem codeC_of {c : Code} {R : Result → Shared → Prop} (h : codeAny M A c R s) : codeC M A c R s := fun Γ p hc hΓ _ => h Γ p hc hΓ
theorem codeC_loop {c : Code} {R : Result → Shared → Prop} (hn : NHc c = true) (hq : c.quiet = true) (I : Nat → Shared → Prop)
    (turn : ∀ n s, I n s → wpC M (A.under c) (M.den c)
      (fun fin s' => match fin with | .done f => R (.ok f) s' | .again c' => c' = c ∧ ∃ m, m < n ∧ I m s') (fun e s' => R (.error e) s') s)
    (n : Nat) (h : I n s) : codeC M A c R s := by
  induction n using Nat.strongRecOn generalizing s with
  | ind n ih =>
    refine codeC_of_tree hn (wpC_mono (turn n s h) (fun fin s' hf => ?_) fun _ _ h' => h')
    cases fin with
    | done f => exact hf
    | again c' => obtain ⟨rfl, m, hm, hI⟩ := hf; exact ⟨hq, ih m hm hI⟩
end
end Mine

namespace Mine
open PySem PySem.W PyProof.Rows PySem.Calls
set_option maxRecDepth 100000
set_option linter.unusedVariables false
section
variable {M : Model} {A : Around} {E : Value → Shared → Prop} {s : Shared} {env : Env}
theorem c_cons {st : Stmt} {rest : List Stmt} {Q : Flow → Shared → Prop} (h : wpC M A (exec st env) (fun f s' => match f with | .next => wpC M A (execs rest env) Q E s' | f => Q f s') E s) :
    wpC M A (execs (st :: rest) env) Q E s := by
  rw [execs_cons]
  refine wpC_bind (wpC_mono h (fun f s' q => ?_) fun _ _ x => x)
  cases f
  · exact q
  all_goals exact wpC_pure q
theorem c_If {test : Expr} {body orelse : List Stmt} {pos : Pos} {Q : Flow → Shared → Prop}
    (h : wpC M A (isTrue test env (eval test env)) (fun b s₂ => if b = true then wpC M A (execs body env) Q E s₂ else wpC M A (execs orelse env) Q E s₂) E s) :
    wpC M A (exec (.If test body orelse pos) env) Q E s := by
  rw [exec_If]
  refine wpC_bind (wpC_standAt (wpC_bind (wpC_mono h (fun b s' q => ?_) fun _ _ x => x)))
  cases b
  · exact q
  · exact q
theorem c_Expr {e : Expr} {pos : Pos} {Q : Flow → Shared → Prop} (h : wpC M A (eval e env) (fun v s' => match v with | .ref _ => False | _ => Q .next s') E s)
    (hi : interactive env = false := by kernel_rfl) (hs : swapsWith e none pos.line env = pure false := by kernel_rfl) : wpC M A (exec (.Expr e pos) env) Q E s := by
  rw [exec_Expr env e pos hi hs]
  refine wpC_bind (wpC_standAt (wpC_bind (wpC_mono h (fun v s' q => ?_) fun _ _ x => x)))
  have hv : ∀ a, v ≠ .ref a := fun a hva => by subst hva; exact q
  rw [dropValue_plain hv]
  refine wpC_pure ?_
  cases v <;> first | exact q | exact (hv _ rfl).elim
theorem c_Assign {x : Str} {pos' pos : Pos} {value : Expr} {Q : Flow → Shared → Prop} (h : wpC M A (eval value env) (fun v s₁ => wpAny M A (storeName env x v) (fun _ => Q .next) E s₁) E s)
    (hs : swapsWith value (some (.Name x pos')) pos.line env = pure false := by kernel_rfl) : wpC M A (exec (.Assign [.Name x pos'] value pos) env) Q E s := by
  rw [exec_Assign_Name env x pos' value pos hs]
  refine wpC_bind (wpC_standAt (wpC_bind (wpC_mono h (fun v s' q => ?_) fun _ _ x => x)))
  exact wpC_bind (wpC_standAt (wpC_bind (wpC_of (wpAny_mono (wpAny_bindName q) (fun _ _ z => wpC_pure z) fun _ _ z => z))))
theorem c_Return {e : Expr} {pos : Pos} {Q : Flow → Shared → Prop} (h : wpC M A (eval e env) (fun v => Q (.ret v)) E s) : wpC M A (exec (.Return (some e) pos) env) Q E s := by
  rw [exec_Return_some]
  exact wpC_bind (wpC_standAt (wpC_bind (wpC_mono h (fun v s' q => wpC_pure q) fun _ _ x => x)))
theorem c_isCmp {l r : Expr} {op : CmpOp} {pos : Pos} {whole : Sem Value} {Q : Bool → Shared → Prop}
    (h : wpC M A (eval l env) (fun a s₁ => wpAny M A (eval r env) (fun b s₂ => wpAny M A (compareOp op a b) (fun c s₃ => wpAny M A (truthy c) Q E s₃) E s₂) E s₁) E s)
    (hm : behindInMarks op r = false := by kernel_rfl) : wpC M A (isTrue (.Compare l [op] [r] pos) env whole) Q E s := by
  rw [isTrue_Compare1, markedBehindIn_of_false hm]
  refine wpC_bind (wpC_mono h (fun a s₁ q => wpC_of ?_) fun _ _ x => x)
  exact wpAny_bind (wpAny_holding (wpAny_mono q (fun b s₂ q => wpAny_bind (wpAny_standAt (wpAny_bind (wpAny_operating (wpAny_mono q (fun c s₃ q => wpAny_holding q) fun _ _ x => x))))) fun _ _ x => x))
theorem c_isPlain {e : Expr} {whole : Sem Value} {Q : Bool → Shared → Prop} (h : wpC M A whole (fun v s₁ => wpAny M A (truthy v) Q E s₁) E s)
    (he : isTrue e env whole = (do let v ← whole; standAt e.pos; holding [v] (truthy v)) := by kernel_rfl) : wpC M A (isTrue e env whole) Q E s := by
  rw [he]
  exact wpC_bind (wpC_mono h (fun v s₁ q => wpC_of (wpAny_bind (wpAny_standAt (wpAny_holding q)))) fun _ _ x => x)
theorem c_isNot {x : Expr} {pos : Pos} {whole : Sem Value} {Q : Bool → Shared → Prop} (h : wpC M A (isTrue x env (eval x env)) (fun c s' => Q (!c) s') E s) : wpC M A (isTrue (.UnaryOp .Not x pos) env whole) Q E s := by
  show wpC M A (do return !(← isTrue x env (eval x env))) Q E s
  exact wpC_bind (wpC_mono h (fun c s' q => wpC_pure q) fun _ _ x => x)
theorem c_isOr {x : Expr} {rest : List Expr} {pos : Pos} {whole : Sem Value} {Q : Bool → Shared → Prop}
    (h : wpC M A (isTrue x env (eval x env)) (fun c s' => if c = true then Q true s' else wpC M A (isTrue (.BoolOp .Or rest pos) env whole) Q E s') E s) : wpC M A (isTrue (.BoolOp .Or (x :: rest) pos) env whole) Q E s := by
  show wpC M A (do
    match BoolOp.Or, ← isTrue x env (eval x env) with
    | .And, false => pure false
    | .Or, true => pure true
    | _, _ => allTrue .Or rest env) Q E s
  refine wpC_bind (wpC_mono h (fun c s' q => ?_) fun _ _ x => x)
  cases c with
  | false => exact q
  | true => exact wpC_pure q
theorem c_runOwn {c : Code} {Q : Flow → Shared → Prop} (hc : codeC M A c (fun r s' => match r with | .ok f => Q f s' | .error e => False) s) : wpC M A (runOwn c env none) Q E s := by
  unfold runOwn
  refine wpC_onRaise (wpC_run ?_)
  intro Γ p h1 h2 h3
  refine wpCode_mono (fun r s' q => ?_) (hc Γ p h1 h2 h3)
  cases r with
  | ok f => exact q
  | error e => exact q.elim
theorem c_keep {α : Type} {vs : List Value} {m : Sem α} {Q : α → Shared → Prop} (h : wpC M A m Q E s) : wpC M A (m.keep vs) Q E s :=
  fun Γ p hΓ h1 h2 => by rw [Sem.wp_keep]; exact h Γ p hΓ h1 h2
theorem c_Call {func : Expr} {args : List Expr} {pos : Pos} {Q : Value → Shared → Prop}
    (h : wpAny M A (eval func env) (fun f s₁ => wpC M A (callWith pos f [] (backTo pos (starEach args env)) []) Q E s₁) E s)
    (he : eval (.Call func args [] pos) env = (do callWith pos (← eval func env) [] (backTo pos (starEach args env)) (backToKw pos (keywordEach [] env))) := by kernel_rfl) :
    wpC M A (eval (.Call func args [] pos) env) Q E s := by
  rw [he]; exact wpC_bind (wpC_of h)
theorem c_callWithB {pos : Pos} {id : String} {first : List Value} {args : List (Bool × Sem Value)} {Q : Value → Shared → Prop} (hplain : args.any (·.1) = false)
    (h : wpAny M A (evalArgs (.builtin id) true args []) (fun a s₁ => wpC M A (call (.builtin id) (first ++ a.pos) a.kw) Q E s₁) E s) :
    wpC M A (callWith pos (.builtin id) first args []) Q E s := by
  unfold callWith
  refine wpC_bind (wpC_holding (wpC_of (wpAny_mono h (fun a s₁ q => ?_) fun _ _ x => x)))
  refine wpC_bind (wpC_standAt ?_)
  simp only [hplain, List.any_nil, Bool.or_false]
  refine wpC_bind (wpC_pure ?_)
  exact wpC_bind (wpC_mono q (fun r s₂ q => wpC_bind (wpC_holding (wpC_of (wpAny_point (wpC_pure q))))) fun _ _ x => x)
theorem c_callWithF {pos : Pos} {a : Addr} {o : Obj} {fd : FuncData} {first : List Value} {args : List (Bool × Sem Value)} {Q : Value → Shared → Prop} (hplain : args.any (·.1) = false)
    (h : wpAny M A (evalArgs (.ref a) true args []) (fun x s₁ => (s₁.heap.get? a = some o ∧ o.data = .func fd) ∧ wpC M A (call (.ref a) (first ++ x.pos) x.kw) Q E s₁) E s) :
    wpC M A (callWith pos (.ref a) first args []) Q E s := by
  unfold callWith
  refine wpC_bind (wpC_holding (wpC_of (wpAny_mono h (fun x s₁ q => ?_) fun _ _ x => x)))
  refine wpC_bind (wpC_standAt ?_)
  have tail : ∀ {t : Sem Value}, wpC M A t Q E s₁ → wpC M A (t >>= fun r => holding [r] point >>= fun _ => pure r) Q E s₁ :=
    fun ht => wpC_bind (wpC_mono ht (fun r s₂ hr => wpC_bind (wpC_holding (wpC_of (wpAny_point (wpC_pure hr))))) fun _ _ x => x)
  simp only [hplain, List.any_nil, Bool.or_false]
  refine wpC_bind (m := keeperOf (.ref a)) ?_
  unfold keeperOf
  refine wpC_bind (wpC_of (wpAny_load q.1.1 ?_))
  rw [q.1.2]
  refine wpC_pure ?_
  dsimp only
  split
  · exact tail q.2
  · exact tail (by unfold callMarked; exact c_keep q.2)
end
section
variable {prog : Program} {w : World} {A : Around} {E : Value → Shared → Prop} {s : Shared} {R : Result → Shared → Prop}
theorem codeC_call {a : Addr} {args : Args} {o : Obj} {fd : FuncData} {body : List Stmt} (hroom : A.depth < recursionLimit) (ho : s.heap.get? a = some o)
    (hd' : o.data = .func fd) (hco : fd.scope.isCoroutine = false) (hgen : fd.scope.isGenerator = false) (hbody : fd.body = .stmts body) (hcd : s.heap.CodeRec fd.code fd.qualname)
    (h : wpAny (model prog w) A.in1 (bindArgs fd args) (fun binds s₁ =>
      wpAny (model prog w) A.in1 (newFunctionEnv fd.scope fd.globals fd.closure binds (fd.qualname ++ ".<locals>.") (some a) fd.code none fd.builtins)
        (fun env s₂ => s₂.heap.NoLimit ∧ codeC (model prog w) A (.func body env) R s₂) (fun e s' => R (.error e) s') s₁) (fun e s' => R (.error e) s') s) :
    codeC (model prog w) A (.call (.ref a) args) R s := by
  refine codeC_of_tree rfl (wpC_of ?_)
  show wpAny _ A.in1 (callAny (.ref a) args) _ _ s
  simp only [callAny]
  refine wpAny_bind (wpAny_load ho ?_)
  obtain ⟨c, oc, vs, tq, hc, hoc, hdc, hq⟩ := hcd
  simp only [hd', callFunction, hco, hgen, hbody, hc]
  rw [hc] at h
  refine wpAny_bind (m := field (.ref c) 1) (wpAny_field hoc hdc hq (wpAny_bind (wpAny_pure ?_)))
  exact wpAny_bind (wpAny_mono h (fun binds s₁ h₁ => wpAny_bind (wpAny_mono h₁ (fun env s₂ h₂ => wpAny_bind (wpAny_enterFrame h₂.1 hroom (wpAny_pure ⟨rfl, h₂.2⟩))) fun _ _ x => x)) fun _ _ x => x)
end
end Mine

namespace Mine
open PySem PySem.W PyProof.Rows PySem.Calls
set_option maxRecDepth 100000
set_option linter.unusedVariables false
section
variable {prog : Program} {w : World} {A : Around} {E : Value → Shared → Prop} {s : Shared} {R : Result → Shared → Prop} {env : Env}
theorem codeC_func {body : List Stmt} (h : wpC (model prog w) (A.deeper env) (execs body env) (fun f s' => R (.ok (.ret (match f with | .ret v => v | _ => .none))) s') (fun _ _ => False) s) :
    codeC (model prog w) A (.func body env) R s := by
  refine codeC_of_tree rfl ?_
  show wpC _ (A.deeper env) (do point; match ← (execs body env).onRaise (leaving env) with | .ret v => ret v | _ => ret .none) _ _ s
  refine wpC_bind (wpC_of (wpAny_point (wpC_bind (wpC_onRaise (wpC_mono h (fun f s' q => ?_) fun _ _ x => x)))))
  cases f <;> exact wpC_pure q
theorem codeC_while {test : Expr} {body : List Stmt} (I : Nat → Shared → Prop)
    (turn : ∀ n s, I n s → wpC (model prog w) A (isTrue test env (eval test env)) (fun b s₂ =>
        if b = true then wpC (model prog w) A (execs body env) (fun f s₃ => match f with
            | .next | .cont => ∃ m, m < n ∧ I m s₃
            | .brk => R (.ok .next) s₃
            | .ret v => R (.ok (.ret v)) s₃) (fun _ _ => False) s₂
        else R (.ok .next) s₂) (fun _ _ => False) s)
    (n : Nat) (h : I n s) : codeC (model prog w) A (.whileLoop test body [] env) R s := by
  refine codeC_loop rfl rfl I (fun n s hI => ?_) n h
  show wpC _ A ((whileTurn test body [] env).onRaise (fun x => do noteFrame x env; theTreesLotGoes x)) _ _ s
  refine wpC_onRaise ?_
  simp only [whileTurn]
  refine wpC_bind (wpC_mono (turn n s hI) (fun b s₂ q => ?_) fun _ _ x => x)
  cases b with
  | false => exact wpC_bind (wpC_pure (wpC_pure q))
  | true =>
    refine wpC_bind (wpC_mono q (fun f s₃ q => ?_) fun _ _ x => x)
    cases f with
    | next => exact wpC_pure ⟨rfl, q⟩
    | cont => exact wpC_pure ⟨rfl, q⟩
    | brk => exact wpC_pure q
    | ret v => exact wpC_pure q
theorem codeC_for {target : Expr} {it : Value} {body : List Stmt} (I : Nat → Shared → Prop)
    (turn : ∀ n s, I n s → wpAny (model prog w) A (pyNext it) (fun r s₁ => match r with
      | none => R (.ok .next) s₁
      | some v => wpAny (model prog w) A (assign target env v) (fun _ s₂ => wpC (model prog w) A (execs body env) (fun f s₃ => match f with
            | .next | .cont => ∃ m, m < n ∧ I m s₃
            | .brk => R (.ok .next) s₃
            | .ret v => R (.ok (.ret v)) s₃) (fun _ _ => False) s₂) (fun _ _ => False) s₁) (fun _ _ => False) s)
    (hl : ∀ v, letOwnedTupleGo target it v = pure () := by intro _; rfl)
    (n : Nat) (h : I n s) : codeC (model prog w) A (.forLoop target it body [] env) R s := by
  induction n using Nat.strongRecOn generalizing s with
  | ind n ih =>
    refine codeC_of_tree rfl ?_
    show wpC _ A ((forTurn target it body [] env).onRaise (fun x => do noteFrame x env; theTreesLotGoes x)) _ _ s
    refine wpC_onRaise ?_
    simp only [forTurn]
    refine wpC_bind (wpC_standAt (wpC_bind (wpC_onRaise (wpC_of (wpAny_mono (turn n s h) (fun r s₁ q => ?_) fun _ _ x => x)))))
    cases r with
    | none =>
      refine wpC_pure ⟨rfl, codeC_of_tree rfl ?_⟩
      show wpC _ A (do return Fin.done (← (execs [] env).onRaise _)) _ _ _
      exact wpC_bind (wpC_onRaise (wpC_pure (wpC_pure q)))
    | some v =>
      dsimp only
      rw [hl]
      refine wpC_bind (wpC_pure ?_)
      refine wpC_bind (wpC_of (wpAny_mono q (fun _ s₂ q => wpC_bind (wpC_mono q (fun f s₃ q => ?_) fun _ _ x => x)) fun _ _ x => x))
      cases f with
      | next => obtain ⟨m, hm, hI⟩ := q; exact wpC_pure ⟨rfl, ih m hm hI⟩
      | cont => obtain ⟨m, hm, hI⟩ := q; exact wpC_pure ⟨rfl, ih m hm hI⟩
      | brk => exact wpC_pure q
      | ret v => exact wpC_pure q
end
end Mine

namespace Mine
open PySem PySem.W PyProof.Rows PySem.Calls
set_option maxRecDepth 100000
set_option linter.unusedVariables false
theorem not_held {self : Value} {c : Code} {p : Pos} (h1 : c.isGuard = false) (h2 : NHc c = true) : (match ((c, p) : Code × Pos) with
    | (.builtin "bytearray.__contains__" ⟨v :: _, _⟩, _) | (.builtin "bytearray.__mod__" ⟨v :: _, _⟩, _)
    | (.builtin "bytearray.__rmod__" ⟨_ :: v :: _, _⟩, _) | (.builtin "_struct.pack_into.held" ⟨v :: _, _⟩, _) => Builtin.Bytes.sameRef v self
    | (.builtin "bytearray.find.held" ⟨_ :: _ :: held, _⟩, _) => held.any (Builtin.Bytes.sameRef self)
    | (.builtin id ⟨v :: _, _⟩, _) => Builtin.Bytes.sameRef v self && Builtin.Bytes.decodersThatHold.contains id
    | _ => false) = false := by
  split
  all_goals first
    | rfl
    | (rename_i e; cases e; simp [Code.isGuard, guardIds] at h1; done)
    | (rename_i e; cases e; simp only [NHc, Bool.not_eq_true'] at h2; rw [h2, Bool.and_false])
theorem not_held_any {self : Value} : ∀ {l : List (Code × Pos)}, guardsOf l = [] → NH l → (l.any fun
    | (.builtin "bytearray.__contains__" ⟨v :: _, _⟩, _) | (.builtin "bytearray.__mod__" ⟨v :: _, _⟩, _)
    | (.builtin "bytearray.__rmod__" ⟨_ :: v :: _, _⟩, _) | (.builtin "_struct.pack_into.held" ⟨v :: _, _⟩, _) => Builtin.Bytes.sameRef v self
    | (.builtin "bytearray.find.held" ⟨_ :: _ :: held, _⟩, _) => held.any (Builtin.Bytes.sameRef self)
    | (.builtin id ⟨v :: _, _⟩, _) => Builtin.Bytes.sameRef v self && Builtin.Bytes.decodersThatHold.contains id
    | _ => false) = false
  | [], _, _ => rfl
  | (c, p) :: l, hg, hn => by
    rw [guardsOf_cons] at hg
    obtain ⟨g1, g2⟩ := List.append_eq_nil_iff.mp hg
    have hc : c.isGuard = false := by
      cases e : c.isGuard with
      | false => rfl
      | true => simp [Code.guards, e] at g1
    rw [List.any_cons, not_held_any g2 (fun x hx => hn x (List.mem_cons_of_mem _ hx)), Bool.or_false]
    exact not_held hc (hn _ List.mem_cons_self)
theorem c_exported {M : Model} {A : Around} {E : Value → Shared → Prop} {s : Shared} {self : Value} {Q : Bool → Shared → Prop} (hg : A.guards = some []) (h : Q false s) : wpC M A (Builtin.Bytes.exported self) Q E s := fun Γ p hΓ h1 h2 => by
  refine (congrArg (fun b => Q b s) (?_ : ((Γ.code, p) :: Γ.below).any _ = false)).mpr h
  exact not_held_any (self := self) (l := (Γ.code, p) :: Γ.below) (by rw [guardsOf_cons]; exact hΓ.2.2.2.1 [] hg) (by
    intro x hx
    rcases List.mem_cons.mp hx with rfl | hx
    · exact h1
    · exact h2 x hx)
end Mine

namespace Mine
open PySem PySem.W PyProof.Rows PySem.Calls
set_option maxRecDepth 100000
set_option linter.unusedVariables false
section
variable {prog : Program} {w : World} {A : Around} {E : Value → Shared → Prop} {s : Shared}
theorem c_entry {T : String} {name : Str} {id : String} {b : Builtin} {self : Value} {rest : List Value} {Q : Value → Shared → Prop} (h : Slot T name id) (hT : s.TypeIs self T) (hb : entryFor table id = some b)
    (hn : NHc (.builtin id ⟨self :: rest, []⟩) = true)
    (hc : wpC (model prog w) A.in1 (b ⟨self :: rest, []⟩) (fun fin s' => ∃ v, fin = .done (.ret v) ∧ Q v s') E s) (ha : argsOk id ⟨self :: rest, []⟩) :
    wpC (model prog w) A (call (.builtin id) (self :: rest)) Q E s := by
  refine wpC_call (codeC_of_tree rfl (wpC_of ?_))
  show wpAny _ A.in1 (do checkBuiltinCall id ⟨self :: rest, []⟩; again (.builtin id ⟨self :: rest, []⟩)) _ _ s
  refine wpAny_bind (h.check _ _ _ _ _ _ _ _ hT ha (wpAny_pure ⟨plainId_quiet h.plain _, codeC_of_tree hn ?_⟩))
  rw [Around.under_plainId h.plain]
  show wpC _ _ (match entryFor table id with | some b => b ⟨self :: rest, []⟩ | none => unsupported ((withoutEnding? id "#data").getD id)) _ _ s
  rw [hb]
  refine wpC_mono hc (fun fin s' q => ?_) fun _ _ x => x
  obtain ⟨v, rfl, hv⟩ := q
  exact hv
end
/-- a bytearray -/
def barr (b : Array UInt8) : Obj := { cls := .type "bytearray", data := .bytearray b }
theorem slot_append : Slot "bytearray" "append" "bytearray.append" :=
  .of (owner := "bytearray") (n := "append") (by rw [typeLookup_type, builtinLookup_eq_fast]; kernel_rfl) (by decide +kernel) (by decide +kernel) (by decide +kernel)
    (by first | exact .inl (by decide +kernel) | exact .inr (by decide +kernel)) (by rw [isSubtype_type]; kernel_rfl)
theorem entry_append : entryFor table "bytearray.append" = some Builtin.«bytearray.append» := by first | exact entryFor_of_fast (by kernel_rfl) | exact entryFor_of_tree (by kernel_rfl)
theorem args_append (a b : Value) : argsOk "bytearray.append" ⟨[a, b], []⟩ := by unfold argsOk; kernel_rfl
section
variable {prog : Program} {w : World} {A : Around} {E : Value → Shared → Prop} {h₀ h : Heap} {L l : Addr} {m : Str → Option Value} {news news' : List (Addr × Obj)}
  {g : Array GenState} {d : Drawn} {t : Nat} {o : OsState} {env : Env} {Q : Value → Shared → Prop}
theorem c_notExp {M : Model} {b : Array UInt8} {Q : Bool → Shared → Prop} (hl : h.get? l = some (barr b)) (hg : A.guards = some []) (k : Q false ⟨h, g, d, t, o⟩) :
    wpC M A (Builtin.Bytes.exported (.ref l) <||> (do return (← Builtin.Bytes.exportsOf (.ref l)) > 0)) Q E ⟨h, g, d, t, o⟩ := by
  unfold orM
  refine wpC_bind (c_exported hg ?_)
  show wpC M A (do return decide ((← Builtin.Bytes.exportsOf (.ref l)) > 0)) Q E _
  refine wpC_of (wpAny_bind ?_)
  unfold Builtin.Bytes.exportsOf
  exact wpAny_bind (wpAny_load hl (wpAny_pure (wpAny_pure k)))
theorem w_write {M : Model} {b : Array UInt8} {f : Array UInt8 → Array UInt8} {Q : Unit → Shared → Prop} (hl : h.get? l = some (barr b)) (hz : (f b).size ≤ 1000000) (k : Q () ⟨h.update l (Obj.mapBytearray f), g, d, t, o⟩) :
    wpAny M A (Builtin.Bytes.write (.ref l) f) Q E ⟨h, g, d, t, o⟩ := by
  unfold Builtin.Bytes.write updateBytearray
  refine wpAny_bind (wpAny_load hl ?_)
  refine wpAny_bind (wpAny_update hl ?_)
  refine wpAny_lookBehind (Heap.get?_update_self (Obj.mapBytearray f) hl rfl) ?_ k
  show Data.pastItsLine (.bytearray (f b) 0) = none
  have : ¬ (sizeLine < (f b).size) := by rw [sizeLine_eq]; omega
  simp [Data.pastItsLine, this]
theorem r_bappend {b : Array UInt8} {c : Int} {tc : Tok} (C : Cx h₀ L h m news) (u : UpdAt l (barr b) (barr (b.push c.toNat.toUInt8)) news news') (hg : A.guards = some []) (h0 : 0 ≤ c) (h1 : c < 256) (hz : b.size ≤ 100000)
    (k : ∀ h', Cx h₀ L h' m news' → Q .none ⟨h', g, d, t, o⟩) : wpC (model prog w) A (call (.builtin "bytearray.append") [.ref l, .int c tc]) Q E ⟨h, g, d, t, o⟩ := by
  have hl := u.at C
  refine c_entry slot_append ⟨_, hl, rfl⟩ entry_append rfl ?_ (args_append _ _)
  unfold Builtin.«bytearray.append»
  refine wpC_bind (wpC_pure (a := (Value.ref l, Value.int c tc)) ?_)
  show wpC _ _ (Builtin.Bytes.byteValue (.int c tc) >>= fun x => _) _ _ _
  refine wpC_bind ?_
  unfold Builtin.Bytes.byteValue
  refine wpC_bind (wpC_pure (a := c) ?_)
  rw [if_neg (by simp; omega)]
  refine wpC_pure ?_
  refine wpC_bind ?_
  unfold Builtin.Bytes.checkResize
  refine wpC_bind (c_notExp hl (by first | exact hg | kernel_rfl) ?_)
  rw [if_neg (by decide)]
  refine wpC_pure ?_
  refine wpC_of (wpAny_bind (w_write hl (by show (b.push _).size ≤ _; rw [Array.size_push]; omega) ?_))
  exact wpAny_pure ⟨_, rfl, k _ (C.updAt u (.update ..) (Heap.get?_update_self (Obj.mapBytearray (·.push c.toNat.toUInt8)) hl rfl))⟩
end
end Mine

namespace Mine
open PySem PySem.W PyProof.Rows PySem.Calls
set_option maxRecDepth 100000
set_option linter.unusedVariables false
theorem mro_ba : mroOf (.type "bytearray") = pure [.type "bytearray", .type "object"] := by rw [mroOf_type]; kernel_rfl
theorem madeBy_ba : Bind.madeBy (.type "bytearray") = pure (some "bytearray.__new__") := by kernel_rfl
theorem sub_ba : isSubtype (.type "bytearray") (.type "bytearray") = pure true := by rw [isSubtype_type]; kernel_rfl
theorem canMake_ba : ((Manifest.find? "bytearray").bind fun x => List.findSome? (fun t => (Manifest.find? t).bind fun b =>
    if b.noNew = true then some true else if (b.attrs.any fun x => x.fst == "__new__") = true then some false else none) x.mro).getD false = false := by kernel_rfl
theorem typeCall_ba : checkTypeCall "bytearray" ⟨[], []⟩ = pure () := by kernel_rfl
theorem newCall_ba : checkBuiltinCall "bytearray.__new__" ⟨[.type "bytearray"], []⟩ = pure () := by kernel_rfl
theorem entry_ba_new : entryFor table "bytearray.__new__" = some Builtin.«list.__new__» := entryFor_alias (id' := "list.__new__") (by rw [fastTable_eq_tree]; kernel_rfl) (by first | rfl | decide +kernel) (by decide +kernel) (by rw [fastTable_eq_tree]; kernel_rfl)
theorem plain_ba_new : plainId "bytearray.__new__" = true := by decide +kernel
set_option maxRecDepth 1000000 in
set_option maxHeartbeats 4000000 in
theorem owner_ba_new : ("bytearray.__new__".splitOn ".__new__").headD "" = "bytearray" := by simp +decide [String.splitOn, String.splitOnAux]
theorem slot_ba_init : Slot "bytearray" "__init__" "bytearray.__init__" :=
  .of (owner := "bytearray") (n := "__init__") (by rw [typeLookup_type, builtinLookup_eq_fast]; kernel_rfl) (by decide +kernel) (by decide +kernel) (by decide +kernel)
    (by first | exact .inl (by decide +kernel) | exact .inr (by decide +kernel)) (by rw [isSubtype_type]; kernel_rfl)
theorem entry_ba_init : entryFor table "bytearray.__init__" = some Builtin.«bytearray.__init__» := entryFor_of_tree (by kernel_rfl)
theorem args_ba_init (a : Value) : argsOk "bytearray.__init__" ⟨[a], []⟩ := by unfold argsOk; kernel_rfl
section
variable {prog : Program} {w : World} {A : Around} {E : Value → Shared → Prop} {h₀ h : Heap} {L l : Addr} {m : Str → Option Value} {news news' : List (Addr × Obj)}
  {g : Array GenState} {d : Drawn} {t : Nat} {o : OsState} {env : Env} {Q : Value → Shared → Prop} {s : Shared}
theorem code_ba_new {Q₁ : Value → Shared → Prop} (k : Q₁ (.ref s.heap.objs.size) { s with heap := s.heap.push (barr #[]) }) :
    codeAny (model prog w) A (.call (.builtin "bytearray.__new__") ⟨[.type "bytearray"], []⟩) (wants Q₁ E) s := by
  refine codeAny_of_tree ?_
  show wpAny _ A.in1 (do checkBuiltinCall "bytearray.__new__" ⟨[.type "bytearray"], []⟩; again (.builtin "bytearray.__new__" ⟨[.type "bytearray"], []⟩)) _ _ s
  refine wpAny_bind (wpAny_of_eq newCall_ba (wpAny_pure ⟨plainId_quiet plain_ba_new _, codeAny_builtin_stack entry_ba_new rfl fun p st => ?_⟩))
  rw [Around.under_plainId plain_ba_new _]
  have hsub := sub_ba
  have hown := owner_ba_new
  obtain ⟨hp, g, d, tk, os⟩ := s
  simp only [hown]
  wp_walk
  exact k
theorem lk_rel : typeLookup (.type "bytearray") (Str.ofString "__release_buffer__") = pure (some (.builtin "bytearray.__release_buffer__")) := by rw [typeLookup_type, builtinLookup_eq_fast]; kernel_rfl
theorem w_ownRelease {Q : Bool → Shared → Prop} (hT : Shared.TypeIs ⟨h, g, d, t, o⟩ (.ref l) "bytearray") (k : Q false ⟨h, g, d, t, o⟩) : wpAny (model prog w) A (Builtin.Bytes.ownRelease (.ref l)) Q E ⟨h, g, d, t, o⟩ := by
  unfold Builtin.Bytes.ownRelease Builtin.Bytes.slotIsOwn
  refine wpAny_bind (wpAny_bind (wpAny_specialOf hT lk_rel ?_))
  dsimp only
  have e1 : ("bytearray.__release_buffer__".endsWith ("." ++ "__release_buffer__")) = true := by decide +kernel
  have e2 : "bytearray.__release_buffer__".dropRight ("__release_buffer__".length + 1) = "bytearray" := by decide +kernel
  rw [if_neg (by rw [e1]; decide), e2]
  exact wpAny_isInstance hT sub_ba (wpAny_pure k)
theorem bind_ba : Builtin.Bytes.bindOptional "bytearray.__init__" "bytearray" ["source", "encoding", "errors"] [] [] = pure [none, none, none] := by kernel_rfl
theorem r_ba_init (hl : h.get? l = some (barr #[])) (hg : A.guards = some []) (k : ∀ h', Kp h₀ h' → h'.get? l = some (barr #[]) → Q .none ⟨h', g, d, t, o⟩) (K : Kp h₀ h) (hn : h₀.get? l = none) :
    wpC (model prog w) A (call (.builtin "bytearray.__init__") [.ref l]) Q E ⟨h, g, d, t, o⟩ := by
  have hT : Shared.TypeIs ⟨h, g, d, t, o⟩ (.ref l) "bytearray" := ⟨_, hl, rfl⟩
  refine c_entry slot_ba_init hT entry_ba_init rfl ?_ (args_ba_init _)
  unfold Builtin.«bytearray.__init__»
  dsimp only
  refine wpC_bind (wpC_of ?_)
  refine w_ownRelease hT ?_
  rw [if_neg (by decide)]
  refine wpC_bind (wpC_of (wpAny_of_eq bind_ba ?_))
  dsimp only
  refine wpC_bind (wpC_pure (a := ()) ?_)
  refine wpC_bind (wpC_pure (a := ()) ?_)
  refine wpC_bind (c_notExp hl hg ?_)
  rw [if_neg (by decide)]
  refine wpC_of (wpAny_bind (w_write hl (by decide) ?_))
  refine wpAny_pure ⟨_, rfl, k _ ?_ (Heap.get?_update_self (Obj.mapBytearray fun _ => #[]) hl rfl)⟩
  intro b ob hb
  rw [Heap.get?_update_other _ _ (fun q => by rw [q] at hn; rw [hn] at hb; cases hb)]
  exact K b ob hb
theorem codeC_builtin {id : String} {args : Args} {b : Builtin} {R : Result → Shared → Prop} (hn : NHc (.builtin id args) = true) (hb : entryFor table id = some b)
    (hc : wpC (model prog w) (A.under (.builtin id args)) (b args) (fun fin s' => match fin with | .done f => R (.ok f) s' | .again c' => c'.quiet = true ∧ codeC (model prog w) A c' R s') (fun e s' => R (.error e) s') s) :
    codeC (model prog w) A (.builtin id args) R s := by
  refine codeC_of_tree hn ?_
  show wpC _ _ (match entryFor table id with | some b => b args | none => unsupported ((withoutEnding? id "#data").getD id)) _ _ s
  rw [hb]
  exact hc
theorem c_callSpecial {self : Value} {T : String} {name : Str} {id : String} {args : List Value} {Q : Option Value → Shared → Prop} (hT : s.TypeIs self T) (hs : Slot T name id)
    (hc : wpC (model prog w) A (call (.builtin id) (self :: args)) (fun v => Q (some v)) E s) : wpC (model prog w) A (callSpecial? self name args []) Q E s := by
  simp only [callSpecial?]
  refine wpC_bind (wpC_of (wpAny_specialOf hT hs.lookup ?_))
  simp only [hs.bind]
  exact wpC_holding (wpC_bind (wpC_pure (wpC_bind (wpC_mono hc (fun v s' h' => wpC_pure h') fun _ _ h' => h'))))
theorem r_bytearray {Q : Value → Shared → Prop} (C : Cx h₀ L h m news) (hg : A.guards = some []) (k : ∀ x h', Cx h₀ L h' m ((x, barr #[]) :: news) → Q (.ref x) ⟨h', g, d, t, o⟩) :
    wpC (model prog w) A (call (.type "bytearray") []) Q E ⟨h, g, d, t, o⟩ := by
  refine wpC_call (codeC_of_tree rfl ?_)
  show wpC _ _ (callAny (.type "bytearray") ⟨[], []⟩) _ _ _
  simp only [callAny]
  refine wpC_pure ⟨Code.quiet_builtin _ (by decide +kernel), codeC_builtin rfl entry_typeCall ?_⟩
  rw [Around.under_plain (weight_type_call "bytearray" _ _) (by first | rfl | kernel_rfl | decide +kernel)]
  unfold Builtin.«type.__call__»
  dsimp only
  rw [if_neg (by decide), if_neg (by rw [canMake_ba]; exact Bool.false_ne_true)]
  refine wpC_bind (wpC_of (wpAny_of_eq typeCall_ba ?_))
  refine wpC_bind (wpC_of (wpAny_of_eq mro_ba ?_))
  rw [if_neg (by decide)]
  refine wpC_bind (wpC_of (wpAny_of_eq madeBy_ba ?_))
  dsimp only
  refine wpC_bind (wpC_pure ?_)
  refine wpC_bind (wpC_holding (wpC_of (wpAny_call (codeAny_mono (code_ba_new (E := fun _ _ => False) (Q₁ := fun v s => v = .ref h.objs.size ∧ s = ⟨h.push (barr #[]), g, d, t, o⟩) ⟨rfl, rfl⟩) ?_))))
  intro r s1 hr
  cases r with
  | error e => exact hr.elim
  | ok fl =>
    cases fl with
    | ret obj =>
      obtain ⟨rfl, rfl⟩ := hr
      dsimp only
      have hl : (h.push (barr #[])).get? h.objs.size = some (barr #[]) := Heap.get?_push_size _ rfl
      refine wpC_bind (wpC_of (wpAny_isInstance (T := "bytearray") ⟨_, hl, rfl⟩ sub_ba ?_))
      simp only [Bool.not_true, Bool.false_eq_true, if_false]
      refine wpC_bind (wpC_holding (c_callSpecial (T := "bytearray") ⟨_, hl, rfl⟩ slot_ba_init (r_ba_init (h₀ := h) hl (by exact hg) ?_ (Kp.push _ _) (get_size h))))
      intro h' K' hl'
      dsimp only
      rw [if_neg (by decide)]
      exact wpC_pure (k _ h' (C.add K' (get_size h) hl'))
    | _ => exact hr.elim
end
end Mine

namespace Mine
open PySem PySem.W PyProof.Rows PySem.Calls
set_option maxRecDepth 100000
set_option linter.unusedVariables false
theorem ba_no_bytes : typeLookup (.type "bytearray") (Str.ofString "__bytes__") = pure none := by rw [typeLookup_type, builtinLookup_eq_fast]; kernel_rfl
theorem ba_no_index : typeLookup (.type "bytearray") (Str.ofString "__index__") = pure none := by rw [typeLookup_type, builtinLookup_eq_fast]; kernel_rfl
theorem ba_buffer : typeLookup (.type "bytearray") (Str.ofString "__buffer__") = pure (some (.builtin "bytearray.__buffer__")) := by rw [typeLookup_type, builtinLookup_eq_fast]; kernel_rfl
section
variable {prog : Program} {w : World} {A : Around} {E : Value → Shared → Prop} {h₀ h : Heap} {L l : Addr} {m : Str → Option Value} {news news' : List (Addr × Obj)}
  {g : Array GenState} {d : Drawn} {t : Nat} {o : OsState} {env : Env} {Q : Value → Shared → Prop} {s : Shared}
theorem w_buffer {b : Array UInt8} {id : String} {full : Bool} {Q : Option (Array UInt8) → Shared → Prop} (hl : h.get? l = some (barr b)) (k : Q (some b) ⟨h, g, d, t, o⟩) :
    wpAny (model prog w) A (Builtin.Bytes.buffer? id (.ref l) full) Q E ⟨h, g, d, t, o⟩ := by
  have hT : Shared.TypeIs ⟨h, g, d, t, o⟩ (.ref l) "bytearray" := ⟨_, hl, rfl⟩
  unfold Builtin.Bytes.buffer?
  refine wpAny_bind (wpAny_specialOf hT ba_buffer ?_)
  dsimp only
  refine wpAny_bind ?_
  unfold Builtin.Bytes.slotIsOwn
  refine wpAny_bind (wpAny_specialOf hT ba_buffer ?_)
  dsimp only
  have e1 : ("bytearray.__buffer__".endsWith ("." ++ "__buffer__")) = true := by decide +kernel
  have e2 : "bytearray.__buffer__".dropRight ("__buffer__".length + 1) = "bytearray" := by decide +kernel
  rw [if_neg (by rw [e1]; decide), e2]
  refine wpAny_isInstance hT sub_ba ?_
  rw [if_neg (by decide)]
  refine wpAny_bind (wpAny_specialOf hT ba_buffer ?_)
  refine wpAny_bind (w_ownRelease hT ?_)
  rw [if_neg (by decide)]
  refine wpAny_bind ?_
  unfold Builtin.Bytes.payload Builtin.Bytes.payload?
  exact wpAny_bind (wpAny_bind (wpAny_load hl (wpAny_pure (wpAny_pure (wpAny_pure k)))))
theorem bb_new {b : Array UInt8} {Q : Value → Shared → Prop} (hl : h.get? l = some (barr b)) (hz : b.size ≤ 1000000) (k : ∀ t' tr, Q (.bytes b tr) ⟨h, g, d, t', o⟩) :
    codeAny (model prog w) A (.call (.builtin "bytes.__new__") ⟨[.type "bytes", .ref l], []⟩) (wants Q E) ⟨h, g, d, t, o⟩ := by
  refine codeAny_of_tree ?_
  show wpAny _ A.in1 (do checkBuiltinCall "bytes.__new__" ⟨[.type "bytes", .ref l], []⟩; again (.builtin "bytes.__new__" ⟨[.type "bytes", .ref l], []⟩)) _ _ _
  refine wpAny_bind (wpAny_of_eq (F.bm_newCall _) (wpAny_pure ⟨plainId_quiet F.bm_plain _, codeAny_builtin F.bm_entry ?_⟩))
  rw [Around.under_plainId F.bm_plain _]
  have hT : Shared.TypeIs ⟨h, g, d, t, o⟩ (.ref l) "bytearray" := ⟨_, hl, rfl⟩
  unfold Builtin.«bytes.__new__»
  refine wpAny_bind (wpAny_of_eq (a := true) rfl ?_)
  refine bm_if_false rfl ?_
  refine wpAny_bind (wpAny_of_eq F.bm_sub ?_)
  refine bm_if_false rfl ?_
  refine wpAny_bind (wpAny_of_eq (F.bm_bind _) ?_)
  refine wpAny_bind (wpAny_of_eq (a := ()) rfl ?_)
  refine wpAny_bind (wpAny_of_eq (a := ()) rfl ?_)
  refine bm_if_false rfl ?_
  refine wpAny_bind (wpAny_specialOf hT ba_no_bytes ?_)
  refine wpAny_bind (wpAny_bind ?_)
  show wpAny _ _ (load l >>= _) _ _ _
  refine wpAny_bind (wpAny_load hl ?_)
  refine wpAny_pure (wpAny_pure ?_)
  refine bm_if_false rfl ?_
  refine wpAny_bind (wpAny_specialOf hT ba_no_index ?_)
  refine bm_if_true rfl ?_
  first
    | show wpAny _ _ (Builtin.Bytes.buffer? "bytes.__new__" (.ref l) true >>= _) _ _ _
    | (refine wpAny_bind ?_; show wpAny _ _ (Builtin.Bytes.buffer? "bytes.__new__" (.ref l) true >>= _) _ _ _)
  refine wpAny_bind (w_buffer hl ?_)
  dsimp only
  refine wpAny_bind (wpAny_rule (wpAny_bind (wpAny_mkBytes ?_ (by rw [sizeLine_eq]; omega))))
  first
    | (show wpAny _ _ (if (Value.type "bytes" == Value.type "bytes") = true then _ else _) _ _ _; refine bm_if_true (by decide) ?_)
    | (refine wpAny_bind ?_; show wpAny _ _ (if (Value.type "bytes" == Value.type "bytes") = true then _ else _) _ _ _; refine bm_if_true (by decide) ?_)
  first
    | exact wpAny_pure (k _ _)
    | exact wpAny_bind (wpAny_pure (wpAny_pure (k _ _)))
    | exact wpAny_pure (wpAny_pure (k _ _))
    | exact wpAny_bind (wpAny_pure (wpAny_pure (wpAny_pure (k _ _))))
theorem r_bytesOf {b : Array UInt8} (hl : h.get? l = some (barr b)) (hz : b.size ≤ 1000000) (k : ∀ t' tr, Q (.bytes b tr) ⟨h, g, d, t', o⟩) :
    wpAny (model prog w) A (call (.type "bytes") [.ref l]) Q E ⟨h, g, d, t, o⟩ := by
  refine callType_codes (Q₁ := fun obj s₁ => s₁.TypeIs obj "bytes" ∧ Q obj s₁) F.bm_called (F.bm_typeCall _) F.entry_object_init
    (bb_new hl hz fun t' tr => ⟨PySem.W.typeIs_bytes _ _ _, k t' tr⟩) fun obj s₁ h₁ => ?_
  exact ⟨h₁.1, F.args_object_init_2 obj _, object_init_meets F.bm_called.init.lookup F.bm_called.made (by decide) prog w A.in1 _ s₁ ⟨h₁.1, rfl, h₁.2⟩⟩
end
end Mine

namespace Mine
open PySem PySem.W PyProof.Rows PySem.Calls
set_option maxRecDepth 100000
set_option linter.unusedVariables false
section
variable {prog : Program} {w : World} {A : Around} {E : Value → Shared → Prop} {h₀ h : Heap} {L : Addr} {m mg mb : Str → Option Value} {news : List (Addr × Obj)}
  {g : Array GenState} {d : Drawn} {t : Nat} {o : OsState} {env : Env}
theorem call_fnC {Q : Value → Shared → Prop} {name : Str} {params : Arguments} {body : List Stmt} {scope : Scope} {a : Addr} {cd : Value} {args : List Value} {binds : List (Str × Value)}
    (G : Gl mg mb h) (f : Fn mg h name params body scope a cd) (hd : A.depth < recursionLimit)
    (k : ∀ h₁ t', Cx h h.objs.size h₁ (lk binds.reverse (fun _ => none)) [] →
      wpC (model prog w) (A.deeper (envOf name scope h.objs.size a cd)) (execs body (envOf name scope h.objs.size a cd)) (fun f s' => Q (match f with | .ret v => v | _ => .none) s') (fun _ _ => False) ⟨h₁, g, d, t', o⟩)
    (hbind : ∀ pm doc, bindArgs (docDef name params body scope pm cd doc) ⟨args, []⟩ = pure binds)
    (hloc : ∀ x ∈ binds, scope.names.lookup x.1 = some .local)
    (hco : scope.isCoroutine = false := by rfl) (hgen : scope.isGenerator = false := by rfl) (hk : scope.kind = .function := by rfl)
    (hcell : ∀ x ∈ scope.names, x.2 ≠ .cell := by decide) :
    wpC (model prog w) A (call (.ref a) args) Q E ⟨h, g, d, t, o⟩ := by
  obtain ⟨ob, pm, doc, x, y⟩ := f.ob
  refine wpC_call (codeC_call hd x y hco hgen rfl f.code ?_)
  rw [hbind]
  refine wpAny_pure (wpAny_newFunctionEnv hcell hloc (fun h₁ hns hsb => ⟨G.lim.fresh _ hsb, ?_⟩) hk)
  show codeC _ _ (.func body (envOf name scope h.objs.size a cd)) _ _
  have F : Fr h h.objs.size h₁ (fun x => binds.reverse.lookup x) := ⟨hns, fun b o e => hsb.extBut b o (Nat.ne_of_lt (Heap.lt_size e)) (Heap.get?_push_of_some _ e), Nat.le_refl _⟩
  rw [lookup_lk] at F
  exact codeC_func (wpC_mono (k h₁ _ ⟨F, (by intro _ hp; cases hp), (by intro _ hp; cases hp), List.nodup_nil⟩) (fun f s' q => q) (fun _ _ x => x))
variable {Q : Flow → Shared → Prop}
theorem c_While {test : Expr} {body : List Stmt} {pos : Pos} (hc : codeC (model prog w) A (.whileLoop test body [] env) (fun r s' => match r with | .ok f => Q f s' | .error e => False) ⟨h, g, d, t, o⟩) :
    wpC (model prog w) A (exec (.While test body [] pos) env) Q E ⟨h, g, d, t, o⟩ := by
  rw [exec_While]
  exact wpC_bind (wpC_standAt (c_runOwn hc))
theorem r_whileC {test : Expr} {body : List Stmt} {pos : Pos} (Inv : Nat → (Str → Option Value) → List (Addr × Obj) → Prop) (n : Nat) (C : Cx h₀ L h m news) (hI : Inv n m news)
    (turn : ∀ n h t m news, Cx h₀ L h m news → Inv n m news → wpC (model prog w) A (isTrue test env (eval test env)) (fun b s₂ =>
      if b = true then wpC (model prog w) A (execs body env) (TurnW h₀ L g d o Inv n Q) (fun _ _ => False) s₂ else Q .next s₂) (fun _ _ => False) ⟨h, g, d, t, o⟩) :
    wpC (model prog w) A (exec (.While test body [] pos) env) Q E ⟨h, g, d, t, o⟩ := by
  refine c_While (codeC_while (fun n s => ∃ h t m news, s = ⟨h, g, d, t, o⟩ ∧ Cx h₀ L h m news ∧ Inv n m news) ?_ n ⟨h, t, m, news, rfl, C, hI⟩)
  rintro n s ⟨h, t, m, news, rfl, C, hI⟩
  refine wpC_mono (turn n h t m news C hI) (fun b s₂ q => ?_) (fun _ _ x => x)
  cases b with
  | false => exact q
  | true =>
    simp only [if_true] at q ⊢
    refine wpC_mono q (fun f s₃ q => ?_) (fun _ _ x => x)
    cases f with
    | next => obtain ⟨n', h, t, m, news, hn, e, C, hI⟩ := q; exact ⟨n', hn, h, t, m, news, e, C, hI⟩
    | cont => obtain ⟨n', h, t, m, news, hn, e, C, hI⟩ := q; exact ⟨n', hn, h, t, m, news, e, C, hI⟩
    | brk => exact q
    | ret v => exact q
/-- the loop behind its list -/
def LoopC (M : Model) (A : Around) (env : Env) (x : Str) (px : Pos) (body : List Stmt) (Q : Flow → Shared → Prop) (v : Value) (s : Shared) : Prop :=
  wpAny M A (pyIter v) (fun it s₂ => codeC M A (.forLoop (.Name x px) it body [] env) (fun r s' => match r with | .ok f => Q f s' | .error e => False) s₂) (fun _ _ => False) s
theorem r_forC {x : Str} {px pos : Pos} {iter : Expr} {body : List Stmt} (k : wpAny (model prog w) A (eval iter env) (LoopC (model prog w) A env x px body Q) (fun _ _ => False) ⟨h, g, d, t, o⟩)
    (hs : ∀ x, foldedSetIterable iter env x = pure x := by intro _; kernel_rfl) :
    wpC (model prog w) A (exec (.For (.Name x px) iter body [] pos) env) Q E ⟨h, g, d, t, o⟩ := by
  rw [exec_For]
  refine wpC_bind (wpC_standAt (wpC_bind (wpC_of (wpAny_mono k (fun v s₁ q => ?_) (fun _ _ x => x.elim)))))
  refine wpC_bind (wpC_of (wpAny_of_eq (hs v) ?_))
  refine wpC_bind (wpC_standAt ?_)
  refine wpC_bind (wpC_holding (wpC_of (wpAny_mono q (fun it s₂ q => ?_) (fun _ _ x => x.elim))))
  exact c_runOwn q
theorem r_iterLC {x : Str} {px : Pos} {body : List Stmt} {l : Addr} (C : Cx h₀ L h m news) (Inv : Nat → (Str → Option Value) → List (Addr × Obj) → Prop) {items : List Value} {lo : Obj}
    (hlo : lo.cls = .type "list") (hli : ∃ n, lo.data = .seq items.toArray n)
    (hh : A.handled = none)
    (hI : Inv 0 m news)
    (hstay : ∀ i h m news, Cx h₀ L h m news → Inv i m news → h.get? l = some lo)
    (turn : ∀ (i : Nat) (v : Value) (it : Addr) (io : Obj) h t m news, items[i]? = some v → Cx h₀ L h (lk [(x, v)] m) ((it, io) :: news) → Inv i m news →
      wpC (model prog w) A (execs body env) (TurnF h₀ L g d o Inv it io i Q) (fun _ _ => False) ⟨h, g, d, t, o⟩)
    (done : ∀ h t m news, Cx h₀ L h m news → Inv items.length m news → Q .next ⟨h, g, d, t, o⟩)
    (hL : env.locals = L := by kernel_rfl) (hl : env.kindOf x = some .local := by kernel_rfl)
    (hp : (env.scope.kind == .class || (env.scope.kind == .module && env.locals != env.globals)) = false := by kernel_rfl) :
    LoopC (model prog w) A env x px body Q (.ref l) ⟨h, g, d, t, o⟩ := by
  have isl : ∀ (l : Addr) (h : Heap), h.get? l = some lo → h.IsList l items.toArray := fun l h e => by
    obtain ⟨n, q⟩ := hli
    exact ⟨lo, e, hlo, n, q⟩
  refine wpAny_pyIter_list (isl _ _ (hstay _ _ _ _ C hI)) ?_
  refine codeC_for (fun n s => ∃ (h2 : Heap) (t : Nat) (m : Str → Option Value) (news : List (Addr × Obj)) (i : Nat) (io : Obj), s = ⟨h2, g, d, t, o⟩ ∧ Cx h₀ L h2 m news ∧ Cx h₀ L h2 m ((h.objs.size, io) :: news) ∧ h2.IsListIter h.objs.size l i ∧ Inv i m news ∧ i + n = items.length) ?_ (by intro _; rfl) items.length ⟨_, t, m, news, 0, _, rfl, C.grown (Kp.push _ _), C.push _, ⟨_, Heap.get?_push_size _ rfl, rfl, rfl⟩, hI, by omega⟩
  rintro n s ⟨h2, t, m, news, i, io, rfl, C0, C, hit, hI, hn⟩
  cases hx : items[i]? with
  | none =>
    refine wpAny_pyNext_list_end hh hit (isl _ _ (hstay _ _ _ _ C0 hI)) (by simpa using hx) (fun h' hx' => ?_)
    have : i = items.length := by
      have := List.getElem?_eq_none_iff.mp hx
      omega
    subst this
    exact done _ _ _ _ (C.ext hx') hI
  | some v =>
    refine wpAny_pyNext_list_item hit (isl _ _ (hstay _ _ _ _ C0 hI)) (by simpa using hx) (fun h' hit' hs' => ?_)
    obtain ⟨io', g1, g2, g3⟩ := id hit'
    have hlt : i < items.length := (List.getElem?_eq_some_iff.mp hx).1
    have C' := C.upd0 hs' g1
    refine bound ?_
    refine st_l (l := []) C' (fun h₂ t' C₂ => ?_) hL hl hp
    refine wpC_mono (turn i v _ io' h₂ t' m news hx C₂ hI) (fun f s₃ q => ?_) (fun _ _ x => x)
    cases f with
    | next =>
      obtain ⟨h, t, m, news, e, C, hI⟩ := q
      exact ⟨n - 1, by omega, h, t, m, news, i + 1, io', e, C.sub (List.sublist_cons_self _ _), C, ⟨io', C.get _ (.head _), g2, g3⟩, hI, by omega⟩
    | cont =>
      obtain ⟨h, t, m, news, e, C, hI⟩ := q
      exact ⟨n - 1, by omega, h, t, m, news, i + 1, io', e, C.sub (List.sublist_cons_self _ _), C, ⟨io', C.get _ (.head _), g2, g3⟩, hI, by omega⟩
    | brk => exact q
    | ret v => exact q
theorem r_iterRC {x : Str} {px : Pos} {body : List Stmt} {r : Addr} {t1 t2 t3 : Tok} (C : Cx h₀ L h m news) (Inv : Nat → (Str → Option Value) → List (Addr × Obj) → Prop) {a b c : Int} {n : Nat}
    (hr : IsRange h r a b c t1 t2 t3) (hsmall : Builtin.Range.small a b c = true) (hn : Builtin.Range.rangeSize a b c = n)
    (hh : A.handled = none) (hI : Inv 0 m news)
    (turn : ∀ (i : Nat) (tv : Tok) (it : Addr) (io : Obj) h t m news, i < n → Cx h₀ L h (lk [(x, .int (a + (i : Int) * c) tv)] m) ((it, io) :: news) → Inv i m news →
      wpC (model prog w) A (execs body env) (TurnF h₀ L g d o Inv it io i Q) (fun _ _ => False) ⟨h, g, d, t, o⟩)
    (done : ∀ h t m news, Cx h₀ L h m news → Inv n m news → Q .next ⟨h, g, d, t, o⟩)
    (hL : env.locals = L := by kernel_rfl) (hl : env.kindOf x = some .local := by kernel_rfl)
    (hp : (env.scope.kind == .class || (env.scope.kind == .module && env.locals != env.globals)) = false := by kernel_rfl) :
    LoopC (model prog w) A env x px body Q (.ref r) ⟨h, g, d, t, o⟩ := by
  refine wpAny_pyIter_range hr hsmall ?_
  refine codeC_for (fun k s => ∃ (h2 : Heap) (t : Nat) (m : Str → Option Value) (news : List (Addr × Obj)) (i : Nat) (io : Obj), s = ⟨h2, g, d, t, o⟩ ∧ Cx h₀ L h2 m ((h.objs.size, io) :: news) ∧ IsRangeIter h2 h.objs.size (a + (i : Int) * c) ((n : Int) - i) c ∧ Inv i m news ∧ i + k = n) ?_ (by intro _; rfl) n ⟨_, t, m, news, 0, _, rfl, C.push _, ?_, hI, by omega⟩
  · rintro k s ⟨h, t, m, news, i, io, rfl, C, hit, hI, hk⟩
    by_cases hlt : i < n
    · refine wpAny_pyNext_range_item hit (by omega) (fun h' hit' hs' => ?_)
      have C' := C.upd0 hs' hit'
      refine bound ?_
      refine st_l (l := []) C' (fun h₂ t' C₂ => ?_) hL hl hp
      refine wpC_mono (turn i _ _ _ h₂ t' m news hlt C₂ hI) (fun f s₃ q => ?_) (fun _ _ x => x)
      have e1 : a + (i : Int) * c + c = a + ((i + 1 : Nat) : Int) * c := by rw [Int.natCast_add, Int.add_mul]; simp [Int.add_assoc]
      have e2 : (n : Int) - i - 1 = (n : Int) - ((i + 1 : Nat) : Int) := by omega
      cases f with
      | next =>
        obtain ⟨h, t, m, news, e, C, hI⟩ := q
        refine ⟨k - 1, by omega, h, t, m, news, i + 1, _, e, C, ?_, hI, by omega⟩
        rw [← e1, ← e2]; exact C.get _ (.head _)
      | cont =>
        obtain ⟨h, t, m, news, e, C, hI⟩ := q
        refine ⟨k - 1, by omega, h, t, m, news, i + 1, _, e, C, ?_, hI, by omega⟩
        rw [← e1, ← e2]; exact C.get _ (.head _)
      | brk => exact q
      | ret v => exact q
    · refine wpAny_pyNext_range_end hh hit (by omega) (fun h' hx' => ?_)
      have : i = n := by omega
      subst this
      exact done _ _ _ _ (C.ext hx') hI
  · have e : a + ((0 : Nat) : Int) * c = a := by simp
    rw [e, hn]
    have e2 : (n : Int) - ((0 : Nat) : Int) = n := by simp
    rw [e2]
    exact Heap.get?_push_size _ rfl
end
end Mine

namespace Mine
open PySem PySem.W PyProof.Rows PySem.Calls
set_option maxRecDepth 100000
set_option linter.unusedVariables false
theorem ba_noGetattr : typeLookup (.type "bytearray") "__getattr__" = pure none := by rw [typeLookup_type, builtinLookup_eq_fast]; kernel_rfl
theorem ba_getattribute : typeLookup (.type "bytearray") "__getattribute__" = pure (some (.builtin "bytearray.__getattribute__")) := by rw [typeLookup_type, builtinLookup_eq_fast]; kernel_rfl
theorem slot_upper : Slot "bytes" "upper" "bytes.upper" :=
  .of (owner := "bytes") (n := "upper") (by rw [typeLookup_type, builtinLookup_eq_fast]; kernel_rfl) (by decide +kernel) (by decide +kernel) (by decide +kernel)
    (by first | exact .inl (by decide +kernel) | exact .inr (by decide +kernel)) (by rw [isSubtype_type]; kernel_rfl)
theorem entry_upper : entryFor table "bytes.upper" = some Builtin.«bytes.upper» := by first | exact entryFor_of_fast (by kernel_rfl) | exact entryFor_of_tree (by kernel_rfl)
theorem args_upper (a : Value) : argsOk "bytes.upper" ⟨[a], []⟩ := by unfold argsOk; kernel_rfl
section
variable {prog : Program} {w : World} {A : Around} {E : Value → Shared → Prop} {h₀ h : Heap} {L l : Addr} {m : Str → Option Value} {news news' : List (Addr × Obj)}
  {g : Array GenState} {d : Drawn} {t : Nat} {o : OsState} {env : Env} {Q : Value → Shared → Prop} {s : Shared}
theorem r_getBAppend {pl : Sem Bool} {b : Array UInt8} {Q : Value × List Value → Shared → Prop} (hl : h.get? l = some (barr b)) (k : Q (.builtin "bytearray.append", [.ref l]) ⟨h, g, d, t, o⟩) :
    wpAny (model prog w) A (getMethod (.ref l) (Str.ofString "append") pl) Q E ⟨h, g, d, t, o⟩ :=
  getMethod_builtin (T := "bytearray") ⟨_, hl, rfl⟩ ⟨⟨_, ba_getattribute, by decide +kernel⟩, ba_noGetattr⟩ slot_append (by show builtinType _ = _; rw [builtinType_eq_fast]; kernel_rfl) (fun a e => by cases e; exact ⟨_, hl, rfl⟩) k
theorem r_getUpper {pl : Sem Bool} {b : Array UInt8} {tb : Tok} {Q : Value × List Value → Shared → Prop} (k : Q (.builtin "bytes.upper", [.bytes b tb]) ⟨h, g, d, t, o⟩) :
    wpAny (model prog w) A (getMethod (.bytes b tb) (Str.ofString "upper") pl) Q E ⟨h, g, d, t, o⟩ :=
  getMethod_value (T := "bytes") (typeIs_bytes _ _ _) (fun a e => by cases e) getattribute_bytes (by decide +kernel) noGetattr_bytes slot_upper.lookup (by kernel_rfl) k
theorem c_mcall {ob : Expr} {name : Str} {apos pos : Pos} {args : List Expr}
    (k : wpAny (model prog w) A (eval ob env) (fun ov s₁ => wpAny (model prog w) A (getMethod ov name (do return (← importBound ob env).getD true)) (fun fx s₂ => wpC (model prog w) A (callWith pos fx.1 fx.2 (backTo pos (starEach args env)) []) Q E s₂) E s₁) E s)
    (he : eval (.Call (.Attribute ob name apos) args [] pos) env = (do
      let ov ← eval ob env
      standAt apos.atName
      let (f, first) ← holding [ov] (getMethod ov name (do return (← importBound ob env).getD true))
      callWith pos f first (backTo pos (starEach args env)) []) := by kernel_rfl) :
    wpC (model prog w) A (eval (.Call (.Attribute ob name apos) args [] pos) env) Q E s := by
  rw [he]
  refine wpC_bind (wpC_of (wpAny_mono k (fun ov s₁ q => ?_) fun _ _ x => x))
  refine wpC_bind (wpC_standAt ?_)
  exact wpC_bind (wpC_holding (wpC_of (wpAny_mono q (fun fx s₂ q => q) fun _ _ x => x)))
/-- the method of what a call gave back -/
theorem c_mcallR {ob : Expr} {name : Str} {apos pos : Pos} {args : List Expr}
    (k : wpC (model prog w) A (eval ob env) (fun ov s₁ => wpAny (model prog w) A (getMethod ov name (do return (← importBound ob env).getD true)) (fun fx s₂ => wpAny (model prog w) A (callWith pos fx.1 fx.2 (backTo pos (starEach args env)) []) Q E s₂) E s₁) E s)
    (he : eval (.Call (.Attribute ob name apos) args [] pos) env = (do
      let ov ← eval ob env
      standAt apos.atName
      let (f, first) ← holding [ov] (getMethod ov name (do return (← importBound ob env).getD true))
      callWith pos f first (backTo pos (starEach args env)) []) := by kernel_rfl) :
    wpC (model prog w) A (eval (.Call (.Attribute ob name apos) args [] pos) env) Q E s := by
  rw [he]
  refine wpC_bind (wpC_mono k (fun ov s₁ q => ?_) fun _ _ x => x)
  refine wpC_bind (wpC_standAt ?_)
  exact wpC_bind (wpC_holding (wpC_of (wpAny_mono q (fun fx s₂ q => wpC_of q) fun _ _ x => x)))
theorem c_method1 {pos : Pos} {id : String} {first : List Value} {e : Expr} {rest : List Expr}
    (k : wpAny (model prog w) A (spliced (backTo pos (starEach (e :: rest) env))) (fun vs s₁ => wpC (model prog w) A (call (.builtin id) (first ++ vs)) Q E s₁) E s)
    (he : starEach (e :: rest) env = (false, eval e env) :: starEach rest env := by kernel_rfl)
    (hplain : (backTo pos (starEach rest env)).any (·.1) = false := by kernel_rfl) :
    wpC (model prog w) A (callWith pos (.builtin id) first (backTo pos (starEach (e :: rest) env)) []) Q E s := by
  rw [he] at k ⊢
  refine c_callWithB (by show (false || (backTo pos (starEach rest env)).any (·.1)) = false; rw [hplain]; rfl) ?_
  exact Calls.evalArgs_plain (wpAny_mono k (fun vs s₁ q => q) fun _ _ x => x)
theorem c_callf {mg : Str → Option Value} {nm : Str} {pa : Arguments} {bo : List Stmt} {sc : Scope} {pos : Pos} {a : Addr} {cd : Value} {e : Expr} {rest : List Expr} (f : Fn mg h₀ nm pa bo sc a cd)
    (k : wpAny (model prog w) A (spliced (backTo pos (starEach (e :: rest) env))) (fun vs s₁ => Kp h₀ s₁.heap ∧ wpC (model prog w) A (call (.ref a) vs) Q E s₁) E s)
    (he : starEach (e :: rest) env = (false, eval e env) :: starEach rest env := by kernel_rfl)
    (hplain : (backTo pos (starEach rest env)).any (·.1) = false := by kernel_rfl) :
    wpC (model prog w) A (callWith pos (.ref a) [] (backTo pos (starEach (e :: rest) env)) []) Q E s := by
  obtain ⟨ob, pm, doc, x, y⟩ := f.ob
  rw [he] at k ⊢
  refine c_callWithF (o := ob) (fd := docDef nm pa bo sc pm cd doc) (by show (false || (backTo pos (starEach rest env)).any (·.1)) = false; rw [hplain]; rfl) ?_
  exact Calls.evalArgs_plain (wpAny_mono k (fun vs s₁ q => ⟨⟨q.1 _ _ x, y⟩, q.2⟩) fun _ _ x => x)
def up (c : Int) : Int := if 97 ≤ c ∧ c ≤ 122 then c - 32 else c
theorem up_fin : ∀ i : Fin 256, ((Builtin.Bytes.toUpper i.val.toUInt8).toNat : Int) = up i.val := by decide +kernel
theorem r_upper {b : Array UInt8} {tb : Tok} (hz : b.size ≤ 1000000) (k : ∀ c t' tr, KBw.bInts c = (KBw.bInts b).map up → Q (.bytes c tr) ⟨h, g, d, t', o⟩) :
    wpAny (model prog w) A (call (.builtin "bytes.upper") [.bytes b tb]) Q E ⟨h, g, d, t, o⟩ := by
  refine wpAny_call_entry slot_upper (typeIs_bytes _ _ _) entry_upper ?_ (args_upper _)
  unfold Builtin.«bytes.upper» Builtin.Bytes.mappedM
  refine wpAny_bind (wpAny_of_eq (a := Value.bytes b tb) (by kernel_rfl) ?_)
  refine wpAny_bind (wpAny_pure (a := b) ?_)
  refine wpAny_bind ?_
  show wpAny _ _ (mkBytes _) _ _ _
  refine wpAny_mkBytes (wpAny_pure ⟨_, rfl, k _ _ _ ?_⟩) (by simp; rw [sizeLine_eq]; omega)
  unfold KBw.bInts
  rw [List.map_map, List.map_map]
  refine List.map_congr_left fun c _ => ?_
  have := up_fin ⟨c.toNat, c.toNat_lt⟩
  simpa using this
theorem c_callT0 {pos : Pos} {T : String} (k : wpC (model prog w) A (call (.type T) []) Q E s) :
    wpC (model prog w) A (callWith pos (.type T) [] (backTo pos (starEach [] env)) []) Q E s := by
  unfold callWith
  refine wpC_bind (wpC_holding (wpC_of (PyProof.Rows.evalArgs_nil3 ?_)))
  refine wpC_bind (wpC_standAt ?_)
  refine wpC_bind (wpC_pure ?_)
  exact wpC_bind (wpC_mono k (fun r s₂ q => wpC_bind (wpC_holding (wpC_of (wpAny_point (wpC_pure q))))) fun _ _ x => x)
theorem c_CallN {x : Str} {p pos : Pos} {args : List Expr}
    (k : wpAny (model prog w) A (eval (.Name x p) env) (fun f s₁ => wpC (model prog w) A (callWith pos f [] (backTo pos (starEach args env)) []) Q E s₁) E s) :
    wpC (model prog w) A (eval (.Call (.Name x p) args [] pos) env) Q E s := c_Call k rfl
end
end Mine

namespace Mine
open PySem PySem.W PyProof.Rows PySem.Calls
set_option maxRecDepth 100000
set_option linter.unusedVariables false
theorem bInts_inj {b c : Array UInt8} (h : KBw.bInts b = KBw.bInts c) : b = c := by
  have : b.toList = c.toList := by
    unfold KBw.bInts at h
    refine List.map_inj_right (f := fun c : UInt8 => ((c.toNat : Nat) : Int)) ?_ |>.mp h
    intro x y e
    exact UInt8.toNat_inj.mp (Int.ofNat.inj e)
  exact Array.toList_inj.mp this
section
variable {prog : Program} {w : World} {A : Around} {E : Value → Shared → Prop} {h₀ h : Heap} {L : Addr} {m : Str → Option Value} {news : List (Addr × Obj)}
  {g : Array GenState} {d : Drawn} {t : Nat} {o : OsState} {env : Env} {Q : Value → Shared → Prop} {b c : Array UInt8} {tb tc : Tok} {value slice : Expr}
theorem r_sliceB {vl vu : Value} {lo hi : Option Int} (C : Cx h₀ L h m news) (pl : IsPart vl lo) (pu : IsPart vu hi) (hz : b.size ≤ 1000000)
    (k : ∀ c h' t' tr, KBw.bInts c = pick (KBw.bInts b) lo hi → Cx h₀ L h' m news → Q (.bytes c tr) ⟨h', g, d, t', o⟩)
    (hs : subscripted slice false (.bytes b tb) (.ref h.objs.size) = operate [.ref h.objs.size, .bytes b tb] (getItem (.bytes b tb) (.ref h.objs.size)) := by kernel_rfl)
    (ht : ∀ r, letTemporaryGo value (.bytes b tb) r = pure () := by intro _; kernel_rfl) : SliceOn prog w A value slice (.bytes b tb) vl vu Q E ⟨h, g, d, t, o⟩ :=
  KBc.slice_K (s := ⟨h, g, d, t, o⟩) C.fr C.nw rfl pl pu (by rw [KBw.ints_length]; omega) (fun h' t' k' F N e => k _ h' k' t' e (C.ofN F N)) hs ht
theorem r_addB (hz : b.size + c.size ≤ 1000000) (k : ∀ x t' tr, KBw.bInts x = KBw.bInts b ++ KBw.bInts c → Q (.bytes x tr) ⟨h, g, d, t', o⟩) : wpAny (model prog w) A (binaryOp .Add (.bytes b tb) (.bytes c tc)) Q E ⟨h, g, d, t, o⟩ :=
  KBa.add_K rfl rfl (by rw [KBw.ints_length, KBw.ints_length]; omega) fun t' k' e => k _ k' t' e
theorem r_neB (e : KBw.bInts b = KBw.bInts c) (k : Q (.bool false) ⟨h, g, d, t, o⟩) : wpAny (model prog w) A (compareOp .NotEq (.bytes b tb) (.bytes c tc)) Q E ⟨h, g, d, t, o⟩ := by
  refine ne_bytes ?_
  rw [bInts_inj e]
  simpa using k
theorem r_eqB (e : KBw.bInts b = KBw.bInts c) (k : Q (.bool true) ⟨h, g, d, t, o⟩) : wpAny (model prog w) A (compareOp .Eq (.bytes b tb) (.bytes c tc)) Q E ⟨h, g, d, t, o⟩ := by
  refine eq_bytes ?_
  rw [bInts_inj e]
  simpa using k
end
end Mine

namespace Mine
open PySem PySem.W PyProof.Rows PySem.Calls PySem.SeqAt
set_option maxRecDepth 100000
set_option linter.unusedVariables false
section
variable {prog : Program} {w : World} {A : Around} {E : Value → Shared → Prop} {h₀ h : Heap} {L l l' : Addr} {m : Str → Option Value} {news : List (Addr × Obj)}
  {g : Array GenState} {d : Drawn} {t : Nat} {o : OsState} {env : Env} {Q : Value → Shared → Prop} {vs ws : List Value} {n n' : Nat} {ns ms : List Int}
theorem r_truthL {Q : Bool → Shared → Prop} (hx : h.get? l = some (lst vs n)) (hz : vs.length ≤ 1000000) (k : ∀ t', Q (!vs.isEmpty) ⟨h, g, d, t', o⟩) : wpAny (model prog w) A (truthy (.ref l)) Q E ⟨h, g, d, t, o⟩ := by
  refine wpAny_truthy_list (s := ⟨h, g, d, t, o⟩) (isl hx) (by simp; omega) ?_
  simpa using k _
theorem r_listL (C : Cx h₀ L h m news) (hx : h.get? l = some (lst vs n)) (hz : vs.length ≤ 1000000) (k : ∀ x h' e, Cx h₀ L h' m ((x, lst vs e) :: news) → Q (.ref x) ⟨h', g, d, t, o⟩) :
    wpAny (model prog w) A (call (.type "list") [.ref l]) Q E ⟨h, g, d, t, o⟩ := by
  have hs : vs.toArray.size ≤ sizeLine := by rw [sizeLine_eq]; simp; omega
  exact call_list_seq (s := ⟨h, g, d, t, o⟩) (hsz := hs) l (.inl rfl) hx rfl rfl fun h' c' hk hD => k _ h' c' (C.add hk (get_size h) hD)
theorem ints_eqAt {s : Shared} (hv : IntsAre vs ns) (hw : IntsAre ws ms) (j : Nat) (h1 : j < vs.length) (h2 : j < ws.length) : EqAt A s vs[j] ws[j] (decide (ns[j]? = ms[j]?)) := by
  obtain ⟨x, tx, e1, hx⟩ := ints_get'' hv (List.getElem?_eq_getElem h1)
  obtain ⟨y, ty, e2, hy⟩ := ints_get'' hw (List.getElem?_eq_getElem h2)
  rw [e1, e2, hx, hy]
  have := EqAt.int_int (A := A) (s := s) x tx y ty
  rw [show (x == y) = decide (some x = some y) from by by_cases q : x = y <;> simp [q]] at this
  exact this
where
  ints_get'' {vs : List Value} {ns : List Int} {i : Nat} {v : Value} (h : IntsAre vs ns) (e : vs[i]? = some v) : ∃ x t, v = .int x t ∧ ns[i]? = some x := by
    induction h generalizing i with
    | nil => simp at e
    | cons n t _ ih => cases i with
      | zero => simp at e; subst e; exact ⟨n, t, rfl, rfl⟩
      | succ i => simpa using ih (by simpa using e)
theorem r_neL_same (hx : h.get? l = some (lst vs n)) (hy : h.get? l' = some (lst ws n')) (hv : IntsAre vs ns) (hw : IntsAre ws ns) (hu : A.units + 64 < cLine) (k : Q (.bool false) ⟨h, g, d, t, o⟩) :
    wpAny (model prog w) A (compareOp .NotEq (.ref l) (.ref l')) Q E ⟨h, g, d, t, o⟩ := by
  have hlen : vs.length = ws.length := hv.length.trans hw.length.symm
  refine RcNeAt.lists (s := ⟨h, g, d, t, o⟩) (items := vs.toArray) (items2 := ws.toArray) (e := fun _ => true) (isl hx) (isl hy) (by simpa using hlen) (by omega) (fun j h1 h2 => ?_) prog w E Q ?_
  · have := ints_eqAt (A := A.in1) (s := ⟨h, g, d, t, o⟩) hv hw j (by simpa using h1) (by simpa using h2)
    simpa using this
  · rw [all_true]; exact k
theorem r_eqL_same (hx : h.get? l = some (lst vs n)) (hy : h.get? l' = some (lst ws n')) (hv : IntsAre vs ns) (hw : IntsAre ws ns) (hu : A.units + 64 < cLine) (k : Q (.bool true) ⟨h, g, d, t, o⟩) :
    wpAny (model prog w) A (compareOp .Eq (.ref l) (.ref l')) Q E ⟨h, g, d, t, o⟩ := by
  have hlen : vs.length = ws.length := hv.length.trans hw.length.symm
  refine eq_listAt (s := ⟨h, g, d, t, o⟩) (items := vs.toArray) (items2 := ws.toArray) (e := fun _ => true) (isl hx) (isl hy) (by simpa using hlen) (by omega) (fun j h1 h2 => ?_) ?_
  · have := ints_eqAt (A := A.in1) (s := ⟨h, g, d, t, o⟩) hv hw j (by simpa using h1) (by simpa using h2)
    simpa using this
  · rw [all_true]; exact k
theorem r_eqL_len (hx : h.get? l = some (lst vs n)) (hy : h.get? l' = some (lst ws n')) (hl : vs.length ≠ ws.length) (hu : A.units + 64 < cLine) (k : Q (.bool false) ⟨h, g, d, t, o⟩) :
    wpAny (model prog w) A (compareOp .Eq (.ref l) (.ref l')) Q E ⟨h, g, d, t, o⟩ :=
  eq_list_lengthsAt (s := ⟨h, g, d, t, o⟩) (isl hx) (isl hy) (by simpa using hl) (by omega) k
end
end Mine

namespace Mine
open PySem PySem.W PyProof.Rows PySem.Calls
set_option maxRecDepth 100000
set_option linter.unusedVariables false
/-- a cell's object -/
def celO (o : Obj) (v : Option Value) : Obj := { o with data := .cell v }
theorem celO_of {o : Obj} {v : Option Value} (h : o.data = .cell v) : o = celO o v := by cases o; simp only at h; subst h; rfl
section
variable {prog : Program} {w : World} {A : Around} {E : Value → Shared → Prop} {h₀ h : Heap} {L c : Addr} {m mg mb : Str → Option Value} {news news' : List (Addr × Obj)}
  {g : Array GenState} {d : Drawn} {t : Nat} {o : OsState} {env : Env} {ob : Obj} {v : Value}
theorem ldn_c {M : Model} {x : Str} {Q : Value → Shared → Prop} (C : Cx h₀ L h m news) (hm : (c, celO ob (some v)) ∈ news) (hc : env.cells.lookup x = some c) (k : Q v ⟨h, g, d, t, o⟩)
    (hl : env.kindOf x = some .cell := by kernel_rfl) (hk : env.scope.kind = .function := by kernel_rfl) : wpAny M A (loadName env x) Q E ⟨h, g, d, t, o⟩ :=
  wpAny_loadName_cell hk hl hc ⟨_, C.get _ hm, rfl⟩ k
theorem nm_c {M : Model} {x : Str} {pos : Pos} {Q : Value → Shared → Prop} (C : Cx h₀ L h m news) (hm : (c, celO ob (some v)) ∈ news) (hc : env.cells.lookup x = some c) (k : Q v ⟨h, g, d, t, o⟩)
    (hl : env.kindOf x = some .cell := by kernel_rfl) (hk : env.scope.kind = .function := by kernel_rfl) (hd : (x == ("__debug__" : Str)) = false := by kernel_rfl) : wpAny M A (eval (.Name x pos) env) Q E ⟨h, g, d, t, o⟩ :=
  wpAny_Name (ldn_c C hm hc k hl hk) hd
theorem nm_f {M : Model} {x : Str} {pos : Pos} {Q : Value → Shared → Prop} (C : Cx h₀ L h m news) (hm : (c, celO ob (some v)) ∈ news) (hc : env.cells.lookup x = some c) (k : Q v ⟨h, g, d, t, o⟩)
    (hl : env.kindOf x = some .free := by kernel_rfl) (hk : env.scope.kind = .function := by kernel_rfl) (hd : (x == ("__debug__" : Str)) = false := by kernel_rfl) (hn : (x == ("__classdict__" : Str)) = false := by kernel_rfl) :
    wpAny M A (eval (.Name x pos) env) Q E ⟨h, g, d, t, o⟩ :=
  wpAny_Name (wpAny_loadName_free hk hl hc ⟨_, C.get _ hm, rfl⟩ k hn) hd
theorem st_c {M : Model} {x : Str} {Q : Unit → Shared → Prop} {v₀ : Option Value} (C : Cx h₀ L h m news) (u : UpdAt c (celO ob v₀) (celO ob (some v)) news news') (hc : env.cells.lookup x = some c)
    (k : ∀ h', Cx h₀ L h' m news' → Q () ⟨h', g, d, t, o⟩)
    (hl : env.kindOf x = some .cell := by kernel_rfl) (hk : env.scope.kind = .function := by kernel_rfl) : wpAny M A (storeName env x v) Q E ⟨h, g, d, t, o⟩ := by
  unfold storeName
  simp only [hl, hk]
  refine wpAny_bind (wpAny_cellOf hc ?_)
  have hg := u.at C
  unfold cellSet
  refine wpAny_bind (wpAny_load hg ?_)
  have h2 : (h.update c (fun o => celO o (some v))).get? c = some (celO (celO ob v₀) (some v)) := Heap.get?_update_self (fun o => celO o (some v)) hg rfl
  exact wpAny_update hg (k _ (C.updAt u (.update ..) h2))
/-- what stands in a frame with one cell -/
theorem Cx.cell1 {s : Shared} {x : Str} {cv : Option Value} {lb : List (Str × Value)} {mL cm : Str → Option Value} {s' : Shared} (X : InCallC s s.heap.objs.size mL [(x, s.heap.objs.size + 1)] cm s')
    (hL : mL = lk lb (fun _ => none)) (hC : cm x = cv) : ∃ ob, Cx s.heap s.heap.objs.size s'.heap (lk lb (fun _ => none)) [(s.heap.objs.size + 1, celO ob cv)] := by
  obtain ⟨ob, h1, h2⟩ := X.cell x (s.heap.objs.size + 1) (by simp)
  rw [hC] at h2
  rw [celO_of h2] at h1
  refine ⟨ob, ⟨by rw [← hL]; exact ⟨X.toInCall.ns, X.toInCall.keep, X.toInCall.fresh⟩, ?_, ?_, by simp⟩⟩
  · intro p hp
    rw [List.mem_singleton.mp hp]; exact h1
  · intro p hp
    rw [List.mem_singleton.mp hp]
    exact ⟨Heap.get?_none_of_le (Nat.le_succ _), Nat.succ_ne_self _⟩
/-- a def with one cell is called -/
theorem call_fn1 {Q : Value → Shared → Prop} {name : Str} {params : Arguments} {body : List Stmt} {scope : Scope} {a : Addr} {cd : Value} {args : List Value} {binds lb : List (Str × Value)} {x : Str} {cv : Option Value}
    (G : Gl mg mb h) (f : Fn mg h name params body scope a cd) (hd : A.depth < recursionLimit)
    (k : ∀ ob h₁ t', Cx h h.objs.size h₁ (lk lb (fun _ => none)) [(h.objs.size + 1, celO ob cv)] →
      wpAny (model prog w) (A.deeper (envOfC name scope h.objs.size a cd)) (execs body (envOfC name scope h.objs.size a cd)) (fun f s' => Q (match f with | .ret v => v | _ => .none) s') (fun _ _ => False) ⟨h₁, g, d, t', o⟩)
    (hbind : ∀ pm doc, bindArgs (docDef name params body scope pm cd doc) ⟨args, []⟩ = pure binds)
    (hcs : ∀ n, cellsFrom n scope.names [] = [(x, n)])
    (hkind : ∀ y ∈ binds, scope.names.lookup y.1 = some .local ∨ (scope.names.lookup y.1 = some .cell ∧ y.1 = x))
    (hL : ∀ L a cd, bindL (envOfC name scope L a cd).kindOf binds (fun _ => none) = lk lb (fun _ => none)) (hC : ∀ L a cd, bindC (envOfC name scope L a cd).kindOf binds (fun _ => none) x = cv)
    (hco : scope.isCoroutine = false := by rfl) (hgen : scope.isGenerator = false := by rfl) (hk : scope.kind = .function := by rfl) :
    wpAny (model prog w) A (call (.ref a) args) Q E ⟨h, g, d, t, o⟩ := by
  obtain ⟨ob, pm, doc, hx, y⟩ := f.ob
  refine wpAny_call (codeAny_call_cells (fd := docDef name params body scope pm cd doc) hd hx y G.lim f.code rfl (hbind pm doc) rfl ?_ (fun s₁ X => ?_) hco hgen hk)
  · intro y hy
    rcases hkind y hy with q | ⟨q, e⟩
    · exact .inl q
    · refine .inr ⟨q, ?_⟩
      show ((cellsFrom _ scope.names []).lookup y.1).isSome = true
      rw [hcs, e]; simp
  · obtain ⟨h₁, tk, rfl, _⟩ := X.done
    have X' : InCallC ⟨h, g, d, t, o⟩ h.objs.size (bindL (envOfC name scope h.objs.size a cd).kindOf binds (fun _ => none)) [(x, h.objs.size + 1)] (bindC (envOfC name scope h.objs.size a cd).kindOf binds (fun _ => none)) ⟨h₁, g, d, tk, o⟩ := by
      rw [← hcs (h.objs.size + 1)]; exact X
    obtain ⟨ob, C⟩ := Cx.cell1 X' (hL _ _ _) (hC _ _ _)
    exact wpAny_mono (k ob h₁ tk C) (fun f s' q => q) (fun _ _ x => x.elim)
theorem call_fn1C {Q : Value → Shared → Prop} {name : Str} {params : Arguments} {body : List Stmt} {scope : Scope} {a : Addr} {cd : Value} {args : List Value} {binds lb : List (Str × Value)} {x : Str} {cv : Option Value}
    (G : Gl mg mb h) (f : Fn mg h name params body scope a cd) (hd : A.depth < recursionLimit)
    (k : ∀ ob h₁ t', Cx h h.objs.size h₁ (lk lb (fun _ => none)) [(h.objs.size + 1, celO ob cv)] →
      wpC (model prog w) (A.deeper (envOfC name scope h.objs.size a cd)) (execs body (envOfC name scope h.objs.size a cd)) (fun f s' => Q (match f with | .ret v => v | _ => .none) s') (fun _ _ => False) ⟨h₁, g, d, t', o⟩)
    (hbind : ∀ pm doc, bindArgs (docDef name params body scope pm cd doc) ⟨args, []⟩ = pure binds)
    (hcs : ∀ n, cellsFrom n scope.names [] = [(x, n)])
    (hkind : ∀ y ∈ binds, scope.names.lookup y.1 = some .local ∨ (scope.names.lookup y.1 = some .cell ∧ y.1 = x))
    (hL : ∀ L a cd, bindL (envOfC name scope L a cd).kindOf binds (fun _ => none) = lk lb (fun _ => none)) (hC : ∀ L a cd, bindC (envOfC name scope L a cd).kindOf binds (fun _ => none) x = cv)
    (hco : scope.isCoroutine = false := by rfl) (hgen : scope.isGenerator = false := by rfl) (hk : scope.kind = .function := by rfl) :
    wpC (model prog w) A (call (.ref a) args) Q E ⟨h, g, d, t, o⟩ := by
  obtain ⟨ob, pm, doc, hx, y⟩ := f.ob
  refine wpC_call (codeC_call hd hx y hco hgen rfl f.code ?_)
  rw [hbind]
  refine wpAny_pure (wpAny_newFunctionEnv_cells hk ?_ fun env he s' X => ?_)
  · intro y hy
    rcases hkind y hy with q | ⟨q, e⟩
    · exact .inl q
    · refine .inr ⟨q, ?_⟩
      show ((cellsFrom _ scope.names []).lookup y.1).isSome = true
      rw [hcs, e]; simp
  · subst he
    obtain ⟨h₁, tk, rfl, _⟩ := X.done
    have X' : InCallC ⟨h, g, d, t, o⟩ h.objs.size (bindL (envOfC name scope h.objs.size a cd).kindOf binds (fun _ => none)) [(x, h.objs.size + 1)] (bindC (envOfC name scope h.objs.size a cd).kindOf binds (fun _ => none)) ⟨h₁, g, d, tk, o⟩ := by
      rw [← hcs (h.objs.size + 1)]; exact X
    obtain ⟨ob, C⟩ := Cx.cell1 X' (hL _ _ _) (hC _ _ _)
    refine ⟨G.lim.keeps X.toInCall.keep, ?_⟩
    show codeC _ _ (.func body (envOfC name scope h.objs.size a cd)) _ _
    exact codeC_func (wpC_mono (k ob h₁ tk C) (fun f s' q => q) (fun _ _ x => x))
end
end Mine

namespace Mine
open PySem PySem.W PyProof.Rows PySem.Calls
set_option maxRecDepth 100000
set_option linter.unusedVariables false
section
variable {prog : Program} {w : World} {A : Around} {E : Value → Shared → Prop} {h₀ h : Heap} {L : Addr} {m : Str → Option Value} {news : List (Addr × Obj)}
  {g : Array GenState} {d : Drawn} {t : Nat} {o : OsState} {env : Env}
/-- a comprehension over octets -/
theorem r_compB {elt iter : Expr} {x : Str} {px : Pos} {scope : Scope} {cl : List (Str × Addr)} {pos : Pos} {s : Shared} {Q : Value → Shared → Prop} (C₀ : Cx h₀ L h m news) (F : Value → Value → Prop) (hh : A.handled = none)
    (hclos : closureFor scope env = pure cl) (hcell : ∀ y ∈ scope.names, y.2 ≠ .cell) (hnames : ∀ y ∈ scope.names, y.2 = .local → scope.names.lookup y.1 = some .local)
    (hiter : wpAny (model prog w) A (eval iter env) (fun v s₁ => ∃ (b : Array UInt8) (tb : Tok) (h : Heap) (t : Nat) (news : List (Addr × Obj)), v = .bytes b tb ∧ s₁ = ⟨h, g, d, t, o⟩ ∧ Cx h₀ L h m news ∧ b.size ≤ 1000000 ∧
      (∀ C' c tv h3 g3 d3 t3 o3 m3 E', c ∈ KBw.bInts b → Kp h h3 → Cx h₀ C' h3 (lk [(x, .int c tv)] m3) news → wpAny (model prog w) A (eval elt (compEnvC scope cl C' env)) (fun y s₄ => F (.int c tv) y ∧ Keeps ⟨h3, g3, d3, t3, o3⟩ s₄) E' ⟨h3, g3, d3, t3, o3⟩) ∧
      (∀ a h' t' us ys e, Cx h₀ L h' m ((a, lst ys e) :: news) → Kp h h' → IntsAre us (KBw.bInts b) → Paired F us ys → Q (.ref a) ⟨h', g, d, t', o⟩)) E s)
    (hkind : scope.kind = .function := by kernel_rfl) (hx : scope.names.lookup x = some .local := by kernel_rfl)
    (hs : ∀ x, foldedSetIterable iter env x = pure x := by intro _; kernel_rfl) :
    wpAny (model prog w) A (eval (.ListComp elt [⟨.Name x px, iter, [], 0⟩] scope pos) env) Q E s := by
  refine wpAny_ListComp_free (cl := cl) (fun _ => true) F hclos hcell hkind hnames hx (wpAny_mono hiter ?_ fun _ _ x => x) hs
  rintro v s₁ ⟨b, tb, h, t, news, rfl, rfl, C, hz, helt, hk⟩
  refine KBw.pyIter_bytes ⟨h.objs.size, [h.objs.size], [h.objs.size], b.size, _, _, rfl, KBw.walks hh _ b tb, by rw [sizeLine_eq]; omega, ?_, ?_, ⟨?_, ?_⟩, ?_⟩
  · exact ⟨_, Heap.get?_push_size _ rfl, rfl, rfl⟩
  · intro b hb
    show b < (h.push _).objs.size
    rw [Heap.size_push, List.mem_singleton.mp hb]
    exact Nat.lt_succ_self _
  · intro C' i v s₃ m₃ E' _ _ _ _ _ _
    exact wpAny_tests_nil ⟨rfl, _, _, rfl, fun _ _ e => e⟩
  · rintro C' i v ⟨h3, g3, d3, t3, o3⟩ m₃ E' hC ⟨c, u, hc, rfl⟩ _ hn hx' hk' _
    exact helt C' _ u h3 g3 d3 t3 o3 m₃ E' (List.mem_of_getElem? (KBw.ints_get hc)) (fun b ob e => hk' b ob (not_size e) (Heap.get?_push_of_some _ e)) (C.comp hC hn hx' hk')
  · intro D h' tk ys us hD hl' hpl hlen hP hF hk'
    have hK : Kp h h' := fun b ob e => hk' b ob (not_size e) (Heap.get?_push_of_some _ e)
    obtain ⟨e, he⟩ := hpl
    have hus : IntsAre us (KBw.bInts b) := by
      refine ints_of_get (by rw [hlen, KBw.ints_length]) fun j v hv => ?_
      obtain ⟨c, u, hc, rfl⟩ := hP j v hv
      exact ⟨_, u, KBw.ints_get hc, rfl⟩
    have e1 : us.filter (fun _ => true) = us := by simp
    rw [e1] at hF
    exact hk D h' tk us ys.toList e (C.add hK ((Kp.push h _).free hD) (by simpa using he)) hK hus hF
where
  ints_of_get : ∀ {us : List Value} {ns : List Int}, us.length = ns.length → (∀ (j : Nat) v, us[j]? = some v → ∃ c u, ns[j]? = some c ∧ v = .int c u) → IntsAre us ns
    | [], [], _, _ => .nil
    | v :: us, c :: ns, hl, h => by
      obtain ⟨c', u, hc, rfl⟩ := h 0 v rfl
      cases hc
      exact .cons _ _ (ints_of_get (by simpa using hl) fun j v hv => h (j + 1) v hv)
    | [], _ :: _, hl, _ => by simp at hl
    | _ :: _, [], hl, _ => by simp at hl
/-- a name is given a comprehension over a range -/
theorem r_acompR {elt iter : Expr} {x y : Str} {px py : Pos} {ifs : List Expr} {scope : Scope} {cl : List (Str × Addr)} {pos spos : Pos} {s : Shared} {Q : Flow → Shared → Prop} {lm : List (Str × Value)} (C₀ : Cx h₀ L h (lk lm m) news) (p : Value → Bool) (F : Value → Value → Prop) (hh : A.handled = none)
    (hclos : closureFor scope env = pure cl) (hcell : ∀ y ∈ scope.names, y.2 ≠ .cell) (hnames : ∀ y ∈ scope.names, y.2 = .local → scope.names.lookup y.1 = some .local)
    (hiter : wpAny (model prog w) A (eval iter env) (fun v s₁ => ∃ (r : Addr) (a b c : Int) (n : Nat) (h : Heap) (t : Nat) (news : List (Addr × Obj)) (t1 t2 t3 : Tok), v = .ref r ∧ s₁ = ⟨h, g, d, t, o⟩ ∧ Cx h₀ L h (lk lm m) news ∧ IsRange h r a b c t1 t2 t3 ∧ Builtin.Range.small a b c = true ∧ Builtin.Range.rangeSize a b c = (n : Int) ∧ n ≤ 1000000 ∧
      (∀ C' i tv h3 g3 d3 t3 o3 m3 E', i < n → Kp h h3 → Cx h₀ C' h3 (lk [(x, .int (a + (i : Int) * c) tv)] m3) news → wpAny (model prog w) A (forIn ifs true fun c r => if r = true then do let ok ← isTrue c (compEnvC scope cl C' env) (eval c (compEnvC scope cl C' env)); pure (ForInStep.yield ok) else pure (ForInStep.yield r))
        (fun ok s₄ => ok = p (.int (a + (i : Int) * c) tv) ∧ Keeps ⟨h3, g3, d3, t3, o3⟩ s₄) E' ⟨h3, g3, d3, t3, o3⟩) ∧
      (∀ C' i tv h3 g3 d3 t3 o3 m3 E', i < n → p (.int (a + (i : Int) * c) tv) = true → Kp h h3 → Cx h₀ C' h3 (lk [(x, .int (a + (i : Int) * c) tv)] m3) news → wpAny (model prog w) A (eval elt (compEnvC scope cl C' env)) (fun y s₄ => F (.int (a + (i : Int) * c) tv) y ∧ Keeps ⟨h3, g3, d3, t3, o3⟩ s₄) E' ⟨h3, g3, d3, t3, o3⟩) ∧
      (∀ x h' t' (us ys : List Value) e, Cx h₀ L h' (lk ((y, .ref x) :: lm) m) ((x, lst ys e) :: news) → us.length = n → (∀ (j : Nat) v, us[j]? = some v → ∃ t, v = .int (a + (j : Int) * c) t) → Paired F (us.filter p) ys → Q .next ⟨h', g, d, t', o⟩)) E s)
    (hL : env.locals = L := by kernel_rfl) (hy : env.kindOf y = some .local := by kernel_rfl) (hp : (env.scope.kind == .class || (env.scope.kind == .module && env.locals != env.globals)) = false := by kernel_rfl)
    (hsw : swapsWith (.ListComp elt [⟨.Name x px, iter, ifs, 0⟩] scope pos) (some (.Name y py)) spos.line env = pure true := by kernel_rfl)
    (hkind : scope.kind = .function := by kernel_rfl) (hx : scope.names.lookup x = some .local := by kernel_rfl)
    (hs : ∀ x, foldedSetIterable iter env x = pure x := by intro _; kernel_rfl) :
    wpAny (model prog w) A (exec (.Assign [.Name y py] (.ListComp elt [⟨.Name x px, iter, ifs, 0⟩] scope pos) spos) env) Q E s := by
  subst hL
  refine wpAny_Assign_ListComp_free (cl := cl) p F hsw hclos hcell hkind hnames hx hy hp (wpAny_mono hiter ?_ fun _ _ x => x) hs
  rintro v s₁ ⟨r, a, b, c, n, h, t, news, t1, t2, t3, rfl, rfl, C, hr, hsm, hn, hz, htest, helt, hk⟩
  have hLs : env.locals < h.objs.size := C.lt
  refine wpAny_pyIter_range hr hsm ⟨h.objs.size, [h.objs.size], [h.objs.size], n, _, _, lk lm m, rfl, (Walks.range hh _ a c n).bound, by rw [sizeLine_eq]; omega, ?_, ?_, ?_, ?_, ⟨?_, ?_⟩, ?_⟩
  · show IsRangeIter _ _ _ _ _
    rw [hn]
    simpa using Heap.get?_push_size _ rfl
  · intro b hb
    show b < (h.push _).objs.size
    rw [Heap.size_push, List.mem_singleton.mp hb]
    exact Nat.lt_succ_self _
  · intro hm
    exact absurd hLs (by rw [List.mem_singleton.mp hm]; exact Nat.lt_irrefl _)
  · exact C.fr.ns.keeps (Kp.push h _)
  · rintro C' i v ⟨h3, g3, d3, t3, o3⟩ m₃ E' hC ⟨hi, tv, rfl⟩ hn' hx' hk' _
    exact htest C' i tv h3 g3 d3 t3 o3 m₃ E' hi (fun b ob e => hk' b ob (not_size e) (Heap.get?_push_of_some _ e)) (C.comp hC hn' hx' hk')
  · rintro C' i v ⟨h3, g3, d3, t3, o3⟩ m₃ E' hC ⟨hi, tv, rfl⟩ hp hn' hx' hk' _
    exact helt C' i tv h3 g3 d3 t3 o3 m₃ E' hi hp (fun b ob e => hk' b ob (not_size e) (Heap.get?_push_of_some _ e)) (C.comp hC hn' hx' hk')
  · intro D h' tk ys us hD hl' hpl hlen hP hF hns hk'
    have hK : ∀ b ob, b ≠ env.locals → h.get? b = some ob → h'.get? b = some ob := fun b ob hb e => hk' b ob hb (not_size e) (Heap.get?_push_of_some _ e)
    obtain ⟨e, he⟩ := hpl
    have hfr := C.free ((Kp.push h _).free hD)
    have hL0 := C.L0
    refine hk D h' tk us ys.toList e ⟨⟨hns, fun b ob q => hK b ob (fun z => by rw [z, hL0] at q; cases q) (C.fr.keep b ob q), C.fr.above⟩, ?_, ?_, List.nodup_cons.mpr ⟨hfr.2.2, C.nod⟩⟩ hlen (fun j v q => (hP j v q).2) hF
    · intro q hq
      rcases List.mem_cons.mp hq with rfl | hq
      · simpa using he
      · exact hK _ _ (C.low q hq).2 (C.get q hq)
    · intro q hq
      rcases List.mem_cons.mp hq with rfl | hq
      · exact ⟨hfr.1, hfr.2.1⟩
      · exact C.low q hq
end
end Mine

namespace Mine
open PySem PySem.W PyProof.Rows PySem.Calls
set_option maxRecDepth 100000
set_option linter.unusedVariables false
section
variable {α : Type} {M : Model} {A : Around} {E : Value → Shared → Prop} {s : Shared} {env : Env}
theorem wpC_attempt {m : Sem α} {Q : Except Value α → Shared → Prop} (h : wpC M A m (fun a => Q (.ok a)) (fun e => Q (.error e)) s) :
    wpC M A m.attempt Q E s := fun Γ p hΓ h1 h2 => by rw [Sem.wp_attempt]; exact h Γ p hΓ h1 h2
theorem wpC_standIf {c : Prop} [Decidable c] {pos : Pos} {k : Unit → Sem α} {Q : α → Shared → Prop} (h : wpC M A (k ()) Q E s) : wpC M A (if c then (standAt pos >>= k) else k ()) Q E s := by
  split
  · exact wpC_bind (wpC_standAt h)
  · exact h
theorem codeC_mono {c : Code} {R R' : Result → Shared → Prop} (h : codeC M A c R s) (hR : ∀ r s, R r s → R' r s) : codeC M A c R' s :=
  fun Γ p hc hΓ hb => wpCode_mono (fun r s => hR r s) (h Γ p hc hΓ hb)
theorem wpC_comprehension {e : Expr} {scope : Scope} {pos : Pos} {newAcc first : Sem Value} {g : Comprehension} {gs : List Comprehension} {cl : List (Str × Addr)}
    {Q : Value → Shared → Prop}
    (hcl : clausesOf e = g :: gs) (hs : ∀ x, foldedSetIterable g.iter env x = pure x) (hclos : closureFor scope env = pure cl)
    (hkind : scope.kind = .function) (hnames : ∀ x ∈ scope.names, x.2 = .local → scope.names.lookup x.1 = some .local)
    (h : wpAny M A first (fun x s₁ => wpAny M A (pyIter x) (fun it s₂ => wpAny M A newAcc (fun acc s₃ =>
      wpAny M A (newFunctionEnv scope env.globals cl [] env.qual none .none (some env)) (fun cenv s₄ =>
        codeC M A (.compStart e 0 it acc { cenv with scope := relabel scope env }) (fun r s' => match r with
          | .ok _ => ∃ m, s'.heap.Ns cenv.locals m ∧ ∀ h', Heap.SameBut cenv.locals s'.heap h' → Q acc { s' with heap := h' }
          | .error _ => False) s₄) E s₃) E s₂) E s₁) E s) :
    wpC M A (comprehension e scope env pos newAcc false first none) Q E s := by
  unfold comprehension
  rw [hclos, hcl]
  refine wpC_bind (wpC_of (wpAny_mono h (fun x s₁ h₁ => wpC_bind (wpC_standAt (wpC_bind (wpC_of (wpAny_of_eq (hs x) (wpC_bind (wpC_holding (wpC_of (wpAny_mono h₁ (fun it s₂ h₂ =>
    wpC_standIf (wpC_bind (wpC_of (wpAny_mono h₂ (fun acc s₃ h₃ => wpC_bind (wpC_pure (wpC_bind (wpC_of (wpAny_mono h₃ (fun cenv s₄ h₄ => ?_) fun _ _ h' => h'))))) fun _ _ h' => h'))))
      fun _ _ h' => h'))))))))) fun _ _ h' => h'))
  dsimp only
  have hv : ∀ x ∈ (scope.names.filter fun x => (x.2 == .local || x.2 == .cell) && x.1 != (".0" : Str)).reverse, x.2 = .local →
      Env.kindOf { cenv with scope := relabel scope env } x.1 = some .local := fun x hx hl => lookup_relabel_local (hnames x (List.mem_filter.mp (List.mem_reverse.mp hx)).1 hl)
  refine wpC_holding (wpC_bind (wpC_attempt (wpC_holding (wpC_run (codeC_mono h₄ fun r s' hr => ?_)))))
  cases r with
  | ok f =>
    obtain ⟨m, hn, hr⟩ := hr
    exact wpC_of (wpAny_bind (wpAny_holding (wpAny_comp_letGo (cenv := { cenv with scope := relabel scope env }) hkind _ s' m hv hn fun h' m' _ hs' => wpAny_pure (hr h' hs'))))
  | error x => exact hr.elim
end
section
variable {prog : Program} {w : World} {A : Around} {E : Value → Shared → Prop} {R : Result → Shared → Prop} {s : Shared}
theorem codeC_compLoop {elt iter : Expr} {x : Str} {px : Pos} {scope : Scope} {pos : Pos} {it acc : Value} {env : Env} (I : Nat → Shared → Prop)
    (turn : ∀ n s, I n s → wpAny (model prog w) A (pyNext it) (fun r s₁ => match r with
      | none => R (.ok .next) s₁
      | some v => wpAny (model prog w) A (assign (.Name x px) env v) (fun _ s₂ => wpC (model prog w) A (eval elt env) (fun y s₃ =>
          wpAny (model prog w) A (call (.builtin "list.append") [acc, y]) (fun _ s₄ => ∃ m, m < n ∧ I m s₄) (fun _ _ => False) s₃)
          (fun _ _ => False) s₂) (fun _ _ => False) s₁) (fun _ _ => False) s)
    (n : Nat) (h : I n s) :
    codeC (model prog w) A (.compLoop (.ListComp elt [⟨.Name x px, iter, [], 0⟩] scope pos) 0 it acc env) R s := by
  refine codeC_loop rfl rfl I (fun n s hI => ?_) n h
  show wpC _ A ((compTurn (.ListComp elt [⟨.Name x px, iter, [], 0⟩] scope pos) 0 it acc env).onRaise (fun x => do noteFrame x env; theTreesLotGoes x)) _ _ s
  refine wpC_onRaise ?_
  rw [compTurn_list1]
  refine wpC_bind (wpC_standAt (wpC_bind (wpC_of (wpAny_mono (turn n s hI) (fun r s₁ h₁ => ?_) fun _ _ h' => h'))))
  cases r with
  | none => exact wpC_pure h₁
  | some v =>
    refine wpC_bind (wpC_pure ?_)
    exact wpC_bind (wpC_of (wpAny_mono h₁ (fun _ s₂ h₂ => wpC_bind (wpC_bind (wpC_mono h₂ (fun x s₃ h₃ => wpC_bind (wpC_of (wpAny_mono h₃
      (fun _ s₄ h₄ => wpC_pure (wpC_pure ⟨rfl, h₄⟩)) fun _ _ h' => h'))) fun _ _ h' => h'))) fun _ _ h' => h'))
theorem codeC_compStart {elt target iter ifs rest scope pos it acc env}
    (h0 : codeC (model prog w) A (.compLoop (.ListComp elt (⟨target, iter, ifs, 0⟩ :: rest) scope pos) 0 it acc env) R s)
    (h : wpAny (model prog w) A (pyIter it) (fun it' s' => codeC (model prog w) A (.compLoop (.ListComp elt (⟨target, iter, ifs, 0⟩ :: rest) scope pos) 0 it' acc env) R s') (fun _ _ => False) s) :
    codeC (model prog w) A (.compStart (.ListComp elt (⟨target, iter, ifs, 0⟩ :: rest) scope pos) 0 it acc env) R s := by
  refine codeC_of_tree rfl ?_
  show wpC _ A ((compStart (.ListComp elt (⟨target, iter, ifs, 0⟩ :: rest) scope pos) 0 it acc env).onRaise (fun x => do noteFrame x env; standAt theWindowsPlace)) _ _ s
  refine wpC_onRaise ?_
  unfold compStart
  show wpC _ _ (ask >>= _) _ _ s
  refine wpC_bind (wpC_of (wpAny_askSetting ?_))
  split
  · first
      | exact wpC_bind (wpC_pure (wpC_pure (And.intro rfl h0)))
      | exact wpC_pure (And.intro rfl h0)
  · refine wpC_bind (wpC_of (wpAny_rule ?_))
    show wpC _ _ (standAt iter.pos >>= _) _ _ s
    exact wpC_bind (wpC_standAt (wpC_bind (wpC_of (wpAny_mono h (fun it' s' h' => wpC_pure (And.intro rfl h')) fun _ _ x => x))))
end
section
variable {prog : Program} {w : World} {A : Around} {E : Value → Shared → Prop} {h₀ h : Heap} {L : Addr} {m : Str → Option Value} {news : List (Addr × Obj)}
  {g : Array GenState} {d : Drawn} {t : Nat} {o : OsState} {env : Env}
/-- a comprehension over a list, its element in the caller's own context -/
theorem r_compLC {elt iter : Expr} {x : Str} {px : Pos} {scope : Scope} {cl : List (Str × Addr)} {pos : Pos} {s : Shared} {Q : Value → Shared → Prop} (C₀ : Cx h₀ L h m news) (F : Value → Value → Prop) (hh : A.handled = none)
    (hclos : closureFor scope env = pure cl) (hcell : ∀ y ∈ scope.names, y.2 ≠ .cell) (hnames : ∀ y ∈ scope.names, y.2 = .local → scope.names.lookup y.1 = some .local)
    (hiter : wpAny (model prog w) A (eval iter env) (fun v s₁ => ∃ l vs n h t news, v = .ref l ∧ s₁ = ⟨h, g, d, t, o⟩ ∧ Cx h₀ L h m news ∧ h.get? l = some (lst vs n) ∧ vs.length ≤ 1000000 ∧
      (∀ C' v h3 t3 m3, v ∈ vs → Kp h h3 → Cx h₀ C' h3 (lk [(x, v)] m3) news → wpC (model prog w) A (eval elt (compEnvC scope cl C' env)) (fun y s₄ => F v y ∧ Keeps ⟨h3, g, d, t3, o⟩ s₄) (fun _ _ => False) ⟨h3, g, d, t3, o⟩) ∧
      (∀ a h' t' ys e, Cx h₀ L h' m ((a, lst ys e) :: news) → Kp h h' → Paired F vs ys → Q (.ref a) ⟨h', g, d, t', o⟩)) E s)
    (hkind : scope.kind = .function := by kernel_rfl) (hx : scope.names.lookup x = some .local := by kernel_rfl)
    (hs : ∀ x, foldedSetIterable iter env x = pure x := by intro _; kernel_rfl) :
    wpC (model prog w) A (eval (.ListComp elt [⟨.Name x px, iter, [], 0⟩] scope pos) env) Q E s := by
  rw [eval_ListComp]
  refine wpC_comprehension rfl hs hclos hkind hnames (wpAny_mono hiter (fun xv s₁ h₁ => ?_) fun _ _ e => e)
  obtain ⟨l, vs, n, h, t, news, rfl, rfl, C, hl, hz, helt, hfin⟩ := h₁
  refine wpAny_pyIter_list (isl hl) ?_
  refine wpAny_newObj_type (wpAny_newFunctionEnv hcell (by intro y hy; simp at hy) (fun h₁ hns₁ hsb₁ => ?_) hkind)
  dsimp only at hns₁ hsb₁ ⊢
  generalize hH1 : h.push { cls := .type "list_iterator", data := .fields #[.ref l, .int 0 0] } = H1 at hns₁ hsb₁ ⊢
  generalize hH2 : H1.push { cls := .type "list", dict := none, data := .seq ([] : List Value).toArray } = H2 at hns₁ hsb₁ ⊢
  have hS1 : H1.objs.size = h.objs.size + 1 := by rw [← hH1, Heap.size_push]
  have hS2 : H2.objs.size = h.objs.size + 2 := by rw [← hH2, Heap.size_push, hS1]
  have hIC : h.objs.size ≠ H2.objs.size := by rw [hS2]; exact Nat.ne_of_lt (Nat.lt_add_of_pos_right (by decide))
  have hID : h.objs.size ≠ H1.objs.size := by rw [hS1]; exact Nat.ne_of_lt (Nat.lt_succ_self _)
  have hDC : H1.objs.size ≠ H2.objs.size := by rw [hS1, hS2]; exact Nat.ne_of_lt (Nat.lt_succ_self _)
  have below : ∀ b, b < h.objs.size → b ≠ h.objs.size ∧ b ≠ H1.objs.size ∧ b ≠ H2.objs.size := fun b hb =>
    ⟨Nat.ne_of_lt hb, by rw [hS1]; exact Nat.ne_of_lt (Nat.lt_succ_of_lt hb), by rw [hS2]; exact Nat.ne_of_lt (Nat.lt_of_lt_of_le hb (Nat.le_add_right _ 2))⟩
  have up1 : ∀ b ob, h.get? b = some ob → H1.get? b = some ob := fun b ob e => by rw [← hH1]; exact Heap.get?_push_of_some _ e
  have up2 : ∀ b ob, H1.get? b = some ob → H2.get? b = some ob := fun b ob e => by rw [← hH2]; exact Heap.get?_push_of_some _ e
  have up3 : ∀ b ob, b ≠ H2.objs.size → H2.get? b = some ob → h₁.get? b = some ob := fun b ob hb e => hsb₁.extBut b ob hb (Heap.get?_push_of_some _ e)
  have hkb : Kp h h₁ := fun b ob e => up3 b ob (below b (Heap.lt_size e)).2.2 (up2 _ _ (up1 _ _ e))
  have hit : h₁.IsListIter h.objs.size l 0 := by
    have e1 : H1.get? h.objs.size = some { cls := .type "list_iterator", data := .fields #[.ref l, .int 0 0] } := by rw [← hH1]; exact Heap.get?_push_size _ rfl
    exact ⟨_, up3 _ _ hIC (up2 _ _ e1), rfl, rfl⟩
  have hacc : h₁.get? H1.objs.size = some (lst [] 0) := by
    have e1 : H2.get? H1.objs.size = some (lst [] 0) := by rw [← hH2]; exact Heap.get?_push_size _ rfl
    exact up3 _ _ hDC e1
  have hIfr : h.get? h.objs.size = none := get_size h
  have hDfr : h.get? H1.objs.size = none := get_past (by rw [hS1]; exact Nat.le_succ _)
  have hCfr : h.get? H2.objs.size = none := get_past (by rw [hS2]; exact Nat.le_add_right _ 2)
  have loop : ∀ s₃ : Shared, s₃ = ⟨h₁, g, d, t + ([] : List (Str × Value)).length, o⟩ →
      codeC (model prog w) A (.compLoop (.ListComp elt [⟨.Name x px, iter, [], 0⟩] scope pos) 0 (.ref h.objs.size) (.ref H1.objs.size) (compEnvC scope cl H2.objs.size env))
        (fun r s' => match r with
          | .ok _ => ∃ m, s'.heap.Ns H2.objs.size m ∧ ∀ h', Heap.SameBut H2.objs.size s'.heap h' → Q (.ref H1.objs.size) { s' with heap := h' }
          | .error _ => False) s₃ := by
    rintro s₃ rfl
    refine codeC_compLoop
      (fun k s' => ∃ (h' : Heap) (t i : Nat) (zs : List Value) (m' : Str → Option Value) (e : Nat), s' = ⟨h', g, d, t, o⟩ ∧ i + k = vs.length ∧
        h'.IsListIter h.objs.size l i ∧ Kp h h' ∧ h'.Ns H2.objs.size m' ∧ h'.get? H1.objs.size = some (lst zs e) ∧ zs.length = i ∧ Paired F (vs.take i) zs) ?_ vs.length
      ⟨h₁, _, 0, [], _, 0, rfl, by omega, hit, hkb, hns₁, hacc, rfl, .nil⟩
    rintro k s' ⟨h', t', i, zs, m', e, rfl, hi, hit', hkb', hn', hzs, hzl, hF⟩
    cases hv : vs[i]? with
    | none =>
      refine wpAny_pyNext_list_end hh hit' (isl (hkb' _ _ hl)) (by simpa using hv) (fun h2 hx2 => ?_)
      have hi0 : i = vs.length := by
        have := List.getElem?_eq_none_iff.mp hv
        omega
      have kb2 : Kp h h2 := fun b ob q => hx2 b ob (below b (Heap.lt_size q)).1 (hkb' b ob q)
      refine ⟨m', hn'.at' fun ob q => hx2 _ ob (Ne.symm hIC) q, fun h3 hs3 => ?_⟩
      have kb3 : Kp h h3 := fun b ob q => hs3.extBut b ob (below b (Heap.lt_size q)).2.2 (kb2 b ob q)
      have hz3 : h3.get? H1.objs.size = some (lst zs e) := hs3.extBut _ _ hDC (hx2 _ _ (Ne.symm hID) hzs)
      rw [hi0, List.take_length] at hF
      exact hfin _ h3 _ zs e (C.add kb3 hDfr hz3) kb3 hF
    | some v =>
      have hlt : i < vs.length := (List.getElem?_eq_some_iff.mp hv).1
      refine wpAny_pyNext_list_item hit' (isl (hkb' _ _ hl)) (by simpa using hv) (fun h2 hit2 hs2 => ?_)
      have kb2 : Kp h h2 := fun b ob q => hs2.extBut b ob (below b (Heap.lt_size q)).1 (hkb' b ob q)
      refine wpAny_assign_Name (wpAny_storeName_local (lookup_relabel_local hx) (hn'.at' fun ob q => hs2.extBut _ ob (Ne.symm hIC) q) (fun h3 hn3 hs3 => ?_) (by simp [compEnvC, relabel, hkind]))
      have kb3 : Kp h h3 := fun b ob q => hs3.extBut b ob (below b (Heap.lt_size q)).2.2 (kb2 b ob q)
      have hz3 : h3.get? H1.objs.size = some (lst zs e) := hs3.extBut _ _ hDC (hs2.extBut _ _ (Ne.symm hID) hzs)
      have hit3 : h3.IsListIter h.objs.size l (i + 1) := by
        obtain ⟨ob, q1, q2, q3⟩ := hit2
        exact ⟨ob, hs3.extBut _ _ hIC q1, q2, q3⟩
      have C3 : Cx h₀ H2.objs.size h3 (lk [(x, v)] m') news := by
        refine ⟨⟨hn3, fun b ob q => kb3 _ _ (C.fr.keep b ob q), ?_⟩, fun p hp => kb3 _ _ (C.get p hp), fun p hp => ⟨(C.low p hp).1, (below _ (Heap.lt_size (C.get p hp))).2.2⟩, C.nod⟩
        exact Nat.le_trans C.fr.above (Nat.le_trans (Nat.le_of_lt C.lt) (by rw [hS2]; exact Nat.le_add_right _ 2))
      refine wpC_mono (helt H2.objs.size v h3 _ m' (List.mem_of_getElem? hv) kb3 C3) (fun yv s₄ h₄ => ?_) fun _ _ e => e
      obtain ⟨hFy, h4, t4, rfl, hk4⟩ := h₄
      refine append_at (its := zs.toArray) (n := e) (hk4 _ _ hz3) (fun h5 hs5 hD5 => ?_) (by rw [sizeLine_eq]; simp; omega)
      refine ⟨k - 1, by omega, h5, t4, i + 1, zs ++ [yv], _, e + 1, rfl, by omega, ?_, fun b ob q => hs5.extBut b ob (below b (Heap.lt_size q)).2.1 (hk4 _ _ (kb3 b ob q)), (hn3.at' fun ob q => hk4 _ ob q).sameBut hs5 (Ne.symm hDC), by rw [hD5]; simp, by simp [hzl], ?_⟩
      · obtain ⟨ob, q1, q2, q3⟩ := hit3
        exact ⟨ob, hs5.extBut _ _ hID (hk4 _ _ q1), q2, q3⟩
      · rw [List.take_succ, hv]
        exact paired_snoc hF hFy
  exact codeC_compStart (loop _ rfl) (wpAny_pyIter_listiter hit (loop _ rfl))
where
  paired_snoc {F : Value → Value → Prop} {xs ys : List Value} {a b : Value} (h : Paired F xs ys) (hab : F a b) : Paired F (xs ++ [a]) (ys ++ [b]) := by
    induction h with
    | nil => exact .cons hab .nil
    | cons h1 _ ih => exact .cons h1 ih
end
end Mine

namespace Mine
open PySem PySem.W PyProof.Rows PySem.Calls PySem.SeqAt
set_option maxRecDepth 100000
set_option linter.unusedVariables false
section
variable {prog : Program} {w : World} {A : Around} {E : Value → Shared → Prop} {h₀ h : Heap} {L : Addr} {m mg mb : Str → Option Value} {news news' : List (Addr × Obj)}
  {g : Array GenState} {d : Drawn} {t : Nat} {o : OsState} {env : Env}
/-- what stands in a frame with two cells, both empty -/
theorem Cx.cell2 {s : Shared} {x y : Str} {lb : List (Str × Value)} {mL cm : Str → Option Value} {s' : Shared} (X : InCallC s s.heap.objs.size mL [(y, s.heap.objs.size + 1 + 1), (x, s.heap.objs.size + 1)] cm s')
    (hL : mL = lk lb (fun _ => none)) (hne : (x == y) = false) (hx : cm x = none) (hy : cm y = none) : ∃ ob1 ob2, Cx s.heap s.heap.objs.size s'.heap (lk lb (fun _ => none)) [(s.heap.objs.size + 1, celO ob1 none), (s.heap.objs.size + 2, celO ob2 none)] := by
  obtain ⟨ob1, a1, a2⟩ := X.cell x (s.heap.objs.size + 1) (by simp [List.lookup, hne])
  obtain ⟨ob2, b1, b2⟩ := X.cell y (s.heap.objs.size + 1 + 1) (by simp [List.lookup])
  rw [hx] at a2
  rw [hy] at b2
  rw [celO_of a2] at a1
  rw [celO_of b2] at b1
  refine ⟨ob1, ob2, ⟨by rw [← hL]; exact ⟨X.toInCall.ns, X.toInCall.keep, X.toInCall.fresh⟩, ?_, ?_, ?_⟩⟩
  · intro p hp
    rcases List.mem_cons.mp hp with rfl | hp
    · exact a1
    · rw [List.mem_singleton.mp hp]; exact b1
  · intro p hp
    rcases List.mem_cons.mp hp with rfl | hp
    · exact ⟨Heap.get?_none_of_le (Nat.le_succ _), Nat.succ_ne_self _⟩
    · rw [List.mem_singleton.mp hp]
      exact ⟨Heap.get?_none_of_le (Nat.le_add_right _ 2), Nat.ne_of_gt (Nat.lt_add_of_pos_right (by decide))⟩
  · refine List.nodup_cons.mpr ⟨?_, by simp⟩
    intro q
    have := List.mem_singleton.mp q
    exact absurd this (Nat.ne_of_lt (Nat.lt_succ_self _))
/-- a def with two cells that are no parameters is called -/
theorem call_fn2C {Q : Value → Shared → Prop} {name : Str} {params : Arguments} {body : List Stmt} {scope : Scope} {a : Addr} {cd : Value} {args : List Value} {binds lb : List (Str × Value)} {x y : Str}
    (G : Gl mg mb h) (f : Fn mg h name params body scope a cd) (hd : A.depth < recursionLimit)
    (k : ∀ ob1 ob2 h₁ t', Cx h h.objs.size h₁ (lk lb (fun _ => none)) [(h.objs.size + 1, celO ob1 none), (h.objs.size + 2, celO ob2 none)] →
      wpC (model prog w) (A.deeper (envOfC name scope h.objs.size a cd)) (execs body (envOfC name scope h.objs.size a cd)) (fun f s' => Q (match f with | .ret v => v | _ => .none) s') (fun _ _ => False) ⟨h₁, g, d, t', o⟩)
    (hbind : ∀ pm doc, bindArgs (docDef name params body scope pm cd doc) ⟨args, []⟩ = pure binds)
    (hcs : ∀ n, cellsFrom n scope.names [] = [(y, n + 1), (x, n)])
    (hkind : ∀ y ∈ binds, scope.names.lookup y.1 = some .local)
    (hL : ∀ L a cd, bindL (envOfC name scope L a cd).kindOf binds (fun _ => none) = lk lb (fun _ => none))
    (hne : (x == y) = false) (hx : ∀ L a cd, bindC (envOfC name scope L a cd).kindOf binds (fun _ => none) x = none) (hy : ∀ L a cd, bindC (envOfC name scope L a cd).kindOf binds (fun _ => none) y = none)
    (hco : scope.isCoroutine = false := by rfl) (hgen : scope.isGenerator = false := by rfl) (hk : scope.kind = .function := by rfl) :
    wpC (model prog w) A (call (.ref a) args) Q E ⟨h, g, d, t, o⟩ := by
  obtain ⟨ob, pm, doc, hxx, yy⟩ := f.ob
  refine wpC_call (codeC_call hd hxx yy hco hgen rfl f.code ?_)
  rw [hbind]
  refine wpAny_pure (wpAny_newFunctionEnv_cells hk (fun y hy => .inl (hkind y hy)) fun env he s' X => ?_)
  subst he
  obtain ⟨h₁, tk, rfl, _⟩ := X.done
  have X' : InCallC ⟨h, g, d, t, o⟩ h.objs.size (bindL (envOfC name scope h.objs.size a cd).kindOf binds (fun _ => none)) [(y, h.objs.size + 1 + 1), (x, h.objs.size + 1)] (bindC (envOfC name scope h.objs.size a cd).kindOf binds (fun _ => none)) ⟨h₁, g, d, tk, o⟩ := by
    rw [← hcs (h.objs.size + 1)]; exact X
  obtain ⟨ob1, ob2, C⟩ := Cx.cell2 X' (hL _ _ _) hne (hx _ _ _) (hy _ _ _)
  refine ⟨G.lim.keeps X.toInCall.keep, ?_⟩
  show codeC _ _ (.func body (envOfC name scope h.objs.size a cd)) _ _
  exact codeC_func (wpC_mono (k ob1 ob2 h₁ tk C) (fun f s' q => q) (fun _ _ x => x))
/-- a loop whose name is a cell -/
theorem r_iterLCc {Q : Flow → Shared → Prop} {x : Str} {px : Pos} {body : List Stmt} {l c : Addr} {cob : Obj} (C : Cx h₀ L h m news) (Inv : Nat → (Str → Option Value) → List (Addr × Obj) → Prop) (Inv' : Nat → Value → (Str → Option Value) → List (Addr × Obj) → Prop) {items : List Value} {lo : Obj}
    (hlo : lo.cls = .type "list") (hli : ∃ n, lo.data = .seq items.toArray n)
    (hh : A.handled = none)
    (hI : Inv 0 m news)
    (hstay : ∀ i h m news, Cx h₀ L h m news → Inv i m news → h.get? l = some lo)
    (hput : ∀ i v m news, items[i]? = some v → Inv i m news → ∃ v₀ news', UpdAt c (celO cob v₀) (celO cob (some v)) news news' ∧ Inv' i v m news')
    (turn : ∀ (i : Nat) (v : Value) (it : Addr) (io : Obj) h t m news, items[i]? = some v → Cx h₀ L h m ((it, io) :: news) → Inv' i v m news →
      wpC (model prog w) A (execs body env) (TurnF h₀ L g d o Inv it io i Q) (fun _ _ => False) ⟨h, g, d, t, o⟩)
    (done : ∀ h t m news, Cx h₀ L h m news → Inv items.length m news → Q .next ⟨h, g, d, t, o⟩)
    (hc : env.cells.lookup x = some c) (hl : env.kindOf x = some .cell := by kernel_rfl) (hk : env.scope.kind = .function := by kernel_rfl) :
    LoopC (model prog w) A env x px body Q (.ref l) ⟨h, g, d, t, o⟩ := by
  have isl : ∀ (l : Addr) (h : Heap), h.get? l = some lo → h.IsList l items.toArray := fun l h e => by
    obtain ⟨n, q⟩ := hli
    exact ⟨lo, e, hlo, n, q⟩
  refine wpAny_pyIter_list (isl _ _ (hstay _ _ _ _ C hI)) ?_
  refine codeC_for (fun n s => ∃ (h2 : Heap) (t : Nat) (m : Str → Option Value) (news : List (Addr × Obj)) (i : Nat) (io : Obj), s = ⟨h2, g, d, t, o⟩ ∧ Cx h₀ L h2 m news ∧ Cx h₀ L h2 m ((h.objs.size, io) :: news) ∧ h2.IsListIter h.objs.size l i ∧ Inv i m news ∧ i + n = items.length) ?_ (by intro _; rfl) items.length ⟨_, t, m, news, 0, _, rfl, C.grown (Kp.push _ _), C.push _, ⟨_, Heap.get?_push_size _ rfl, rfl, rfl⟩, hI, by omega⟩
  rintro n s ⟨h2, t, m, news, i, io, rfl, C0, C, hit, hI, hn⟩
  cases hx : items[i]? with
  | none =>
    refine wpAny_pyNext_list_end hh hit (isl _ _ (hstay _ _ _ _ C0 hI)) (by simpa using hx) (fun h' hx' => ?_)
    have : i = items.length := by
      have := List.getElem?_eq_none_iff.mp hx
      omega
    subst this
    exact done _ _ _ _ (C.ext hx') hI
  | some v =>
    refine wpAny_pyNext_list_item hit (isl _ _ (hstay _ _ _ _ C0 hI)) (by simpa using hx) (fun h' hit' hs' => ?_)
    obtain ⟨io', g1, g2, g3⟩ := id hit'
    have hlt : i < items.length := (List.getElem?_eq_some_iff.mp hx).1
    have C' := C.upd0 hs' g1
    obtain ⟨v₀, news', hu, hI'⟩ := hput i v m news hx hI
    refine bound ?_
    refine st_c C' (UpdAt.tail hu) hc (fun h₂ C₂ => ?_) hl hk
    refine wpC_mono (turn i v _ io' h₂ _ m news' hx C₂ hI') (fun f s₃ q => ?_) (fun _ _ x => x)
    cases f with
    | next =>
      obtain ⟨h, t, m, news, e, C, hI⟩ := q
      exact ⟨n - 1, by omega, h, t, m, news, i + 1, io', e, C.sub (List.sublist_cons_self _ _), C, ⟨io', C.get _ (.head _), g2, g3⟩, hI, by omega⟩
    | cont =>
      obtain ⟨h, t, m, news, e, C, hI⟩ := q
      exact ⟨n - 1, by omega, h, t, m, news, i + 1, io', e, C.sub (List.sublist_cons_self _ _), C, ⟨io', C.get _ (.head _), g2, g3⟩, hI, by omega⟩
    | brk => exact q
    | ret v => exact q
/-- an item of a list is set -/
theorem r_setitem {l : Addr} {vs : List Value} {n : Nat} {k : Int} {tk : Tok} {v : Value} {Q : Unit → Shared → Prop} (C : Cx h₀ L h m news) (u : UpdAt l (lst vs n) (lst (vs.set k.toNat v) n) news news') (h0 : 0 ≤ k) (h1 : k < vs.length) (hz : vs.length ≤ 1000000)
    (q : ∀ h', Cx h₀ L h' m news' → Q () ⟨h', g, d, t, o⟩) : wpAny (model prog w) A (setItem (.ref l) (.int k tk) v) Q E ⟨h, g, d, t, o⟩ := by
  have hg := u.at C
  refine ki_setAt hg h0 (by omega) (by simpa using h1) (q _ (C.updAt u (Heap.SameBut.update ..) ?_))
  have q := PySem.IsL.update hg (·.setIfInBounds k.toNat v)
  rw [show vs.toArray.setIfInBounds k.toNat v = (vs.set k.toNat v).toArray from by apply Array.toList_inj.mp; simp] at q
  simpa using q
variable {Q : Value → Shared → Prop}
theorem r_isR {a : Addr} (k : Q (.bool false) ⟨h, g, d, t, o⟩) : wpAny (model prog w) A (compareOp .Is (.ref a) .none) Q E ⟨h, g, d, t, o⟩ := is_none k
theorem r_neLS {vs ws : List Value} {l l' : Addr} {n n' : Nat} (hx : h.get? l = some (lst vs n)) (hy : h.get? l' = some (lst ws n')) (hs : SameL vs ws) (hu : A.units + 64 < cLine) (k : Q (.bool false) ⟨h, g, d, t, o⟩) :
    wpAny (model prog w) A (compareOp .NotEq (.ref l) (.ref l')) Q E ⟨h, g, d, t, o⟩ := by
  have hlen := hs.len
  refine RcNeAt.lists (s := ⟨h, g, d, t, o⟩) (items := vs.toArray) (items2 := ws.toArray) (e := fun _ => true) (isl hx) (isl hy) (by simpa using hlen) (by omega) (fun j h1 h2 => ?_) prog w E Q ?_
  · have := hs.at j (by simpa using h1) (by simpa using h2)
    simpa using this.eqAt
  · rw [all_true]; exact k
end
end Mine

namespace Mine
open PySem PySem.W PyProof.Rows PySem.Calls
set_option maxRecDepth 100000
set_option linter.unusedVariables false
section
variable {prog : Program} {w : World} {A : Around} {E : Value → Shared → Prop} {h₀ h : Heap} {L : Addr} {m : Str → Option Value} {news : List (Addr × Obj)}
  {g : Array GenState} {d : Drawn} {t : Nat} {o : OsState} {env : Env} {Q : Value → Shared → Prop} {value slice : PySem.Expr} {b : Array UInt8} {tb : Tok}
/-- a slice of octets, all objects kept -/
theorem r_sliceBK {vl vu : Value} {lo hi : Option Int} (pl : IsPart vl lo) (pu : IsPart vu hi) (hz : b.size ≤ 1000000)
    (k : ∀ c h' t' tr, KBw.bInts c = pick (KBw.bInts b) lo hi → Kp h h' → Q (.bytes c tr) ⟨h', g, d, t', o⟩)
    (hs : subscripted slice false (.bytes b tb) (.ref h.objs.size) = operate [.ref h.objs.size, .bytes b tb] (getItem (.bytes b tb) (.ref h.objs.size)) := by kernel_rfl)
    (ht : ∀ r, letTemporaryGo value (.bytes b tb) r = pure () := by intro _; kernel_rfl) : SliceOn prog w A value slice (.bytes b tb) vl vu Q E ⟨h, g, d, t, o⟩ :=
  tail_of_ItemOn (s := ⟨h.push _, g, d, t, o⟩) ⟨"bytes", _, FB.slot_bytes_getitem.lookup, typeIs_bytes _ _ _, getItem_meets (typeIs_bytes _ _ _) (by decide) FB.slot_bytes_getitem FB.entry_bytes_getitem (FB.args_bytes_getitem_2 _ _) (KBc.meets_slice2 b tb _ pl pu)
    ⟨Heap.IsSliceOf.new _ _ _ _, Nat.le_trans (KBc.size_picked_le b lo hi) (by rw [sizeLine_eq]; omega), fun t' k' => k _ _ _ _ (KBc.ints_picked rfl lo hi) (Kp.push _ _)⟩⟩ hs ht
end
end Mine

namespace Mine
open PySem PySem.W PyProof.Rows PySem.Calls
set_option maxRecDepth 100000
set_option linter.unusedVariables false
def sPos : Stmt → Pos | .FunctionDef _ _ _ _ _ _ _ _ _ p => p | _ => default
theorem fn_of {p : Program} {loose : List Str} {mean : ExcName → Option Value} {mg mb : Str → Option Value} {h : Heap} (T : Top p loose mean mg mb h) (i : Nat) (st : Stmt)
    (e : (recsOf p)[i]? = some ⟨sName st, sParams st, sBody st, sScope st, sPos st⟩) : ∃ a cd, Fn mg h (sName st) (sParams st) (sBody st) (sScope st) a cd := by
  obtain ⟨a, o, pm, cd, doc, h1, h2, h3, h4⟩ := T.fn _ (List.mem_of_getElem? e)
  exact ⟨a, cd, h1, ⟨o, pm, doc, h2, h3⟩, h4⟩
theorem gl_of {p : Program} {loose : List Str} {mean : ExcName → Option Value} {mg mb : Str → Option Value} {h : Heap} (T : Top p loose mean mg mb h)
    (e : (bNames.all fun x => !startupNames.contains x && !loose.contains x && !((recsOf p).map (·.name)).contains x && !((litsOf p).map (·.1)).contains x && !((clssOf p loose).map (·.name)).contains x) = true) : Gl mg mb h := by
  refine ⟨T.g, T.b, T.builtins, T.nolimit, fun x hx => ?_⟩
  have q := List.all_eq_true.mp e x hx
  simp only [Bool.and_eq_true, Bool.not_eq_true', List.contains_eq_mem, decide_eq_false_iff_not] at q
  exact T.free x q.1.1.1.1 q.1.1.1.2 q.1.1.2 q.1.2 q.2
theorem well_list {R : Params} {h : Heap} {l : Addr} {xs : List PyData} {vs : List Value} (W1 : Well R h (.ref l) (ofPy (.list xs))) (hL : h.IsList l vs.toArray) : h.get? l = some (lst vs 0) := by
  rw [ofPy] at W1
  obtain ⟨o, h1, h2, n, h3⟩ := hL
  cases W1 with
  | list hg _ =>
    rw [h1] at hg
    cases hg
    injection h3 with h3 h4
    rw [h1, h3]
theorem good_true {c : ClaimW} {cl : Str → Option Addr} {mean : ExcName → Option Value} {args : List WData} {h : Heap} {g : Array GenState} {d : Drawn} {t : Nat} {o : OsState} {h' : Heap} {t' : Nat}
    (hk : Kp h h') (hg : g = #[]) (hn : ∀ cls, c.raises args cls = false) (hp : c.post args (.bool true) args = true) : GoodWG c cl mean args ⟨h, g, d, t, o⟩ (.ok (.ret (.bool true))) ⟨h', g, d, t', o⟩ :=
  GoodW.toG ⟨.inl ⟨_, _, [], rfl, hn, .bool true, hp, unshared_nil⟩, hk, rfl, hg⟩
end Mine

namespace Mine
open PySem PySem.W PyProof.Rows PySem.Calls
set_option maxRecDepth 100000
set_option linter.unusedVariables false
/-- the caller's own context -/
theorem wp_of_wpC {M : Model} {t : Sem Fin} {R : Result → Shared → Prop} {s : Shared}
    (h : wpC M callerA t (fun fin s' => ∃ f, fin = .done f ∧ R (.ok f) s') (fun e s' => R (.error e) s') s) (p : Pos) :
    Sem.wp M ⟨.builtin "claim.caller" {}, none, none, [], none⟩ t (Sem.finPost M ⟨.builtin "claim.caller" {}, none, none, [], none⟩ R) (fun e _ s' => R (.error e) s') p s := by
  refine Sem.wp_mono M _ t (fun fin p' s' h' => ?_) (fun _ _ _ h' => h') p s (h _ p caller_in (by decide +kernel) (by intro x hx; cases hx))
  obtain ⟨f, rfl, hf⟩ := h'
  exact hf
theorem thread_endsC {prog : Program} {w : World} {t : Sem Fin} {s : Shared} {R : Result → Shared → Prop} (hreg : s.asleep)
    (h : wpC (model prog w) callerA t (fun fin s' => ∃ f, fin = .done f ∧ (R (.ok f) s' ∧ leftWithCleanup s'.gens = false)) (fun e s' => R (.error e) s' ∧ leftWithCleanup s'.gens = false) s) :
    ∃ n r s' s'', runN (denote table) prog w n s ⟨t, .builtin "claim.caller" {}, default, []⟩ = .halted (outcomeOf r) s' ∧
      schedN (denote table) prog w n (.single s ⟨t, .builtin "claim.caller" {}, default, []⟩) = .halted (outcomeOf r) s' ∧ s'.forget = s''.forget ∧ R r s'' := by
  obtain ⟨n, r, s₁, s₂, hs, hn, hfo, hR⟩ := wp_halts_full (M := model prog w) (R := R) hreg (wp_of_wpC (R := fun r s' => R r s' ∧ leftWithCleanup s'.gens = false) h default)
  exact ⟨n, r, s₂, s₁, hn, hs, hfo, hR⟩
theorem callFromC {c : ClaimW} {tree : List Value → Sem Fin} {w : World} {s : Shared} {free : Addr → Prop} {gens : Prop} {kept : Heap → Prop} (hz : s.asleep) (hgens : s.gens = #[])
    (hspec : ∀ args, c.pre args = true → WData.layableAll args = true → ∀ ord : List DictEntry → List DictEntry, (∀ l, (ord l).Perm l) →
      ∃ vs s₁, layAllW c.records (classAt s.heap) w.params ord args s = some (vs, s₁) ∧
        wpC (model c.prog w) callerA (tree vs) (fun fin s' => ∃ f, fin = .done f ∧ (c.Ends s args vs s₁ (.ok f) s' ∧ s'.os = s.os ∧ AllBare s'.gens ∧ kept s'.heap))
          (fun e s' => c.Ends s args vs s₁ (.error e) s' ∧ s'.os = s.os ∧ AllBare s'.gens ∧ kept s'.heap) s₁) :
    c.CallFrom (fun vs => ⟨tree vs, .builtin "claim.caller" {}, default, []⟩) w free gens kept s := by
  intro args hpre hlay ord hord
  obtain ⟨vs, s₁, hlaid, hcode⟩ := hspec args hpre hlay ord hord
  have hal := layAllW_rest _ _ _ hlaid
  have hcode' : wpC (model c.prog w) callerA (tree vs) (fun fin s' => ∃ f, fin = .done f ∧ ((c.Ends s args vs s₁ (.ok f) s' ∧ s'.os = s.os ∧ kept s'.heap) ∧ leftWithCleanup s'.gens = false))
      (fun e s' => (c.Ends s args vs s₁ (.error e) s' ∧ s'.os = s.os ∧ kept s'.heap) ∧ leftWithCleanup s'.gens = false) s₁ :=
    wpC_mono hcode (fun fin s' q => by obtain ⟨f, e, h1, h2, h3, h4⟩ := q; exact ⟨f, e, ⟨h1, h2, h4⟩, leftWithCleanup_false_of_bare h3⟩)
      (fun e s' q => by obtain ⟨h1, h2, h3, h4⟩ := q; exact ⟨⟨h1, h2, h4⟩, leftWithCleanup_false_of_bare h3⟩)
  obtain ⟨k, r, s', s'', hrun, hsched, hfo, hcase, hos, hkp⟩ := thread_endsC (R := fun r s' => c.Ends s args vs s₁ r s' ∧ s'.os = s.os ∧ kept s'.heap) (Shared.asleep_of_life hal.2.2.2 hz) hcode'
  obtain ⟨eh, _, _, eo, _⟩ := Shared.forget_eq hfo
  replace hcase := hcase.congr eh
  replace hkp : kept s'.heap := by rw [eh]; exact hkp
  rw [← eo] at hos
  have hlife : s'.heap.life = s.heap.life := (runN_life _ _ _ hrun).trans hal.2.2.2
  refine ⟨vs, s₁, hlaid, k, _, s', hsched, ?_, (fun _ i x hx => by rw [hgens] at hx; simp at hx), hkp, by rw [hlife], Shared.rest_eq hos⟩
  rcases hcase with ⟨v, rfl, d1, d2, d3, d4, d5⟩ | ⟨e, ob, cls, rfl, d1, d2, d3, d4, d5⟩
  · exact .inl ⟨v, rfl, d1, d2, d3, fun b o y _ => d4 b o y, d5⟩
  · exact .inr ⟨e, ob, cls, rfl, d1, d2, d3, d4, fun b o y _ => d5 b o y⟩
abbrev WalkC (q : Program) (loose : List Str) (XP : (Str → Option Value) → Heap → Prop) (YP : World → Heap → Prop) (r : RowW) (d : DefRec) (kwd : List (Str × Expr)) : Prop :=
  ∀ (w : World) (s₀ s₁ : Shared) (mg mb : Str → Option Value), Ground q loose r.records XP w s₀ mg mb s₁.heap → YP w s₁.heap → ∀ (a : Addr) (o : Obj) (pm cd doc dV kV : Value), s₁.heap.get? a = some o →
    o.data = .func { docDef d.name d.params d.body d.scope pm cd doc with defaults := dV, kwdefaults := kV } → s₁.heap.CodeRec cd d.name → Dflts mg s₁.heap d.params kwd dV kV → mg d.name = some (.ref a) → s₁.gens = #[] →
    ∀ (args : List WData) (vals : List Value) (as : List Addr), r.claim.pre args = true → WData.layableAll args = true → ReadsAllW r.records (classAt s₀.heap) s₁.heap vals args as → WellAll w.params s₁.heap vals args → (∀ a ∈ as, (a == sysModules) = false) →
      wpC (model r.prog w) callerA (PySem.call (.ref a) vals) (fun v s' => GoodWG r.claim (classAt s₀.heap) (ExcName.means s₀.heap) args s₁ (.ok (.ret v)) s')
        (fun e s' => GoodWG r.claim (classAt s₀.heap) (ExcName.means s₀.heap) args s₁ (.error e) s') s₁
end Mine
namespace Mine.H
open PySem PySem.W PyProof.Rows PySem.Calls
/-- the head, for a walk in the caller's own context -/
theorem PySem.W.holds_open {r : OpenRow} {q : Program} {loose : List Str} {Xt : Shared → Bool} {XP : (Str → Option Value) → Heap → Prop} {α : Type} {Yf : Shared → α} {Ya : World → α} {YP : World → Heap → Prop} {d : DefRec} {kwd : List (Str × Expr)} {N : Nat}
    (left : LeftO r.prog q loose Xt Yf Ya N) (hY : ∀ w s, Yf s = Ya w → YP w s.heap) (hYk : ∀ w h h', YP w h → (∀ b o, h.get? b = some o → h'.get? b = some o) → YP w h')
    (hX : ∀ s, Xt s = true → XP (s.heap.nsMap mainGlobals) s.heap) (hXk : ∀ mg h h', XP mg h → (∀ b o, h.get? b = some o → h'.get? b = some o) → XP mg h')
    (hdef : defOf q r.name = some (d, kwd)) (hp : r.prog.theDef r.name = some (d.params, d.body, d.scope)) (hk : kwWritten? d.params.kwonlyargs d.params.kw_defaults = some kwd) (hRf : ∀ s, Xt s = true → RecFacts r.records s.heap) (hwr : (!r.writes || r.records.isEmpty) = true)
    (k1 : r.wellSaid = true) (ok : (chainsOk q && opensWell r.prog && (frees r.toRowW && r.within.isEmpty)) = true) (hb : r.prog.bare) (hw : r.toRowW.promised)
    (call : WalkC q loose XP YP r.toRowW d kwd) : r.Holds := by
  refine ⟨k1, hw, ?_⟩
  obtain ⟨ok, k5⟩ := Bool.and_eq_true_iff.mp ok
  obtain ⟨hch, o1⟩ := Bool.and_eq_true_iff.mp ok
  obtain ⟨k5, k6⟩ := Bool.and_eq_true_iff.mp k5
  obtain ⟨hsame, hu, ha, hap, hm⟩ := frees_parts k5
  refine ⟨⟨hb, o1, by show r.makers.map _ = []; rw [hm]; rfl⟩, hw.witness, fun w => ⟨(left.behind hX hch w).1, fun s' hs' => ?_⟩⟩
  obtain ⟨s₀, hf, hg0, s, hT, hz, hgens, hg, G00, y⟩ := (left.behind (XP := fun mg h => XP mg h ∧ RecFacts r.records h) (fun s hs => ⟨hX s hs, hRf s hs⟩) hch w).2 s' hs'
  have G0 : Ground q loose [] XP w s (s.heap.nsMap mainGlobals) (s.heap.nsMap builtinsNs) s.heap := ⟨G00.T, G00.B, G00.D, G00.TE, G00.TD, G00.W, G00.X.1, G00.cls, G00.has, G00.apart, G00.once, G00.K⟩
  have RF := G00.X.2
  refine ⟨s₀, hf, hg0, s, hT, fun n hn => ?_, RF.1, RF.2.1, ?_⟩
  · obtain rfl : n = r.name := by split at hn <;> simp_all
    exact pinned_of_view hg G0 hdef hp hk
  have hgens : s.gens = #[] := Array.eq_empty_of_size_eq_zero (beq_iff_eq.mp hgens)
  have G : Ground q loose r.records XP w s _ _ s.heap := RF.ground G0
  refine callFromC (c := r.toRowW.claim) hz hgens fun args hpre hlay ord hord => ?_
  obtain ⟨⟨vs, s₁⟩, hlaid⟩ := Option.isSome_iff_exists.mp (layAllW_isSome (P := w.params) (ord := ord) G.has args r.args s (pre_splitW hpre).1)
  have keeps := layAllW_keeps _ _ _ hlaid
  have hal := layAllW_rest _ _ _ hlaid
  obtain ⟨as, hrd, hin, hold⟩ := reads_layAllW hord _ _ _ hlaid hlay s₁.heap (fun _ _ e => e)
  have L : Laid r.records w s s₁ args vs as := ⟨⟨ord, hord, hlaid⟩, hrd, hin, hold, keeps, hal.1.trans hgens, hal.2.2.1⟩
  have G₁ := G.keeps hXk keeps
  obtain ⟨a, o, pm, cd, doc, dV, kV, h1, h2, h3, h4, h5⟩ := G₁.fn hdef
  have h := call w s s₁ _ _ G₁ (hYk _ _ _ (hY w s y) keeps) a o pm cd doc dV kV h2 h3 h4 h5 (defOf_name hdef ▸ h1) L.gens args vs as hpre hlay L.reads L.well (L.low G.low)
  have hi := ident_freeW hu ha hap
  have hwi : r.toRowW.claim.within = [] := List.isEmpty_iff.mp k6
  refine ⟨vs, s₁, hlaid, ?_⟩
  refine wpC_bind (wpC_of (wpAny_nsGet G₁.T.g ?_))
  rw [h1]
  refine wpC_bind (wpC_mono h (fun v s' g => wpC_pure ⟨_, rfl, ?_⟩) fun e s' g => ?_)
  · have z := g.laid (c := r.toRowW.claim) hsame hwi hi L
    exact ⟨z.1, z.2.1, z.2.2, fun q => ⟨namesKept_of hT hg _ keeps g.2.1.old, noTable hwr q⟩⟩
  · have z := g.laid (c := r.toRowW.claim) hsame hwi hi L
    exact ⟨z.1, z.2.1, z.2.2, fun q => ⟨namesKept_of hT hg _ keeps g.2.1.old, noTable hwr q⟩⟩
end Mine.H

namespace Mine.H
open _root_.PySem _root_.PySem.W PyProof.Rows
set_option Elab.async false
set_option maxRecDepth 100000
set_option maxHeartbeats 8000000
open_top hd7 for _root_.PySem.Challenge.rw_dm0102_07
end Mine.H

namespace Mine
open PySem PySem.W PyProof.Rows PySem.Calls PyProof.Rows.TI
set_option maxRecDepth 100000
set_option linter.unusedVariables false
local macro_rules | `(tactic| walk_at "m") => `(tactic| first
  | ((with_reducible show wpAny _ _ (execs (_ :: _) _) _ _ _); with_reducible refine wpAny_execs_cons ?_)
  | ((with_reducible show wpAny _ _ (exec (Stmt.Assign [Expr.Name _ _] _ _) _) _ _ _); with_reducible refine wpAny_Assign_Name ?_ (by kernel_rfl))
  | ((with_reducible show wpAny _ _ (exec (Stmt.AugAssign (Expr.Name _ _) _ _ _) _) _ _ _); with_reducible refine wpAny_AugAssign_Name ?_)
  | ((with_reducible show wpAny _ _ (exec (Stmt.If _ _ _ _) _) _ _ _); with_reducible refine wpAny_If ?_)
  | ((with_reducible show wpAny _ _ (exec (Stmt.Return (some _) _) _) _ _ _); with_reducible refine wpAny_Return_some ?_)
  | ((with_reducible show wpAny _ _ (eval (Expr.Name _ _) _) _ _ _); (with_reducible rename Cx _ _ _ _ _ => C); first | with_reducible refine nm_l C (by with_unfolding_all exact rfl) ?_ | (with_reducible rename Gl _ _ _ => G); first | with_reducible refine nm_g C G (by with_reducible assumption) ?_ | with_reducible refine nm_b C G (Gl.nob G _ (by decide +kernel)) (by with_reducible first | exact bb_len | exact bb_sum | exact bb_range | exact bb_ord | exact bb_chr | exact bb_bytes | exact bb_bytearray | exact bb_min | exact bb_max | exact bb_sorted | exact bb_isinstance | exact bb_bool | exact bb_divmod | exact bb_abs | exact bb_list | exact bb_zip | exact bb_str | exact bb_IndexError | exact bb_UDE) ?_)
  | ((with_reducible show wpAny _ _ (loadName _ _) _ _ _); (with_reducible rename Cx _ _ _ _ _ => C); with_reducible refine ldn_l C (by with_unfolding_all exact rfl) ?_)
  | ((with_reducible show wpAny _ _ (storeName _ _ _) _ _ _); (with_reducible rename Cx _ _ _ _ _ => C); with_reducible refine st_l C ?_; clear C; intro h t C)
  | ((with_reducible show wpAny _ _ (eval (Expr.Constant (Const.int _) _ _) _) _ _ _); with_reducible refine r_int ?_; intro _ _)
  | ((with_reducible show wpAny _ _ (eval (Expr.Constant (Const.str _) _ _) _) _ _ _); with_reducible refine r_str ?_; intro _ _)
  | ((with_reducible show wpAny _ _ (eval (Expr.Constant (Const.bytes _) _ _) _) _ _ _); with_reducible refine r_bytes ?_; intro _ _)
  | ((with_reducible show wpAny _ _ (eval (Expr.Constant Const.none _ _) _) _ _ _); with_reducible refine r_none ?_)
  | ((with_reducible show wpAny _ _ (eval (Expr.Constant (Const.bool _) _ _) _) _ _ _); with_reducible refine r_bool ?_)
  | ((with_reducible show wpAny _ _ (eval (Expr.BinOp _ _ _ _) _) _ _ _); with_reducible refine wpAny_BinOp ?_)
  | ((with_reducible show wpAny _ _ (eval (Expr.Compare _ [_] [_] _) _) _ _ _); with_reducible refine wpAny_Compare1 ?_ (by kernel_rfl))
  | ((with_reducible show wpAny _ _ (isTrue (Expr.Compare _ [_] [_] _) _ _) _ _ _); with_reducible refine wpAny_isTrue_Compare1 ?_ (by kernel_rfl))
  | ((with_reducible show wpAny _ _ (truthy (Value.bool _)) _ _ _); with_reducible refine wpAny_truthy_bool ?_)
  | ((with_reducible show wpAny _ _ (truthy (Value.int _ _)) _ _ _); with_reducible refine r_tint ?_)
  | ((with_reducible show wpAny _ _ (binaryOp Operator.Add (Value.int _ _) (Value.int _ _)) _ _ _); with_reducible refine r_add ?_; intro _ _)
  | ((with_reducible show wpAny _ _ (binaryOp Operator.Sub (Value.int _ _) (Value.int _ _)) _ _ _); with_reducible refine r_sub ?_; intro _ _)
  | ((with_reducible show wpAny _ _ (binaryOp Operator.Mult (Value.int _ _) (Value.int _ _)) _ _ _); with_reducible refine r_mul (by first | exact IntMulOk.of_left (by decide) | exact IntMulOk.of_right (by decide) | walk_at "mul") ?_; intro _ _)
  | ((with_reducible show wpAny _ _ (binaryOp Operator.FloorDiv (Value.int _ _) (Value.int _ _)) _ _ _); with_reducible refine r_div (by omega) (by omega) ?_; intro _ _)
  | ((with_reducible show wpAny _ _ (binaryOp Operator.Mod (Value.int _ _) (Value.int _ _)) _ _ _); with_reducible refine r_mod (by omega) (by omega) ?_; intro _ _)
  | ((with_reducible show wpAny _ _ (inplaceOp Operator.Add (Value.int _ _) (Value.int _ _)) _ _ _); with_reducible refine r_iadd ?_; intro _ _)
  | ((with_reducible show wpAny _ _ (inplaceOp Operator.Mult (Value.int _ _) (Value.int _ _)) _ _ _); with_reducible refine r_imul (by first | exact IntMulOk.of_left (by decide) | exact IntMulOk.of_right (by decide) | walk_at "mul") ?_; intro _ _)
  | ((with_reducible show wpAny _ _ (compareOp CmpOp.Eq (Value.int _ _) (Value.int _ _)) _ _ _); with_reducible refine r_eq ?_)
  | ((with_reducible show wpAny _ _ (compareOp CmpOp.NotEq (Value.int _ _) (Value.int _ _)) _ _ _); with_reducible refine r_ne ?_)
  | ((with_reducible show wpAny _ _ (compareOp CmpOp.Lt (Value.int _ _) (Value.int _ _)) _ _ _); with_reducible refine r_lt ?_)
  | ((with_reducible show wpAny _ _ (compareOp CmpOp.LtE (Value.int _ _) (Value.int _ _)) _ _ _); with_reducible refine r_le ?_)
  | ((with_reducible show wpAny _ _ (compareOp CmpOp.Gt (Value.int _ _) (Value.int _ _)) _ _ _); with_reducible refine r_gt ?_)
  | ((with_reducible show wpAny _ _ (compareOp CmpOp.GtE (Value.int _ _) (Value.int _ _)) _ _ _); with_reducible refine r_ge ?_)
  | ((with_reducible show wpAny _ _ (execs [] _) _ _ _); refine wpAny_pure ?_)
  | ((with_reducible show wpAny _ _ (exec (Stmt.Try _ (_ :: _) _ [] _) _) _ _ _); with_reducible refine wpAny_Try_except ?_)
  | ((with_reducible show wpAny _ _ (isTrue (Expr.Compare _ (_ :: _ :: _) (_ :: _ :: _) _) _ _) _ _ _); with_reducible refine isTrue_chain ?_ (by kernel_rfl))
  | ((with_reducible show wpAny _ _ (testChain _ _ (_ :: _ :: _) (_ :: _ :: _)) _ _ _); with_reducible refine test_link ?_)
  | ((with_reducible show wpAny _ _ (testChain _ _ [_] _) _ _ _); with_reducible refine t_last ?_)
  | ((with_reducible show wpAny _ _ (isTrue (Expr.BoolOp BoolOp.And (_ :: _) _) _ _) _ _ _); with_reducible refine isTrue_and ?_)
  | ((with_reducible show wpAny _ _ (isTrue (Expr.BoolOp BoolOp.And [] _) _ _) _ _ _); with_reducible refine isTrue_and_nil ?_)
  | ((with_reducible show wpAny _ _ (isTrue (Expr.BoolOp BoolOp.Or (_ :: _) _) _ _) _ _ _); with_reducible refine isTrue_or ?_)
  | ((with_reducible show wpAny _ _ (isTrue (Expr.BoolOp BoolOp.Or [] _) _ _) _ _ _); with_reducible refine isTrue_or_nil ?_)
  | ((with_reducible show wpAny _ _ (isTrue (Expr.UnaryOp UnaryOp.Not _ _) _ _) _ _ _); with_reducible refine isTrue_not ?_)
  | ((with_reducible show wpAny _ _ (isTrue (Expr.Constant _ _ _) _ _) _ _ _); with_reducible refine isTrue_plain ?_ (by kernel_rfl))
  | ((with_reducible show wpAny _ _ (isTrue (Expr.Call _ _ _ _) _ _) _ _ _); with_reducible refine isTrue_plain ?_ (by kernel_rfl))
  | ((with_reducible show wpAny _ _ (isTrue (Expr.Name _ _) _ _) _ _ _); with_reducible refine isTrue_plain ?_ (by kernel_rfl))
  | ((with_reducible show wpAny _ _ (eval (Expr.IfExp _ _ _ _) _) _ _ _); with_reducible refine IfExp_ ?_)
  | ((with_reducible show wpAny _ _ (eval (Expr.Tuple _ _ _) _) _ _ _); with_reducible refine Tuple_ ?_)
  | ((with_reducible show wpAny _ _ (eval (Expr.List _ _) _) _ _ _); with_reducible refine List_ ?_)
  | ((with_reducible show wpAny _ _ (eval (Expr.Subscript _ (Expr.Slice _ _ none _) _) _) _ _ _); walk_at "slice")
  | ((with_reducible show wpAny _ _ (eval (Expr.Subscript _ _ _) _) _ _ _); with_reducible refine Subscript_ ?_)
  | ((with_reducible show wpAny _ _ (evalPart none _) _ _ _); with_reducible refine evalPart_none_step ?_)
  | ((with_reducible show wpAny _ _ (evalPart (some _) _) _ _ _); with_reducible refine evalPart_some_step ?_)
  | ((with_reducible show SliceOn _ _ _ _ _ (Value.ref _) _ _ _ _ _); (with_reducible rename Cx _ _ _ _ _ => C); with_reducible refine r_slice C (by walk_at "get") (by first | exact IsPart.none | exact IsPart.int _ _) (by first | exact IsPart.none | exact IsPart.int _ _) (by walk_at "size") ?_; clear C; intro a h C)
  | ((with_reducible show wpAny _ _ (eval (Expr.Call (Expr.Name _ _) _ [] _) _) _ _ _); with_reducible refine Call_ ?_ (by kernel_rfl))
  | ((with_reducible show wpAny _ _ (callWith _ (Value.ref _) [] (backTo _ (starEach (_ :: _) _)) []) _ _ _); with_reducible refine r_callf (by with_reducible assumption) ?_)
  | ((with_reducible show wpAny _ _ (callWith _ (Value.builtin _) [] (backTo _ (starEach (_ :: _) _)) []) _ _ _); with_reducible refine callWith_builtin1 ?_ (by kernel_rfl) (by kernel_rfl))
  | ((with_reducible show wpAny _ _ (callWith _ (Value.type _) [] (backTo _ (starEach (_ :: _) _)) []) _ _ _); with_reducible refine PyProof.Rows.callWith_type1 ?_ (by kernel_rfl) (by kernel_rfl))
  | ((with_reducible show wpAny _ _ (spliced (backTo _ (starEach (_ :: _) _))) _ _ _); with_reducible refine args_cons ?_ (by kernel_rfl))
  | ((with_reducible show wpAny _ _ (spliced (backTo _ (starEach [] _))) _ _ _); with_reducible refine args_nil ?_)
  | ((with_reducible show Kp _ _ ∧ wpAny _ _ (call _ _) _ _ _); (with_reducible rename Cx _ _ _ _ _ => C); refine ⟨Cx.keep C, ?_⟩)
  | ((with_reducible show wpAny _ _ (newTuple _) _ _ _); (with_reducible rename Cx _ _ _ _ _ => C); with_reducible refine r_newTuple C (by size_fits) ?_; clear C; intro a h C)
  | ((with_reducible show wpAny _ _ (newList _) _ _ _); (with_reducible rename Cx _ _ _ _ _ => C); with_reducible refine r_newList C (by size_fits) ?_; clear C; intro a h C)
  | ((with_reducible show if true = true then _ else _); with_reducible refine ite_t ?_)
  | ((with_reducible show if false = true then _ else _); with_reducible refine ite_f ?_)
  | ((with_reducible show if decide _ = true then _ else _); first | with_reducible refine ite_yes (by first | assumption | omega | decide) ?_ | with_reducible refine ite_no (by first | assumption | omega | decide) ?_)
  | ((with_reducible show wpAny _ _ (exec (Stmt.Expr _ _) _) _ _ _); with_reducible refine wpAny_Expr ?_ (by kernel_rfl) (by kernel_rfl))
  | ((with_reducible show wpAny _ _ (eval (Expr.Call (Expr.Attribute _ _ _) _ [] _) _) _ _ _); with_reducible refine r_mcall ?_)
  | ((with_reducible show wpAny _ _ (getMethod (Value.ref _) (Str.ofString "append") _) _ _ _); with_reducible refine r_getAppend (by walk_at "get") ?_; dsimp only)
  | ((with_reducible show wpAny _ _ (callWith _ (Value.builtin _) [_] (backTo _ (starEach (_ :: _) _)) []) _ _ _); with_reducible refine r_method1 ?_)
  | ((with_reducible show wpAny _ _ (callWith _ (Value.builtin _) [_] (backTo _ (starEach [] _)) []) _ _ _); with_reducible refine callWith_method0 ?_)
  | ((with_reducible show wpAny _ _ (call _ (_ ++ _)) _ _ _); simp only [List.cons_append, List.nil_append])
  | ((with_reducible show wpAny _ _ (call (Value.builtin "list.append") [Value.ref _, _]) _ _ _); (with_reducible rename Cx _ _ _ _ _ => C); with_reducible refine r_append C (by walk_at "upd") (by walk_at "size") ?_; clear C; intro h C)
  | ((with_reducible show wpAny _ _ (call (Value.builtin "len") [Value.ref _]) _ _ _); with_reducible refine r_len (by walk_at "get") (by walk_at "size") ?_; intro _ _)
  | ((with_reducible show wpAny _ _ (call (Value.builtin "len") [Value.bytes _ _]) _ _ _); with_reducible refine r_lenB (by walk_at "size") ?_; intro _ _)
  | ((with_reducible show wpAny _ _ (call (Value.builtin "isinstance") [Value.int _ _, Value.type "bool"]) _ _ _); with_reducible refine r_isiI ?_; intro _)
  | ((with_reducible show wpAny _ _ (call (Value.builtin "isinstance") [Value.none, Value.type "bool"]) _ _ _); with_reducible refine r_isiN ?_; intro _)
  | ((with_reducible show wpAny _ _ (eval (Expr.UnaryOp _ _ _) _) _ _ _); with_reducible refine UnaryOp_ ?_)
  | ((with_reducible show wpAny _ _ (unaryOp UnaryOp.USub (Value.int _ _)) _ _ _); with_reducible refine r_neg ?_; intro _ _)
  | ((with_reducible show wpAny _ _ (call (Value.type "range") [Value.int _ _]) _ _ _); (with_reducible rename Cx _ _ _ _ _ => C); with_reducible refine r_range1 C ?_; clear C; intro a h _ _ _ _ C)
  | ((with_reducible show wpAny _ _ (call (Value.type "range") [Value.int _ _, Value.int _ _]) _ _ _); (with_reducible rename Cx _ _ _ _ _ => C); with_reducible refine r_range2 C ?_; clear C; intro a h _ _ _ _ C)
  | ((with_reducible show wpAny _ _ (subscriptTail _ _ (Value.str (Str.ofString "ABCDEFGHIJKLMNOPQRSTUVWXYZ0123456789") _) (Value.int _ _)) _ _ _); with_reducible refine r_sgn (by omega) (by omega) ?_; intro _ _)
  | ((with_reducible show wpAny _ _ (call (Value.builtin "ord") [Value.str (Str.mk #[Int.toNat (sgn _)]) _]) _ _ _); with_reducible refine r_ordS (by omega) (by omega) ?_; intro _ _)
  | ((with_reducible show wpAny _ _ (call (Value.builtin "sum") [Value.ref _]) _ _ _); (with_reducible rename Cx _ _ _ _ _ => C); with_reducible refine r_sum C (by walk_at "hh") (by walk_at "get") (by walk_at "ints") ?_; clear C; intro h _ _ C)
  | ((with_reducible show wpAny _ _ (compareOp CmpOp.Eq (Value.str _ _) (Value.str _ _)) _ _ _); first | with_reducible refine r_eqSF (by with_reducible assumption) ?_ | with_reducible refine r_eqST (by first | with_reducible assumption | rfl) ?_)
  | ((with_reducible show wpAny _ _ (exec (Stmt.Assign [Expr.Tuple _ _ _] _ _) _) _ _ _); with_reducible refine PyProof.Rows.Assign_Tuple ?_ (by kernel_rfl) (by kernel_rfl))
  | ((with_reducible show wpAny _ _ (assign (Expr.Tuple [Expr.Name _ _, Expr.Name _ _] _ _) _ (Value.ref _)) _ _ _); (with_reducible rename Cx _ _ _ _ _ => C); with_reducible refine r_unpack2 C (by walk_at "get") (by walk_at "hh") ?_; clear C; intro h C)
  | ((with_reducible show wpAny _ _ (getMethod (Value.str _ _) (Str.ofString "find") _) _ _ _); with_reducible refine r_getFind ?_; dsimp only)
  | ((with_reducible show wpAny _ _ (call (Value.builtin "str.find") [Value.str _ _, Value.str (Str.mk #[Int.toNat _]) _]) _ _ _); with_reducible refine r_find (by omega) (by omega) ?_; intro _ _)
  | ((with_reducible show wpAny _ _ (call (Value.builtin "chr") [Value.int _ _]) _ _ _); with_reducible refine r_chr (by omega) (by omega) ?_; intro _ _)
  | ((with_reducible show wpAny _ _ (call (Value.builtin "divmod") [Value.int _ _, Value.int _ _]) _ _ _); (with_reducible rename Cx _ _ _ _ _ => C); with_reducible refine r_divmod C (by omega) (by omega) ?_; clear C; intro _ h _ _ _ C)
  | ((with_reducible show wpAny _ _ (compareOp CmpOp.Is (Value.int _ _) Value.none) _ _ _); with_reducible refine r_isI ?_)
  | ((with_reducible show wpAny _ _ (compareOp CmpOp.Is Value.none Value.none) _ _ _); with_reducible refine r_isNN ?_)
  | ((with_reducible show wpAny _ _ (compareOp CmpOp.IsNot (Value.int _ _) Value.none) _ _ _); with_reducible refine r_isNotI ?_)
  | ((with_reducible show wpAny _ _ (compareOp CmpOp.IsNot Value.none Value.none) _ _ _); with_reducible refine r_isNotN ?_)
  | ((with_reducible show wpAny _ _ (subscriptTail _ _ (Value.ref _) (Value.int _ _)) _ _ _); with_reducible refine r_tit (by walk_at "get") (by decide) (by with_unfolding_all exact rfl) (by walk_at "size") ?_)
  | ((with_reducible show wpAny _ _ (call (Value.type "range") [Value.int _ _, Value.int _ _, Value.int _ _]) _ _ _); (with_reducible rename Cx _ _ _ _ _ => C); with_reducible refine r_range3 C (by decide) (by decide) ?_; clear C; intro a h _ _ _ _ C)
  | walk_at "m2")
local macro_rules | `(tactic| walk_at "slice") => `(tactic| with_reducible refine r_subslice ?_)
local macro_rules | `(tactic| walk_at "get") => `(tactic| ((with_reducible rename Cx _ _ _ _ _ => C); first | exact Cx.old C (by with_reducible assumption) | exact Cx.at C (by walk_at "mem")))
local macro_rules | `(tactic| walk_at "mem") => `(tactic| ((repeat (first | with_reducible exact List.mem_cons_self | with_reducible refine List.mem_cons_of_mem _ ?_)); done))
local macro_rules | `(tactic| walk_at "upd") => `(tactic| first | with_reducible exact UpdAt.head | with_reducible exact UpdAt.tail (UpdAt.head) | with_reducible exact UpdAt.tail (UpdAt.tail (UpdAt.head)) | with_reducible exact UpdAt.tail (UpdAt.tail (UpdAt.tail (UpdAt.head))) | with_reducible exact UpdAt.tail (UpdAt.tail (UpdAt.tail (UpdAt.tail (UpdAt.head)))) | with_reducible exact UpdAt.tail (UpdAt.tail (UpdAt.tail (UpdAt.tail (UpdAt.tail (UpdAt.head))))) | with_reducible exact UpdAt.tail (UpdAt.tail (UpdAt.tail (UpdAt.tail (UpdAt.tail (UpdAt.tail (UpdAt.head)))))) | with_reducible exact UpdAt.tail (UpdAt.tail (UpdAt.tail (UpdAt.tail (UpdAt.tail (UpdAt.tail (UpdAt.tail (UpdAt.head))))))) | with_reducible exact UpdAt.tail (UpdAt.tail (UpdAt.tail (UpdAt.tail (UpdAt.tail (UpdAt.tail (UpdAt.tail (UpdAt.tail (UpdAt.head)))))))) | with_reducible exact UpdAt.tail (UpdAt.tail (UpdAt.tail (UpdAt.tail (UpdAt.tail (UpdAt.tail (UpdAt.tail (UpdAt.tail (UpdAt.tail (UpdAt.head))))))))) | with_reducible exact UpdAt.tail (UpdAt.tail (UpdAt.tail (UpdAt.tail (UpdAt.tail (UpdAt.tail (UpdAt.tail (UpdAt.tail (UpdAt.tail (UpdAt.tail (UpdAt.head)))))))))) | with_reducible exact UpdAt.tail (UpdAt.tail (UpdAt.tail (UpdAt.tail (UpdAt.tail (UpdAt.tail (UpdAt.tail (UpdAt.tail (UpdAt.tail (UpdAt.tail (UpdAt.tail (UpdAt.head))))))))))))
local macro_rules | `(tactic| walk_at "size") => `(tactic| first | omega | (simp only [List.length_cons, List.length_nil, List.length_append, List.length_map]; omega) | (simp; omega))
local macro_rules | `(tactic| walk_at "m2") => `(tactic| fail "no step")
local macro_rules | `(tactic| walk_at "hh") => `(tactic| (first | with_reducible assumption | (rename Around.handled _ = none => hh; with_unfolding_all exact hh)))
local macro_rules | `(tactic| walk_at "ints") => `(tactic| (first | with_reducible assumption | exact sp_ints (by with_reducible assumption) _ _))

def P := PySem.Challenge.pw_dm0102_07
def thr (j bias : Int) : Int := if 36 * (j + 1) - bias < 1 then 1 else if 26 < 36 * (j + 1) - bias then 26 else 36 * (j + 1) - bias
theorem thr_lo (j bias : Int) : 1 ≤ thr j bias := by unfold thr; split <;> (try split) <;> omega
theorem thr_hi (j bias : Int) : thr j bias ≤ 26 := by unfold thr; split <;> (try split) <;> omega

abbrev dT := dAt P 1
abbrev dD := dAt P 4
abbrev FT (mg : Str → Option Value) (h : Heap) (a : Addr) (cd : Value) := Fn mg h (sName dT) (sParams dT) (sBody dT) (sScope dT) a cd
abbrev FD (mg : Str → Option Value) (h : Heap) (a : Addr) (cd : Value) := Fn mg h (sName dD) (sParams dD) (sBody dD) (sScope dD) a cd
theorem T_spec {prog : Program} {w : World} {A : Around} {E : Value → Shared → Prop} {h : Heap} {mg mb : Str → Option Value}
  {g : Array GenState} {d : Drawn} {t : Nat} {o : OsState} {Q : Value → Shared → Prop} {a : Addr} {cd : Value} {j bias : Int} {tj tb : Tok}
  (G : Gl mg mb h) (f : FT mg h a cd) (hd : A.depth < recursionLimit)
  (k : ∀ h' t' tr, Kp h h' → Q (.int (thr j bias) tr) ⟨h', g, d, t', o⟩) :
  wpAny (model prog w) A (call (.ref a) [.int j tj, .int bias tb]) Q E ⟨h, g, d, t, o⟩ := by
  refine call_fn (binds := [(Str.ofString "j", .int j tj), (Str.ofString "bias", .int bias tb)]) G f hd (fun h t C => ?_) ?_ ?_ rfl rfl rfl ?_
  · conv in (execs _ _) => arg 1; whnf
    repeat walk_at "m"
    refine ite_dec (fun hc => ?_) (fun hc => ?_)
    · repeat walk_at "m"
      rename Cx _ _ _ _ _ => C
      have e : thr j bias = 1 := if_pos hc
      rw [e] at k
      exact k _ _ _ C.keep
    repeat walk_at "m"
    refine ite_dec (fun hc2 => ?_) (fun hc2 => ?_)
    · repeat walk_at "m"
      rename Cx _ _ _ _ _ => C
      have e : thr j bias = 26 := (if_neg hc).trans (if_pos hc2)
      rw [e] at k
      exact k _ _ _ C.keep
    repeat walk_at "m"
    rename Cx _ _ _ _ _ => C
    have e : thr j bias = 36 * (j + 1) - bias := (if_neg hc).trans (if_neg hc2)
    rw [e] at k
    exact k _ _ _ C.keep
  · intro pm doc; rfl
  · simp only [List.forall_mem_cons]; exact ⟨rfl, rfl, fun _ h => nomatch h⟩
  · decide

/-- a figure of a capital letter or figure -/
def dig (c : Int) : Option Int := if 65 ≤ c ∧ c ≤ 90 then some (c - 65) else if 48 ≤ c ∧ c ≤ 57 then some (c - 22) else none
theorem dig_lo {c x : Int} (h : dig c = some x) : 0 ≤ x ∧ x ≤ 35 := by
  unfold dig at h
  split at h
  · cases h; omega
  · split at h
    · cases h; omega
    · cases h
/-- what is read: how many octets, and the number -/
def decL (bias : Int) : Int → List Int → Option (Nat × Int)
  | _, [] => none
  | j, c :: r => match dig c with
    | none => none
    | some x => if x < thr j bias then some (1, x) else match decL bias (j + 1) r with
      | none => none
      | some (n, v) => some (n + 1, x + (36 - thr j bias) * v)

/-- the while of decode -/
def sWhile : List Stmt → List Stmt
  | .While _ b _ _ :: _ => b
  | _ :: r => sWhile r
  | [] => []

structure DInv (b : Array UInt8) (bias : Int) (stop : Int) (val : Int) (tb te : Tok) (er : Str) (n : Nat) (m : Str → Option Value) : Prop where
  ex : ∃ (p : Nat) (pp j res w v : Int) (tbi tp tj tr tw : Tok), Has m [(Str.ofString "extended", .bytes b tb), (Str.ofString "extpos", .int pp tp), (Str.ofString "bias", .int bias tbi), (Str.ofString "errors", .str er te), (Str.ofString "j", .int j tj), (Str.ofString "result", .int res tr), (Str.ofString "w", .int w tw)] ∧
    pp = p ∧ decL bias j ((KBw.bInts b).drop p) = some (n, v) ∧ (p : Int) + n = stop ∧ res + w * v = val

local macro_rules | `(tactic| walk_at "m2") => `(tactic| ((with_reducible show wpAny _ _ (call (Value.ref _) [Value.int _ _, Value.int _ _]) _ _ _); (with_reducible rename Cx _ _ _ _ _ => C); (with_reducible rename Gl _ _ _ => G); refine T_spec (Gl.kp G (Cx.keep C)) (Fn.kp (by with_reducible assumption) (Cx.keep C)) (by walk_at "depth") ?_; intro h t _ hk; replace C := Cx.grown C hk; clear hk))
local macro_rules | `(tactic| walk_at "depth") => `(tactic| first | omega | (show Around.depth _ + 1 < _; omega))
local macro_rules | `(tactic| walk_at "mul") => `(tactic| first | exact IntMulOk.of_left (intBits_le_64 (by omega) (by omega)) | exact IntMulOk.of_right (intBits_le_64 (by omega) (by omega)))
theorem dec_spec {prog : Program} {w : World} {A : Around} {E : Value → Shared → Prop} {h : Heap} {mg mb : Str → Option Value}
  {g : Array GenState} {d : Drawn} {t : Nat} {o : OsState} {Q : Value → Shared → Prop} {aT a : Addr} {cT cd : Value} {b : Array UInt8} {p n : Nat} {bias v : Int} {er : Str} {tb tp tbi te : Tok}
  (G : Gl mg mb h) (fT : FT mg h aT cT) (f : FD mg h a cd) (hd : A.depth + 5 < recursionLimit) (hb : b.size ≤ 1000000)
  (hv : decL bias 0 ((KBw.bInts b).drop p) = some (n, v))
  (k : ∀ x h' t' t1 t2, Kp h h' → h.get? x = none → h'.get? x = some (tup [.int (p + n) t1, .int v t2]) → Q (.ref x) ⟨h', g, d, t', o⟩) :
  wpAny (model prog w) A (call (.ref a) [.bytes b tb, .int p tp, .int bias tbi, .str er te]) Q E ⟨h, g, d, t, o⟩ := by
  have nT : mg (Str.ofString "T") = some (.ref aT) := fT.nm
  refine call_fn (binds := [(Str.ofString "extended", .bytes b tb), (Str.ofString "extpos", .int p tp), (Str.ofString "bias", .int bias tbi), (Str.ofString "errors", .str er te)]) G f (by omega) (fun h t C => ?_) ?_ ?_ rfl rfl rfl ?_
  · conv in (execs _ _) => arg 1; whnf
    repeat walk_at "m"
    rename Cx _ _ _ _ _ => C
    refine r_while (fun n' m news => DInv b bias (p + n) v tb te er n' m) n C ?_ ?_
    · exact ⟨p, _, _, _, _, v, _, _, _, _, _, ⟨rfl, rfl, rfl, rfl, rfl, rfl, rfl, trivial⟩, rfl, hv, rfl, by omega⟩
    · clear hv C
      rintro n' h t m news C ⟨p', pp, j, res, w, v', tbi, tp, tj, tr, tw, hm, hpp, hv, hstop, hval⟩
      rw [hm.eq] at C
      clear hm
      cases hl : (KBw.bInts b).drop p' with
      | nil => rw [hl] at hv; cases hv
      | cons c r =>
        have hc : (KBw.bInts b)[p']? = some c := by
          have := congrArg (fun l => l[0]?) hl
          simpa [List.getElem?_drop] using this
        have hr : (KBw.bInts b).drop (p' + 1) = r := by
          rw [← List.drop_drop, hl]; rfl
        rw [hl] at hv
        have hx : ∃ x, dig c = some x := by
          cases hx : dig c with
          | none => simp [decL, hx] at hv
          | some x => exact ⟨x, rfl⟩
        obtain ⟨x, hx⟩ := hx
        have hx' : (65 ≤ c ∧ c ≤ 90 ∧ x = c - 65) ∨ (¬ (65 ≤ c ∧ c ≤ 90) ∧ 48 ≤ c ∧ c ≤ 57 ∧ x = c - 22) := by
          unfold dig at hx
          split at hx
          · cases hx; omega
          · split at hx
            · cases hx; omega
            · cases hx
        repeat walk_at "m"
        refine r_bitem (by omega) (by rw [hpp]; exact hc) (by omega) ?_
        intro _ _ _ _
        have hx35 := dig_lo hx
        have hlo := thr_lo j bias
        have hhi := thr_hi j bias
        rcases hx' with ⟨h1, h2, h3⟩ | ⟨h1, h2, h3, h4⟩
        · subst x
          repeat walk_at "m"
          refine ite_dec (fun hlt => ?_) (fun hge => ?_)
          · repeat walk_at "m"
            rename Cx _ _ _ _ _ => C
            simp only [decL, hx, hlt, if_true, Option.some.injEq, Prod.mk.injEq] at hv
            obtain ⟨rfl, rfl⟩ := hv
            have e1 : pp + 1 = (p : Int) + n := by omega
            have q := C.get _ (.head _)
            rw [e1, Int.mul_comm _ w, hval] at q
            exact k _ _ _ _ _ C.keep (C.low _ (.head _)).1 q
          · repeat walk_at "m"
            rename Cx _ _ _ _ _ => C
            simp only [decL, hx, hge, if_false] at hv
            cases hd' : decL bias (j + 1) r with
            | none => rw [hd'] at hv; cases hv
            | some y =>
              obtain ⟨n2, v2⟩ := y
              rw [hd'] at hv
              simp only [Option.some.injEq, Prod.mk.injEq] at hv
              obtain ⟨rfl, rfl⟩ := hv
              refine TurnW.go C (Nat.lt_succ_self n2) ⟨p' + 1, _, _, _, _, v2, _, _, _, _, _, ⟨rfl, rfl, rfl, rfl, rfl, rfl, rfl, trivial⟩, by omega, by rw [hr]; exact hd', by omega, ?_⟩
              rw [← hval, Int.mul_add, Int.mul_assoc, Int.mul_comm _ w, Int.add_assoc]
        · subst x
          have hge : ¬ (c - 22 < thr j bias) := by omega
          repeat walk_at "m"
          rename Cx _ _ _ _ _ => C
          simp only [decL, hx, hge, if_false] at hv
          cases hd' : decL bias (j + 1) r with
          | none => rw [hd'] at hv; cases hv
          | some y =>
            obtain ⟨n2, v2⟩ := y
            rw [hd'] at hv
            simp only [Option.some.injEq, Prod.mk.injEq] at hv
            obtain ⟨rfl, rfl⟩ := hv
            refine TurnW.go C (Nat.lt_succ_self n2) ⟨p' + 1, _, _, _, _, v2, _, _, _, _, _, ⟨rfl, rfl, rfl, rfl, rfl, rfl, rfl, trivial⟩, by omega, by rw [hr]; exact hd', by omega, ?_⟩
            rw [← hval, Int.mul_add, Int.mul_assoc, Int.mul_comm _ w, Int.add_assoc]
  · intro pm doc; rfl
  · simp only [List.forall_mem_cons]; exact ⟨rfl, rfl, rfl, rfl, fun _ h => nomatch h⟩
  · decide

end Mine

namespace Mine
open PySem PySem.W PyProof.Rows PySem.Calls PyProof.Rows.TI
set_option maxRecDepth 100000
set_option linter.unusedVariables false
local macro_rules | `(tactic| walk_at "m") => `(tactic| first
  | ((with_reducible show wpAny _ _ (execs (_ :: _) _) _ _ _); with_reducible refine wpAny_execs_cons ?_)
  | ((with_reducible show wpAny _ _ (exec (Stmt.Assign [Expr.Name _ _] _ _) _) _ _ _); with_reducible refine wpAny_Assign_Name ?_ (by kernel_rfl))
  | ((with_reducible show wpAny _ _ (exec (Stmt.AugAssign (Expr.Name _ _) _ _ _) _) _ _ _); with_reducible refine wpAny_AugAssign_Name ?_)
  | ((with_reducible show wpAny _ _ (exec (Stmt.If _ _ _ _) _) _ _ _); with_reducible refine wpAny_If ?_)
  | ((with_reducible show wpAny _ _ (exec (Stmt.Return (some _) _) _) _ _ _); with_reducible refine wpAny_Return_some ?_)
  | ((with_reducible show wpAny _ _ (eval (Expr.Name _ _) _) _ _ _); (with_reducible rename Cx _ _ _ _ _ => C); first | with_reducible refine nm_l C (by with_unfolding_all exact rfl) ?_ | (with_reducible rename Gl _ _ _ => G); first | with_reducible refine nm_g C G (by with_reducible assumption) ?_ | with_reducible refine nm_b C G (Gl.nob G _ (by decide +kernel)) (by with_reducible first | exact bb_len | exact bb_sum | exact bb_range | exact bb_ord | exact bb_chr | exact bb_bytes | exact bb_bytearray | exact bb_min | exact bb_max | exact bb_sorted | exact bb_isinstance | exact bb_bool | exact bb_divmod | exact bb_abs | exact bb_list | exact bb_zip | exact bb_str | exact bb_IndexError | exact bb_UDE) ?_)
  | ((with_reducible show wpAny _ _ (loadName _ _) _ _ _); (with_reducible rename Cx _ _ _ _ _ => C); with_reducible refine ldn_l C (by with_unfolding_all exact rfl) ?_)
  | ((with_reducible show wpAny _ _ (storeName _ _ _) _ _ _); (with_reducible rename Cx _ _ _ _ _ => C); with_reducible refine st_l C ?_; clear C; intro h t C)
  | ((with_reducible show wpAny _ _ (eval (Expr.Constant (Const.int _) _ _) _) _ _ _); with_reducible refine r_int ?_; intro _ _)
  | ((with_reducible show wpAny _ _ (eval (Expr.Constant (Const.str _) _ _) _) _ _ _); with_reducible refine r_str ?_; intro _ _)
  | ((with_reducible show wpAny _ _ (eval (Expr.Constant (Const.bytes _) _ _) _) _ _ _); with_reducible refine r_bytes ?_; intro _ _)
  | ((with_reducible show wpAny _ _ (eval (Expr.Constant Const.none _ _) _) _ _ _); with_reducible refine r_none ?_)
  | ((with_reducible show wpAny _ _ (eval (Expr.Constant (Const.bool _) _ _) _) _ _ _); with_reducible refine r_bool ?_)
  | ((with_reducible show wpAny _ _ (eval (Expr.BinOp _ _ _ _) _) _ _ _); with_reducible refine wpAny_BinOp ?_)
  | ((with_reducible show wpAny _ _ (eval (Expr.Compare _ [_] [_] _) _) _ _ _); with_reducible refine wpAny_Compare1 ?_ (by kernel_rfl))
  | ((with_reducible show wpAny _ _ (isTrue (Expr.Compare _ [_] [_] _) _ _) _ _ _); with_reducible refine wpAny_isTrue_Compare1 ?_ (by kernel_rfl))
  | ((with_reducible show wpAny _ _ (truthy (Value.bool _)) _ _ _); with_reducible refine wpAny_truthy_bool ?_)
  | ((with_reducible show wpAny _ _ (truthy (Value.int _ _)) _ _ _); with_reducible refine r_tint ?_)
  | ((with_reducible show wpAny _ _ (binaryOp Operator.Add (Value.int _ _) (Value.int _ _)) _ _ _); with_reducible refine r_add ?_; intro _ _)
  | ((with_reducible show wpAny _ _ (binaryOp Operator.Sub (Value.int _ _) (Value.int _ _)) _ _ _); with_reducible refine r_sub ?_; intro _ _)
  | ((with_reducible show wpAny _ _ (binaryOp Operator.Mult (Value.int _ _) (Value.int _ _)) _ _ _); with_reducible refine r_mul (by first | exact IntMulOk.of_left (by decide) | exact IntMulOk.of_right (by decide) | walk_at "mul") ?_; intro _ _)
  | ((with_reducible show wpAny _ _ (binaryOp Operator.FloorDiv (Value.int _ _) (Value.int _ _)) _ _ _); with_reducible refine r_div (by omega) (by omega) ?_; intro _ _)
  | ((with_reducible show wpAny _ _ (binaryOp Operator.Mod (Value.int _ _) (Value.int _ _)) _ _ _); with_reducible refine r_mod (by omega) (by omega) ?_; intro _ _)
  | ((with_reducible show wpAny _ _ (inplaceOp Operator.Add (Value.int _ _) (Value.int _ _)) _ _ _); with_reducible refine r_iadd ?_; intro _ _)
  | ((with_reducible show wpAny _ _ (inplaceOp Operator.Mult (Value.int _ _) (Value.int _ _)) _ _ _); with_reducible refine r_imul (by first | exact IntMulOk.of_left (by decide) | exact IntMulOk.of_right (by decide) | walk_at "mul") ?_; intro _ _)
  | ((with_reducible show wpAny _ _ (compareOp CmpOp.Eq (Value.int _ _) (Value.int _ _)) _ _ _); with_reducible refine r_eq ?_)
  | ((with_reducible show wpAny _ _ (compareOp CmpOp.NotEq (Value.int _ _) (Value.int _ _)) _ _ _); with_reducible refine r_ne ?_)
  | ((with_reducible show wpAny _ _ (compareOp CmpOp.Lt (Value.int _ _) (Value.int _ _)) _ _ _); with_reducible refine r_lt ?_)
  | ((with_reducible show wpAny _ _ (compareOp CmpOp.LtE (Value.int _ _) (Value.int _ _)) _ _ _); with_reducible refine r_le ?_)
  | ((with_reducible show wpAny _ _ (compareOp CmpOp.Gt (Value.int _ _) (Value.int _ _)) _ _ _); with_reducible refine r_gt ?_)
  | ((with_reducible show wpAny _ _ (compareOp CmpOp.GtE (Value.int _ _) (Value.int _ _)) _ _ _); with_reducible refine r_ge ?_)
  | ((with_reducible show wpAny _ _ (execs [] _) _ _ _); refine wpAny_pure ?_)
  | ((with_reducible show wpAny _ _ (exec (Stmt.Try _ (_ :: _) _ [] _) _) _ _ _); with_reducible refine wpAny_Try_except ?_)
  | ((with_reducible show wpAny _ _ (isTrue (Expr.Compare _ (_ :: _ :: _) (_ :: _ :: _) _) _ _) _ _ _); with_reducible refine isTrue_chain ?_ (by kernel_rfl))
  | ((with_reducible show wpAny _ _ (testChain _ _ (_ :: _ :: _) (_ :: _ :: _)) _ _ _); with_reducible refine test_link ?_)
  | ((with_reducible show wpAny _ _ (testChain _ _ [_] _) _ _ _); with_reducible refine t_last ?_)
  | ((with_reducible show wpAny _ _ (isTrue (Expr.BoolOp BoolOp.And (_ :: _) _) _ _) _ _ _); with_reducible refine isTrue_and ?_)
  | ((with_reducible show wpAny _ _ (isTrue (Expr.BoolOp BoolOp.And [] _) _ _) _ _ _); with_reducible refine isTrue_and_nil ?_)
  | ((with_reducible show wpAny _ _ (isTrue (Expr.BoolOp BoolOp.Or (_ :: _) _) _ _) _ _ _); with_reducible refine isTrue_or ?_)
  | ((with_reducible show wpAny _ _ (isTrue (Expr.BoolOp BoolOp.Or [] _) _ _) _ _ _); with_reducible refine isTrue_or_nil ?_)
  | ((with_reducible show wpAny _ _ (isTrue (Expr.UnaryOp UnaryOp.Not _ _) _ _) _ _ _); with_reducible refine isTrue_not ?_)
  | ((with_reducible show wpAny _ _ (isTrue (Expr.Constant _ _ _) _ _) _ _ _); with_reducible refine isTrue_plain ?_ (by kernel_rfl))
  | ((with_reducible show wpAny _ _ (isTrue (Expr.Call _ _ _ _) _ _) _ _ _); with_reducible refine isTrue_plain ?_ (by kernel_rfl))
  | ((with_reducible show wpAny _ _ (isTrue (Expr.Name _ _) _ _) _ _ _); with_reducible refine isTrue_plain ?_ (by kernel_rfl))
  | ((with_reducible show wpAny _ _ (eval (Expr.IfExp _ _ _ _) _) _ _ _); with_reducible refine IfExp_ ?_)
  | ((with_reducible show wpAny _ _ (eval (Expr.Tuple _ _ _) _) _ _ _); with_reducible refine Tuple_ ?_)
  | ((with_reducible show wpAny _ _ (eval (Expr.List _ _) _) _ _ _); with_reducible refine List_ ?_)
  | ((with_reducible show wpAny _ _ (eval (Expr.Subscript _ (Expr.Slice _ _ none _) _) _) _ _ _); walk_at "slice")
  | ((with_reducible show wpAny _ _ (eval (Expr.Subscript _ _ _) _) _ _ _); with_reducible refine Subscript_ ?_)
  | ((with_reducible show wpAny _ _ (evalPart none _) _ _ _); with_reducible refine evalPart_none_step ?_)
  | ((with_reducible show wpAny _ _ (evalPart (some _) _) _ _ _); with_reducible refine evalPart_some_step ?_)
  | ((with_reducible show SliceOn _ _ _ _ _ (Value.ref _) _ _ _ _ _); (with_reducible rename Cx _ _ _ _ _ => C); with_reducible refine r_slice C (by walk_at "get") (by first | exact IsPart.none | exact IsPart.int _ _) (by first | exact IsPart.none | exact IsPart.int _ _) (by walk_at "size") ?_; clear C; intro a h C)
  | ((with_reducible show wpAny _ _ (eval (Expr.Call (Expr.Name _ _) _ [] _) _) _ _ _); with_reducible refine Call_ ?_ (by kernel_rfl))
  | ((with_reducible show wpAny _ _ (callWith _ (Value.ref _) [] (backTo _ (starEach (_ :: _) _)) []) _ _ _); with_reducible refine r_callf (by with_reducible assumption) ?_)
  | ((with_reducible show wpAny _ _ (callWith _ (Value.builtin _) [] (backTo _ (starEach (_ :: _) _)) []) _ _ _); with_reducible refine callWith_builtin1 ?_ (by kernel_rfl) (by kernel_rfl))
  | ((with_reducible show wpAny _ _ (callWith _ (Value.type _) [] (backTo _ (starEach (_ :: _) _)) []) _ _ _); with_reducible refine PyProof.Rows.callWith_type1 ?_ (by kernel_rfl) (by kernel_rfl))
  | ((with_reducible show wpAny _ _ (spliced (backTo _ (starEach (_ :: _) _))) _ _ _); with_reducible refine args_cons ?_ (by kernel_rfl))
  | ((with_reducible show wpAny _ _ (spliced (backTo _ (starEach [] _))) _ _ _); with_reducible refine args_nil ?_)
  | ((with_reducible show Kp _ _ ∧ wpAny _ _ (call _ _) _ _ _); (with_reducible rename Cx _ _ _ _ _ => C); refine ⟨Cx.keep C, ?_⟩)
  | ((with_reducible show wpAny _ _ (newTuple _) _ _ _); (with_reducible rename Cx _ _ _ _ _ => C); with_reducible refine r_newTuple C (by size_fits) ?_; clear C; intro a h C)
  | ((with_reducible show wpAny _ _ (newList _) _ _ _); (with_reducible rename Cx _ _ _ _ _ => C); with_reducible refine r_newList C (by size_fits) ?_; clear C; intro a h C)
  | ((with_reducible show if true = true then _ else _); with_reducible refine ite_t ?_)
  | ((with_reducible show if false = true then _ else _); with_reducible refine ite_f ?_)
  | ((with_reducible show if decide _ = true then _ else _); first | with_reducible refine ite_yes (by first | assumption | omega | decide) ?_ | with_reducible refine ite_no (by first | assumption | omega | decide) ?_)
  | ((with_reducible show wpAny _ _ (exec (Stmt.Expr _ _) _) _ _ _); with_reducible refine wpAny_Expr ?_ (by kernel_rfl) (by kernel_rfl))
  | ((with_reducible show wpAny _ _ (eval (Expr.Call (Expr.Attribute _ _ _) _ [] _) _) _ _ _); with_reducible refine r_mcall ?_)
  | ((with_reducible show wpAny _ _ (getMethod (Value.ref _) (Str.ofString "append") _) _ _ _); with_reducible refine r_getAppend (by walk_at "get") ?_; dsimp only)
  | ((with_reducible show wpAny _ _ (callWith _ (Value.builtin _) [_] (backTo _ (starEach (_ :: _) _)) []) _ _ _); with_reducible refine r_method1 ?_)
  | ((with_reducible show wpAny _ _ (callWith _ (Value.builtin _) [_] (backTo _ (starEach [] _)) []) _ _ _); with_reducible refine callWith_method0 ?_)
  | ((with_reducible show wpAny _ _ (call _ (_ ++ _)) _ _ _); simp only [List.cons_append, List.nil_append])
  | ((with_reducible show wpAny _ _ (call (Value.builtin "list.append") [Value.ref _, _]) _ _ _); (with_reducible rename Cx _ _ _ _ _ => C); with_reducible refine r_append C (by walk_at "upd") (by walk_at "size") ?_; clear C; intro h C)
  | ((with_reducible show wpAny _ _ (call (Value.builtin "len") [Value.ref _]) _ _ _); with_reducible refine r_len (by walk_at "get") (by walk_at "size") ?_; intro _ _)
  | ((with_reducible show wpAny _ _ (call (Value.builtin "len") [Value.bytes _ _]) _ _ _); with_reducible refine r_lenB (by walk_at "size") ?_; intro _ _)
  | ((with_reducible show wpAny _ _ (call (Value.builtin "isinstance") [Value.int _ _, Value.type "bool"]) _ _ _); with_reducible refine r_isiI ?_; intro _)
  | ((with_reducible show wpAny _ _ (call (Value.builtin "isinstance") [Value.none, Value.type "bool"]) _ _ _); with_reducible refine r_isiN ?_; intro _)
  | ((with_reducible show wpAny _ _ (eval (Expr.UnaryOp _ _ _) _) _ _ _); with_reducible refine UnaryOp_ ?_)
  | ((with_reducible show wpAny _ _ (unaryOp UnaryOp.USub (Value.int _ _)) _ _ _); with_reducible refine r_neg ?_; intro _ _)
  | ((with_reducible show wpAny _ _ (call (Value.type "range") [Value.int _ _]) _ _ _); (with_reducible rename Cx _ _ _ _ _ => C); with_reducible refine r_range1 C ?_; clear C; intro a h _ _ _ _ C)
  | ((with_reducible show wpAny _ _ (call (Value.type "range") [Value.int _ _, Value.int _ _]) _ _ _); (with_reducible rename Cx _ _ _ _ _ => C); with_reducible refine r_range2 C ?_; clear C; intro a h _ _ _ _ C)
  | ((with_reducible show wpAny _ _ (subscriptTail _ _ (Value.str (Str.ofString "ABCDEFGHIJKLMNOPQRSTUVWXYZ0123456789") _) (Value.int _ _)) _ _ _); with_reducible refine r_sgn (by omega) (by omega) ?_; intro _ _)
  | ((with_reducible show wpAny _ _ (call (Value.builtin "ord") [Value.str (Str.mk #[Int.toNat (sgn _)]) _]) _ _ _); with_reducible refine r_ordS (by omega) (by omega) ?_; intro _ _)
  | ((with_reducible show wpAny _ _ (call (Value.builtin "sum") [Value.ref _]) _ _ _); (with_reducible rename Cx _ _ _ _ _ => C); with_reducible refine r_sum C (by walk_at "hh") (by walk_at "get") (by walk_at "ints") ?_; clear C; intro h _ _ C)
  | ((with_reducible show wpAny _ _ (compareOp CmpOp.Eq (Value.str _ _) (Value.str _ _)) _ _ _); first | with_reducible refine r_eqSF (by with_reducible assumption) ?_ | with_reducible refine r_eqST (by first | with_reducible assumption | rfl) ?_)
  | ((with_reducible show wpAny _ _ (exec (Stmt.Assign [Expr.Tuple _ _ _] _ _) _) _ _ _); with_reducible refine PyProof.Rows.Assign_Tuple ?_ (by kernel_rfl) (by kernel_rfl))
  | ((with_reducible show wpAny _ _ (assign (Expr.Tuple [Expr.Name _ _, Expr.Name _ _] _ _) _ (Value.ref _)) _ _ _); (with_reducible rename Cx _ _ _ _ _ => C); with_reducible refine r_unpack2 C (by walk_at "get") (by walk_at "hh") ?_; clear C; intro h C)
  | ((with_reducible show wpAny _ _ (getMethod (Value.str _ _) (Str.ofString "find") _) _ _ _); with_reducible refine r_getFind ?_; dsimp only)
  | ((with_reducible show wpAny _ _ (call (Value.builtin "str.find") [Value.str _ _, Value.str (Str.mk #[Int.toNat _]) _]) _ _ _); with_reducible refine r_find (by omega) (by omega) ?_; intro _ _)
  | ((with_reducible show wpAny _ _ (call (Value.builtin "chr") [Value.int _ _]) _ _ _); with_reducible refine r_chr (by omega) (by omega) ?_; intro _ _)
  | ((with_reducible show wpAny _ _ (call (Value.builtin "divmod") [Value.int _ _, Value.int _ _]) _ _ _); (with_reducible rename Cx _ _ _ _ _ => C); with_reducible refine r_divmod C (by omega) (by omega) ?_; clear C; intro _ h _ _ _ C)
  | ((with_reducible show wpAny _ _ (compareOp CmpOp.Is (Value.int _ _) Value.none) _ _ _); with_reducible refine r_isI ?_)
  | ((with_reducible show wpAny _ _ (compareOp CmpOp.Is Value.none Value.none) _ _ _); with_reducible refine r_isNN ?_)
  | ((with_reducible show wpAny _ _ (compareOp CmpOp.IsNot (Value.int _ _) Value.none) _ _ _); with_reducible refine r_isNotI ?_)
  | ((with_reducible show wpAny _ _ (compareOp CmpOp.IsNot Value.none Value.none) _ _ _); with_reducible refine r_isNotN ?_)
  | ((with_reducible show wpAny _ _ (subscriptTail _ _ (Value.ref _) (Value.int _ _)) _ _ _); with_reducible refine r_tit (by walk_at "get") (by decide) (by with_unfolding_all exact rfl) (by walk_at "size") ?_)
  | ((with_reducible show wpAny _ _ (call (Value.type "range") [Value.int _ _, Value.int _ _, Value.int _ _]) _ _ _); (with_reducible rename Cx _ _ _ _ _ => C); with_reducible refine r_range3 C (by decide) (by decide) ?_; clear C; intro a h _ _ _ _ C)
  | walk_at "m2")
local macro_rules | `(tactic| walk_at "slice") => `(tactic| with_reducible refine r_subslice ?_)
local macro_rules | `(tactic| walk_at "get") => `(tactic| ((with_reducible rename Cx _ _ _ _ _ => C); first | exact Cx.old C (by with_reducible assumption) | exact Cx.at C (by walk_at "mem")))
local macro_rules | `(tactic| walk_at "mem") => `(tactic| ((repeat (first | with_reducible exact List.mem_cons_self | with_reducible refine List.mem_cons_of_mem _ ?_)); done))
local macro_rules | `(tactic| walk_at "upd") => `(tactic| first | with_reducible exact UpdAt.head | with_reducible exact UpdAt.tail (UpdAt.head) | with_reducible exact UpdAt.tail (UpdAt.tail (UpdAt.head)) | with_reducible exact UpdAt.tail (UpdAt.tail (UpdAt.tail (UpdAt.head))) | with_reducible exact UpdAt.tail (UpdAt.tail (UpdAt.tail (UpdAt.tail (UpdAt.head)))) | with_reducible exact UpdAt.tail (UpdAt.tail (UpdAt.tail (UpdAt.tail (UpdAt.tail (UpdAt.head))))) | with_reducible exact UpdAt.tail (UpdAt.tail (UpdAt.tail (UpdAt.tail (UpdAt.tail (UpdAt.tail (UpdAt.head)))))) | with_reducible exact UpdAt.tail (UpdAt.tail (UpdAt.tail (UpdAt.tail (UpdAt.tail (UpdAt.tail (UpdAt.tail (UpdAt.head))))))) | with_reducible exact UpdAt.tail (UpdAt.tail (UpdAt.tail (UpdAt.tail (UpdAt.tail (UpdAt.tail (UpdAt.tail (UpdAt.tail (UpdAt.head)))))))) | with_reducible exact UpdAt.tail (UpdAt.tail (UpdAt.tail (UpdAt.tail (UpdAt.tail (UpdAt.tail (UpdAt.tail (UpdAt.tail (UpdAt.tail (UpdAt.head))))))))) | with_reducible exact UpdAt.tail (UpdAt.tail (UpdAt.tail (UpdAt.tail (UpdAt.tail (UpdAt.tail (UpdAt.tail (UpdAt.tail (UpdAt.tail (UpdAt.tail (UpdAt.head)))))))))) | with_reducible exact UpdAt.tail (UpdAt.tail (UpdAt.tail (UpdAt.tail (UpdAt.tail (UpdAt.tail (UpdAt.tail (UpdAt.tail (UpdAt.tail (UpdAt.tail (UpdAt.tail (UpdAt.head))))))))))))
local macro_rules | `(tactic| walk_at "size") => `(tactic| first | omega | (simp only [List.length_cons, List.length_nil, List.length_append, List.length_map]; omega) | (simp; omega))
local macro_rules | `(tactic| walk_at "m2") => `(tactic| fail "no step")
local macro_rules | `(tactic| walk_at "hh") => `(tactic| (first | with_reducible assumption | (rename Around.handled _ = none => hh; with_unfolding_all exact hh)))
local macro_rules | `(tactic| walk_at "ints") => `(tactic| (first | with_reducible assumption | exact sp_ints (by with_reducible assumption) _ _))

/-- the figures of a numeral -/
inductive Gn (bias : Int) : Int → Int → List Int → Prop
  | last {j N : Int} : 0 ≤ N → N < thr j bias → Gn bias j N [N]
  | more {j N : Int} {l : List Int} : thr j bias ≤ N → Gn bias (j + 1) ((N - thr j bias) / (36 - thr j bias)) l → Gn bias j N ((thr j bias + (N - thr j bias) % (36 - thr j bias)) :: l)
theorem Gn.nonneg {bias j N : Int} {l : List Int} (h : Gn bias j N l) : 0 ≤ N := by
  cases h with
  | last h _ => exact h
  | more h _ => have := thr_lo j bias; omega
theorem Gn.figs {bias j N : Int} {l : List Int} (h : Gn bias j N l) : ∀ x ∈ l, 0 ≤ x ∧ x < 36 := by
  induction h with
  | @last j N h0 h1 =>
    intro x hx
    rw [List.mem_singleton.mp hx]
    have := thr_hi j bias
    omega
  | @more j N l hge _ ih =>
    intro x hx
    have hlo := thr_lo j bias
    have hhi := thr_hi j bias
    rcases List.mem_cons.mp hx with rfl | hx
    · have hm0 := Int.emod_nonneg (N - thr j bias) (show (36 - thr j bias : Int) ≠ 0 by omega)
      have hm1 := Int.emod_lt_of_pos (N - thr j bias) (show (0 : Int) < 36 - thr j bias by omega)
      omega
    · exact ih x hx
def low (k : Int) : Int := if k < 26 then k + 97 else k + 22
abbrev LOWS : Array UInt8 := #[97, 98, 99, 100, 101, 102, 103, 104, 105, 106, 107, 108, 109, 110, 111, 112, 113, 114, 115, 116, 117, 118, 119, 120, 121, 122, 48, 49, 50, 51, 52, 53, 54, 55, 56, 57]
theorem lows_fin : ∀ i : Fin 36, (KBw.bInts LOWS)[i.val]? = some (low i.val) := by decide +kernel
theorem lows_at {k : Int} (h0 : 0 ≤ k) (h1 : k < 36) : (KBw.bInts LOWS)[k.toNat]? = some (low k) := by
  have := lows_fin ⟨k.toNat, by omega⟩
  rw [this]
  show some (low (k.toNat : Int)) = _
  rw [show ((k.toNat : Nat) : Int) = k from by omega]
theorem low_in {k : Int} (h0 : 0 ≤ k) (h1 : k < 36) : 0 ≤ low k ∧ low k < 256 := by unfold low; split <;> omega
abbrev dG := dAt P 3
abbrev FG (mg : Str → Option Value) (h : Heap) (a : Addr) (cd : Value) := Fn mg h (sName dG) (sParams dG) (sBody dG) (sScope dG) a cd
structure GInv (bias : Int) (L : List Int) (n : Nat) (m : Str → Option Value) (news : List (Addr × Obj)) : Prop where
  ex : ∃ (l : List Int) (pre : List Int) (N j : Int) (x : Addr) (tN tb tj : Tok), Has m [(Str.ofString "N", .int N tN), (Str.ofString "bias", .int bias tb), (Str.ofString "j", .int j tj), (Str.ofString "result", .ref x)] ∧
    news = [(x, barr (byteArr (pre.map low)))] ∧ Gn bias j N l ∧ pre ++ l = L ∧ n = l.length
theorem byteArr_push (l : List Int) (k : Int) : (byteArr l).push k.toNat.toUInt8 = byteArr (l ++ [k]) := by
  unfold byteArr
  simp
local macro_rules | `(tactic| walk_at "depth") => `(tactic| first | omega | (show Around.depth _ + 1 < _; omega))
local macro_rules | `(tactic| walk_at "c") => `(tactic| first
  | ((with_reducible show wpC _ _ (execs (_ :: _) _) _ _ _); with_reducible refine c_cons ?_)
  | ((with_reducible show wpC _ _ (execs [] _) _ _ _); refine wpC_pure ?_)
  | ((with_reducible show wpC _ _ (exec (Stmt.If _ _ _ _) _) _ _ _); with_reducible refine c_If ?_)
  | ((with_reducible show wpC _ _ (exec (Stmt.Expr (Expr.Call (Expr.Attribute _ _ _) _ _ _) _) _) _ _ _); with_reducible refine c_Expr ?_)
  | ((with_reducible show wpC _ _ (exec (Stmt.Assign [Expr.Name _ _] (Expr.Call (Expr.Name (Str.ofString "bytearray") _) _ _ _) _) _) _ _ _); with_reducible refine c_Assign (c_CallN ?_))
  | ((with_reducible show wpC _ _ (eval (Expr.Call (Expr.Attribute (Expr.Name _ _) _ _) _ _ _) _) _ _ _); with_reducible refine c_mcall ?_)
  | ((with_reducible show wpC _ _ (callWith _ (Value.builtin _) [_] (backTo _ (starEach (_ :: _) _)) []) _ _ _); with_reducible refine c_method1 ?_)
  | ((with_reducible show wpC _ _ (call _ (_ ++ _)) _ _ _); simp only [List.cons_append, List.nil_append])
  | ((with_reducible show wpAny _ _ (getMethod (Value.ref _) (Str.ofString "append") _) _ _ _); with_reducible refine r_getBAppend (by walk_at "get") ?_; dsimp only)
  | ((with_reducible show wpC _ _ (isTrue _ _ _) _ _ _); with_reducible refine wpC_of ?_)
  | ((with_reducible show wpC _ _ (exec (Stmt.Assign _ _ _) _) _ _ _); with_reducible refine wpC_of ?_)
  | ((with_reducible show wpC _ _ (exec (Stmt.AugAssign _ _ _ _) _) _ _ _); with_reducible refine wpC_of ?_)
  | ((with_reducible show wpC _ _ (exec (Stmt.Return _ _) _) _ _ _); with_reducible refine wpC_of ?_))
local macro_rules | `(tactic| walk_at "m2") => `(tactic| first
  | ((with_reducible show wpAny _ _ (call (Value.ref _) [Value.int _ _, Value.int _ _]) _ _ _); (with_reducible rename Cx _ _ _ _ _ => C); (with_reducible rename Gl _ _ _ => G); refine T_spec (Gl.kp G (Cx.keep C)) (Fn.kp (by with_reducible assumption) (Cx.keep C)) (by walk_at "depth") ?_; intro h t _ hk; replace C := Cx.grown C hk; clear hk)
  | walk_at "c")
set_option maxHeartbeats 4000000 in
theorem gen_spec {prog : Program} {w : World} {A : Around} {E : Value → Shared → Prop} {h : Heap} {mg mb : Str → Option Value}
  {g : Array GenState} {d : Drawn} {t : Nat} {o : OsState} {Q : Value → Shared → Prop} {aT a : Addr} {cT cd : Value} {N bias : Int} {l : List Int} {tN tb td : Tok}
  (G : Gl mg mb h) (fT : FT mg h aT cT) (f : FG mg h a cd) (nDg : mg (Str.ofString "digits") = some (.bytes LOWS td)) (hd : A.depth + 5 < recursionLimit) (hg : A.guards = some [])
  (hG : Gn bias 0 N l) (hl : l.length ≤ 1000)
  (k : ∀ h' t' tr, Kp h h' → Q (.bytes (byteArr (l.map low)) tr) ⟨h', g, d, t', o⟩) :
  wpC (model prog w) A (call (.ref a) [.int N tN, .int bias tb]) Q E ⟨h, g, d, t, o⟩ := by
  have nT : mg (Str.ofString "T") = some (.ref aT) := fT.nm
  refine call_fnC (binds := [(Str.ofString "N", .int N tN), (Str.ofString "bias", .int bias tb)]) G f (by omega) (fun h t C => ?_) ?_ ?_ rfl rfl rfl ?_
  · conv in (execs _ _) => arg 1; whnf
    repeat walk_at "m"
    rename Cx _ _ _ _ _ => C
    refine c_callT0 (r_bytearray C hg ?_)
    clear C
    intro x h C
    repeat walk_at "m"
    rename Cx _ _ _ _ _ => C
    refine r_whileC (fun n' m news => GInv bias l n' m news) l.length C ?_ ?_
    · exact ⟨l, [], _, _, _, _, _, _, ⟨rfl, rfl, rfl, rfl, trivial⟩, rfl, hG, rfl, rfl⟩
    · clear hG C
      rintro n' h t m news C ⟨l', pre, N, j, x, tN, tb, tj, hm, rfl, hG, hpl, rfl⟩
      rw [hm.eq] at C
      clear hm
      have hn0 := hG.nonneg
      have hlo := thr_lo j bias
      have hhi := thr_hi j bias
      have hll : pre.length + l'.length = l.length := by rw [← hpl]; simp
      repeat walk_at "m"
      cases hG with
      | last _ hlt =>
        refine ite_yes hlt ?_
        repeat walk_at "m"
        refine r_bitem hn0 (lows_at hn0 (by omega)) (by decide) ?_
        intro _ _ hb0 hb1
        repeat walk_at "m"
        rename Cx _ _ _ _ _ => C
        refine r_bappend C .head hg hb0 hb1 (by rw [byteArr_size, List.length_map]; omega) ?_
        clear C
        intro h C
        rw [byteArr_push, ← List.map_singleton (f := low), ← List.map_append, hpl] at C
        repeat walk_at "m"
        rename Cx _ _ _ _ _ => C
        refine r_bytesOf (C.get _ (.head _)) (by rw [byteArr_size, List.length_map]; omega) ?_
        intro _ _
        repeat walk_at "m"
        exact k _ _ _ C.keep
      | @more _ _ l2 hge hG2 =>
        refine ite_no (by omega) ?_
        have hm0 := Int.emod_nonneg (N - thr j bias) (show (36 - thr j bias : Int) ≠ 0 by omega)
        have hm1 := Int.emod_lt_of_pos (N - thr j bias) (show (0 : Int) < 36 - thr j bias by omega)
        repeat walk_at "m"
        refine r_bitem (by omega) (lows_at (by omega) (by omega)) (by decide) ?_
        intro _ _ hb0 hb1
        repeat walk_at "m"
        rename Cx _ _ _ _ _ => C
        refine r_bappend C .head hg hb0 hb1 (by rw [byteArr_size, List.length_map]; omega) ?_
        clear C
        intro h C
        rw [byteArr_push, ← List.map_singleton (f := low), ← List.map_append] at C
        repeat walk_at "m"
        rename Cx _ _ _ _ _ => C
        refine TurnW.go C (Nat.lt_succ_self l2.length) ⟨l2, pre ++ [_], _, _, _, _, _, _, ⟨rfl, rfl, rfl, rfl, trivial⟩, rfl, hG2, by rw [← hpl]; simp, rfl⟩
  · intro pm doc; rfl
  · simp only [List.forall_mem_cons]; exact ⟨rfl, rfl, fun _ h => nomatch h⟩
  · decide

end Mine

namespace Mine
open PySem PySem.W PyProof.Rows
set_option linter.unusedVariables false
theorem dig_low {x : Int} (h0 : 0 ≤ x) (h1 : x < 36) : dig (up (low x)) = some x := by
  by_cases h : x < 26
  · have e1 : low x = x + 97 := if_pos h
    have e2 : up (x + 97) = x + 65 := by unfold up; rw [if_pos (by omega)]; omega
    rw [e1, e2]
    unfold dig
    rw [if_pos (by omega)]; congr 1; omega
  · have e1 : low x = x + 22 := if_neg h
    have e2 : up (x + 22) = x + 22 := by unfold up; rw [if_neg (by omega)]
    rw [e1, e2]
    unfold dig
    rw [if_neg (by omega), if_pos (by omega)]; congr 1; omega
theorem Gn.dec {bias j N : Int} {l : List Int} (h : Gn bias j N l) (rest : List Int) : decL bias j ((l.map low).map up ++ rest) = some (l.length, N) := by
  induction h with
  | @last j N h0 h1 =>
    have := thr_hi j bias
    simp only [List.map_cons, List.map_nil, List.cons_append, List.nil_append, decL, dig_low h0 (by omega), h1, if_true]
    rfl
  | @more j N l hge _ ih =>
    have hlo := thr_lo j bias
    have hhi := thr_hi j bias
    have hm0 := Int.emod_nonneg (N - thr j bias) (show (36 - thr j bias : Int) ≠ 0 by omega)
    have hm1 := Int.emod_lt_of_pos (N - thr j bias) (show (0 : Int) < 36 - thr j bias by omega)
    have hdm := Int.emod_add_mul_ediv (N - thr j bias) (36 - thr j bias)
    simp only [List.map_cons, List.cons_append, decL, dig_low (show 0 ≤ thr j bias + (N - thr j bias) % (36 - thr j bias) by omega) (by omega), ih]
    rw [if_neg (by omega)]
    simp only [List.length_cons, Option.some.injEq, Prod.mk.injEq, true_and]
    omega
/-- a numeral for each number -/
theorem Gn.ex (bias : Int) : ∀ (k : Nat) (j N : Int), 0 ≤ N → N < 10 ^ k → ∃ l, Gn bias j N l ∧ l.length ≤ k + 1
  | 0, j, N, h0, h1 => by
    have hlo := thr_lo j bias
    have : N = 0 := by simp at h1; omega
    subst this
    exact ⟨[0], .last (by omega) (by omega), by simp⟩
  | k + 1, j, N, h0, h1 => by
    have hlo := thr_lo j bias
    have hhi := thr_hi j bias
    by_cases hlt : N < thr j bias
    · exact ⟨[N], .last h0 hlt, by simp⟩
    · have hq0 : 0 ≤ (N - thr j bias) / (36 - thr j bias) := Int.ediv_nonneg (by omega) (by omega)
      have hq1 : (N - thr j bias) / (36 - thr j bias) < 10 ^ k := by
        refine Int.ediv_lt_of_lt_mul (by omega) ?_
        have hp : (0 : Int) ≤ 10 ^ k := Int.pow_nonneg (by omega)
        have e : (10 : Int) ^ (k + 1) = 10 ^ k * 10 := Int.pow_succ ..
        have hm : (10 : Int) ^ k * 10 ≤ 10 ^ k * (36 - thr j bias) := Int.mul_le_mul_of_nonneg_left (by omega) hp
        omega
      obtain ⟨l, hl, hn⟩ := Gn.ex bias k (j + 1) _ hq0 hq1
      exact ⟨_, .more (by omega) hl, by simpa using hn⟩
theorem Gn.consJ {bias j N fg : Int} {l : List Int} (h : Gn bias (j + 1) N l) (h0 : thr j bias ≤ fg) (h1 : fg < 36) : Gn bias j (fg + (36 - thr j bias) * N) (fg :: l) := by
  have hlo := thr_lo j bias
  have hhi := thr_hi j bias
  have hN := h.nonneg
  generalize ht : thr j bias = u at *
  have hmul : 0 ≤ (36 - u) * N := Int.mul_nonneg (by omega) hN
  have e1 : fg + (36 - u) * N - u = (fg - u) + (36 - u) * N := by omega
  have hm : (fg + (36 - u) * N - u) % (36 - u) = fg - u := by
    rw [e1, Int.add_mul_emod_self_left, Int.emod_eq_of_lt (by omega) (by omega)]
  have hq : (fg + (36 - u) * N - u) / (36 - u) = N := by
    rw [e1, Int.add_mul_ediv_left _ _ (by omega), Int.ediv_eq_zero_of_lt (by omega) (by omega)]; omega
  have := Gn.more (bias := bias) (j := j) (N := fg + (36 - u) * N) (l := l) (by rw [ht]; omega) (by rw [ht, hq]; exact h)
  rw [ht, hm, show u + (fg - u) = fg from by omega] at this
  exact this
/-- the worth of the first c figures, and what the next one weighs -/
def frt (bias : Int) : Int → Nat → List Int → Int
  | _, 0, _ => 0
  | _, _ + 1, [] => 0
  | j, c + 1, x :: l => x + (36 - thr j bias) * frt bias (j + 1) c l
def wgt (bias : Int) : Int → Nat → Int
  | _, 0 => 1
  | j, c + 1 => (36 - thr j bias) * wgt bias (j + 1) c
theorem Gn.split {bias : Int} : ∀ (c : Nat) {j N : Int} {l : List Int}, Gn bias j N l → c < l.length → ∃ R, N = frt bias j c l + wgt bias j c * R ∧ Gn bias (j + c) R (l.drop c) ∧
    ∀ R' l', Gn bias (j + c) R' l' → Gn bias j (frt bias j c l + wgt bias j c * R') (l.take c ++ l')
  | 0, j, N, l, h, _ => by
    refine ⟨N, by simp [frt, wgt], by simpa using h, fun R' l' h' => ?_⟩
    simpa [frt, wgt] using h'
  | c + 1, j, N, l, h, hc => by
    cases h with
    | last h0 h1 => simp at hc
    | @more _ _ l hge hG =>
      have hlo := thr_lo j bias
      have hhi := thr_hi j bias
      have hm0 := Int.emod_nonneg (N - thr j bias) (show (36 - thr j bias : Int) ≠ 0 by omega)
      have hm1 := Int.emod_lt_of_pos (N - thr j bias) (show (0 : Int) < 36 - thr j bias by omega)
      have hdm := Int.emod_add_mul_ediv (N - thr j bias) (36 - thr j bias)
      obtain ⟨R, e, hR, hk⟩ := Gn.split c hG (by simpa using hc)
      have ej : j + ((c + 1 : Nat) : Int) = j + 1 + c := by omega
      have em : ∀ R', thr j bias + (N - thr j bias) % (36 - thr j bias) + (36 - thr j bias) * frt bias (j + 1) c l + (36 - thr j bias) * wgt bias (j + 1) c * R' =
          thr j bias + (N - thr j bias) % (36 - thr j bias) + (36 - thr j bias) * (frt bias (j + 1) c l + wgt bias (j + 1) c * R') := fun R' => by
        rw [Int.mul_add, Int.mul_assoc]; omega
      refine ⟨R, ?_, by rw [ej]; exact hR, fun R' l' h' => ?_⟩
      · show N = thr j bias + (N - thr j bias) % (36 - thr j bias) + (36 - thr j bias) * frt bias (j + 1) c l + (36 - thr j bias) * wgt bias (j + 1) c * R
        rw [em, ← e]
        omega
      · rw [ej] at h'
        show Gn bias j (thr j bias + (N - thr j bias) % (36 - thr j bias) + (36 - thr j bias) * frt bias (j + 1) c l + (36 - thr j bias) * wgt bias (j + 1) c * R') (_ :: (l.take c ++ l'))
        rw [em]
        exact (hk R' l' h').consJ (by omega) (by omega)
/-- the front alone -/
theorem Gn.front {bias N : Int} {l : List Int} {c : Nat} (h : Gn bias 0 N l) (hc : c < l.length) : Gn bias 0 (frt bias 0 c l) (l.take c ++ [0]) := by
  obtain ⟨R, _, _, hk⟩ := Gn.split c h hc
  have hlo := thr_lo (0 + (c : Int)) bias
  have := hk 0 [0] (.last (by omega) (by omega))
  simpa using this
/-- one numeral's front before another's rest -/
theorem Gn.mix {bias N M : Int} {l k : List Int} {c : Nat} (h : Gn bias 0 N l) (hc : c < l.length) (h2 : Gn bias 0 M k) (hc2 : c < k.length) :
    Gn bias 0 (frt bias 0 c l + M - frt bias 0 c k) (l.take c ++ k.drop c) := by
  obtain ⟨R, _, _, hk⟩ := Gn.split c h hc
  obtain ⟨R2, e2, hR2, _⟩ := Gn.split c h2 hc2
  have := hk R2 _ hR2
  rw [show frt bias 0 c l + M - frt bias 0 c k = frt bias 0 c l + wgt bias 0 c * R2 from by omega]
  exact this
/-- the octets of a row -/
def ups (l : List Int) : List Int := (l.map low).map up
theorem ups_len (l : List Int) : (ups l).length = l.length := by simp [ups]
theorem ups_front (l : List Int) (c : Nat) : (ups l).take c ++ [65] = ups (l.take c ++ [0]) := by
  simp [ups, List.map_take]
  decide
theorem ups_mix (l k : List Int) (c : Nat) : (ups l).take c ++ (ups k).drop c = ups (l.take c ++ k.drop c) := by
  simp [ups, List.map_take, List.map_drop]
inductive RowsAre : List Value → List (List Int) → Prop
  | nil : RowsAre [] []
  | cons {vs : List Value} {ls : List (List Int)} (b : Array UInt8) (t : Tok) (l : List Int) : KBw.bInts b = ups l → RowsAre vs ls → RowsAre (.bytes b t :: vs) (l :: ls)
theorem RowsAre.len {vs : List Value} {ls : List (List Int)} (h : RowsAre vs ls) : vs.length = ls.length := by
  induction h with
  | nil => rfl
  | cons _ _ _ _ _ ih => simp [ih]
theorem RowsAre.at {vs : List Value} {ls : List (List Int)} {i : Nat} {l : List Int} (h : RowsAre vs ls) (e : ls[i]? = some l) : ∃ b t, vs[i]? = some (.bytes b t) ∧ KBw.bInts b = ups l := by
  induction h generalizing i with
  | nil => simp at e
  | cons b t k hk _ ih => cases i with
    | zero => simp at e; subst e; exact ⟨b, t, rfl, hk⟩
    | succ i => simpa using ih (by simpa using e)
theorem RowsAre.val {vs : List Value} {ls : List (List Int)} {i : Nat} {v : Value} (h : RowsAre vs ls) (e : vs[i]? = some v) : ∃ b t l, v = .bytes b t ∧ ls[i]? = some l ∧ KBw.bInts b = ups l := by
  induction h generalizing i with
  | nil => simp at e
  | cons b t k hk _ ih => cases i with
    | zero => simp at e; subst e; exact ⟨b, t, k, rfl, rfl, hk⟩
    | succ i => simpa using ih (by simpa using e)
theorem RowsAre.set {vs : List Value} {ls : List (List Int)} {b : Array UInt8} {t : Tok} {l : List Int} (h : RowsAre vs ls) (e : KBw.bInts b = ups l) (i : Nat) : RowsAre (vs.set i (.bytes b t)) (ls.set i l) := by
  induction h generalizing i with
  | nil => exact .nil
  | cons b' t' k hk hr ih => cases i with
    | zero => exact .cons _ _ _ e hr
    | succ i => exact .cons _ _ _ hk (ih i)
theorem RowsAre.same {vs ws : List Value} {ls : List (List Int)} (h : RowsAre vs ls) (h2 : RowsAre ws ls) : SameL vs ws := by
  induction h generalizing ws with
  | nil => cases h2; exact .nil
  | cons b t k hk _ ih =>
    cases h2 with
    | cons b' t' _ hk' h3 =>
      have e : b = b' := bInts_inj (hk.trans hk'.symm)
      subst e
      exact .cons (.bytes ..) (ih h3)
/-- numbers and their numerals -/
inductive Gs (bias : Int) : List Int → List (List Int) → Prop
  | nil : Gs bias [] []
  | cons {ns : List Int} {ls : List (List Int)} {n : Int} {l : List Int} : Gn bias 0 n l → l.length ≤ 100 → Gs bias ns ls → Gs bias (n :: ns) (l :: ls)
theorem Gs.len {bias : Int} {ns : List Int} {ls : List (List Int)} (h : Gs bias ns ls) : ns.length = ls.length := by
  induction h with
  | nil => rfl
  | cons _ _ _ ih => simp [ih]
theorem Gs.at {bias : Int} {ns : List Int} {ls : List (List Int)} {i : Nat} {l : List Int} (h : Gs bias ns ls) (e : ls[i]? = some l) : ∃ n, ns[i]? = some n ∧ Gn bias 0 n l ∧ l.length ≤ 100 := by
  induction h generalizing i with
  | nil => simp at e
  | cons hg hl _ ih => cases i with
    | zero => simp at e; subst e; exact ⟨_, rfl, hg, hl⟩
    | succ i => simpa using ih (by simpa using e)
theorem Gs.atN {bias : Int} {ns : List Int} {ls : List (List Int)} {i : Nat} {n : Int} (h : Gs bias ns ls) (e : ns[i]? = some n) : ∃ l, ls[i]? = some l ∧ Gn bias 0 n l ∧ l.length ≤ 100 := by
  induction h generalizing i with
  | nil => simp at e
  | cons hg hl _ ih => cases i with
    | zero => simp at e; subst e; exact ⟨_, rfl, hg, hl⟩
    | succ i => simpa using ih (by simpa using e)
theorem Gs.set {bias : Int} {ns : List Int} {ls : List (List Int)} {n : Int} {l : List Int} (h : Gs bias ns ls) (hg : Gn bias 0 n l) (hl : l.length ≤ 100) (i : Nat) : Gs bias (ns.set i n) (ls.set i l) := by
  induction h generalizing i with
  | nil => exact .nil
  | cons hg' hl' hr ih => cases i with
    | zero => exact .cons hg hl hr
    | succ i => exact .cons hg' hl' (ih i)
theorem Gs.ex (bias : Int) : ∀ (ns : List Int), (∀ n ∈ ns, 0 ≤ n ∧ n < 10 ^ 7) → ∃ ls, Gs bias ns ls
  | [], _ => ⟨[], .nil⟩
  | n :: ns, h => by
    obtain ⟨l, hl, hn⟩ := Gn.ex bias 7 0 n (h n (.head _)).1 (h n (.head _)).2
    obtain ⟨ls, hs⟩ := Gs.ex bias ns fun x hx => h x (.tail _ hx)
    exact ⟨l :: ls, .cons hl (by omega) hs⟩
theorem Gs.map {bias : Int} {T : List Nat} {f : Nat → Int} {k : Nat → List Int} (h : ∀ i ∈ T, Gn bias 0 (f i) (k i) ∧ (k i).length ≤ 100) : Gs bias (T.map f) (T.map k) := by
  induction T with
  | nil => exact .nil
  | cons i T ih => exact .cons (h i (.head _)).1 (h i (.head _)).2 (ih fun j hj => h j (.tail _ hj))
end Mine

namespace Mine
open PySem PySem.W PyProof.Rows PySem.Calls PyProof.Rows.TI
set_option maxRecDepth 100000
set_option linter.unusedVariables false
set_option maxHeartbeats 4000000
local macro_rules | `(tactic| walk_at "m") => `(tactic| first
  | ((with_reducible show wpAny _ _ (execs (_ :: _) _) _ _ _); with_reducible refine wpAny_execs_cons ?_)
  | ((with_reducible show wpAny _ _ (exec (Stmt.Assign [Expr.Name _ _] _ _) _) _ _ _); with_reducible refine wpAny_Assign_Name ?_ (by kernel_rfl))
  | ((with_reducible show wpAny _ _ (exec (Stmt.AugAssign (Expr.Name _ _) _ _ _) _) _ _ _); with_reducible refine wpAny_AugAssign_Name ?_)
  | ((with_reducible show wpAny _ _ (exec (Stmt.If _ _ _ _) _) _ _ _); with_reducible refine wpAny_If ?_)
  | ((with_reducible show wpAny _ _ (exec (Stmt.Return (some _) _) _) _ _ _); with_reducible refine wpAny_Return_some ?_)
  | ((with_reducible show wpAny _ _ (eval (Expr.Name _ _) _) _ _ _); (with_reducible rename Cx _ _ _ _ _ => C); first | with_reducible refine nm_l C (by with_unfolding_all exact rfl) ?_ | (with_reducible rename Gl _ _ _ => G); first | with_reducible refine nm_g C G (by with_reducible assumption) ?_ | with_reducible refine nm_b C G (Gl.nob G _ (by decide +kernel)) (by with_reducible first | exact bb_len | exact bb_sum | exact bb_range | exact bb_ord | exact bb_chr | exact bb_bytes | exact bb_bytearray | exact bb_min | exact bb_max | exact bb_sorted | exact bb_isinstance | exact bb_bool | exact bb_divmod | exact bb_abs | exact bb_list | exact bb_zip | exact bb_str | exact bb_IndexError | exact bb_UDE) ?_)
  | ((with_reducible show wpAny _ _ (loadName _ _) _ _ _); (with_reducible rename Cx _ _ _ _ _ => C); with_reducible refine ldn_l C (by with_unfolding_all exact rfl) ?_)
  | ((with_reducible show wpAny _ _ (storeName _ _ _) _ _ _); (with_reducible rename Cx _ _ _ _ _ => C); with_reducible refine st_l C ?_; clear C; intro h t C)
  | ((with_reducible show wpAny _ _ (eval (Expr.Constant (Const.int _) _ _) _) _ _ _); with_reducible refine r_int ?_; intro _ _)
  | ((with_reducible show wpAny _ _ (eval (Expr.Constant (Const.str _) _ _) _) _ _ _); with_reducible refine r_str ?_; intro _ _)
  | ((with_reducible show wpAny _ _ (eval (Expr.Constant (Const.bytes _) _ _) _) _ _ _); with_reducible refine r_bytes ?_; intro _ _)
  | ((with_reducible show wpAny _ _ (eval (Expr.Constant Const.none _ _) _) _ _ _); with_reducible refine r_none ?_)
  | ((with_reducible show wpAny _ _ (eval (Expr.Constant (Const.bool _) _ _) _) _ _ _); with_reducible refine r_bool ?_)
  | ((with_reducible show wpAny _ _ (eval (Expr.BinOp _ _ _ _) _) _ _ _); with_reducible refine wpAny_BinOp ?_)
  | ((with_reducible show wpAny _ _ (eval (Expr.Compare _ [_] [_] _) _) _ _ _); with_reducible refine wpAny_Compare1 ?_ (by kernel_rfl))
  | ((with_reducible show wpAny _ _ (isTrue (Expr.Compare _ [_] [_] _) _ _) _ _ _); with_reducible refine wpAny_isTrue_Compare1 ?_ (by kernel_rfl))
  | ((with_reducible show wpAny _ _ (truthy (Value.bool _)) _ _ _); with_reducible refine wpAny_truthy_bool ?_)
  | ((with_reducible show wpAny _ _ (truthy (Value.int _ _)) _ _ _); with_reducible refine r_tint ?_)
  | ((with_reducible show wpAny _ _ (binaryOp Operator.Add (Value.int _ _) (Value.int _ _)) _ _ _); with_reducible refine r_add ?_; intro _ _)
  | ((with_reducible show wpAny _ _ (binaryOp Operator.Sub (Value.int _ _) (Value.int _ _)) _ _ _); with_reducible refine r_sub ?_; intro _ _)
  | ((with_reducible show wpAny _ _ (binaryOp Operator.Mult (Value.int _ _) (Value.int _ _)) _ _ _); with_reducible refine r_mul (by first | exact IntMulOk.of_left (by decide) | exact IntMulOk.of_right (by decide) | walk_at "mul") ?_; intro _ _)
  | ((with_reducible show wpAny _ _ (binaryOp Operator.FloorDiv (Value.int _ _) (Value.int _ _)) _ _ _); with_reducible refine r_div (by omega) (by omega) ?_; intro _ _)
  | ((with_reducible show wpAny _ _ (binaryOp Operator.Mod (Value.int _ _) (Value.int _ _)) _ _ _); with_reducible refine r_mod (by omega) (by omega) ?_; intro _ _)
  | ((with_reducible show wpAny _ _ (inplaceOp Operator.Add (Value.int _ _) (Value.int _ _)) _ _ _); with_reducible refine r_iadd ?_; intro _ _)
  | ((with_reducible show wpAny _ _ (inplaceOp Operator.Mult (Value.int _ _) (Value.int _ _)) _ _ _); with_reducible refine r_imul (by first | exact IntMulOk.of_left (by decide) | exact IntMulOk.of_right (by decide) | walk_at "mul") ?_; intro _ _)
  | ((with_reducible show wpAny _ _ (compareOp CmpOp.Eq (Value.int _ _) (Value.int _ _)) _ _ _); with_reducible refine r_eq ?_)
  | ((with_reducible show wpAny _ _ (compareOp CmpOp.NotEq (Value.int _ _) (Value.int _ _)) _ _ _); with_reducible refine r_ne ?_)
  | ((with_reducible show wpAny _ _ (compareOp CmpOp.Lt (Value.int _ _) (Value.int _ _)) _ _ _); with_reducible refine r_lt ?_)
  | ((with_reducible show wpAny _ _ (compareOp CmpOp.LtE (Value.int _ _) (Value.int _ _)) _ _ _); with_reducible refine r_le ?_)
  | ((with_reducible show wpAny _ _ (compareOp CmpOp.Gt (Value.int _ _) (Value.int _ _)) _ _ _); with_reducible refine r_gt ?_)
  | ((with_reducible show wpAny _ _ (compareOp CmpOp.GtE (Value.int _ _) (Value.int _ _)) _ _ _); with_reducible refine r_ge ?_)
  | ((with_reducible show wpAny _ _ (execs [] _) _ _ _); refine wpAny_pure ?_)
  | ((with_reducible show wpAny _ _ (exec (Stmt.Try _ (_ :: _) _ [] _) _) _ _ _); with_reducible refine wpAny_Try_except ?_)
  | ((with_reducible show wpAny _ _ (isTrue (Expr.Compare _ (_ :: _ :: _) (_ :: _ :: _) _) _ _) _ _ _); with_reducible refine isTrue_chain ?_ (by kernel_rfl))
  | ((with_reducible show wpAny _ _ (testChain _ _ (_ :: _ :: _) (_ :: _ :: _)) _ _ _); with_reducible refine test_link ?_)
  | ((with_reducible show wpAny _ _ (testChain _ _ [_] _) _ _ _); with_reducible refine t_last ?_)
  | ((with_reducible show wpAny _ _ (isTrue (Expr.BoolOp BoolOp.And (_ :: _) _) _ _) _ _ _); with_reducible refine isTrue_and ?_)
  | ((with_reducible show wpAny _ _ (isTrue (Expr.BoolOp BoolOp.And [] _) _ _) _ _ _); with_reducible refine isTrue_and_nil ?_)
  | ((with_reducible show wpAny _ _ (isTrue (Expr.BoolOp BoolOp.Or (_ :: _) _) _ _) _ _ _); with_reducible refine isTrue_or ?_)
  | ((with_reducible show wpAny _ _ (isTrue (Expr.BoolOp BoolOp.Or [] _) _ _) _ _ _); with_reducible refine isTrue_or_nil ?_)
  | ((with_reducible show wpAny _ _ (isTrue (Expr.UnaryOp UnaryOp.Not _ _) _ _) _ _ _); with_reducible refine isTrue_not ?_)
  | ((with_reducible show wpAny _ _ (isTrue (Expr.Constant _ _ _) _ _) _ _ _); with_reducible refine isTrue_plain ?_ (by kernel_rfl))
  | ((with_reducible show wpAny _ _ (isTrue (Expr.Call _ _ _ _) _ _) _ _ _); with_reducible refine isTrue_plain ?_ (by kernel_rfl))
  | ((with_reducible show wpAny _ _ (isTrue (Expr.Name _ _) _ _) _ _ _); with_reducible refine isTrue_plain ?_ (by kernel_rfl))
  | ((with_reducible show wpAny _ _ (eval (Expr.IfExp _ _ _ _) _) _ _ _); with_reducible refine IfExp_ ?_)
  | ((with_reducible show wpAny _ _ (eval (Expr.Tuple _ _ _) _) _ _ _); with_reducible refine Tuple_ ?_)
  | ((with_reducible show wpAny _ _ (eval (Expr.List _ _) _) _ _ _); with_reducible refine List_ ?_)
  | ((with_reducible show wpAny _ _ (eval (Expr.Subscript _ (Expr.Slice _ _ none _) _) _) _ _ _); walk_at "slice")
  | ((with_reducible show wpAny _ _ (eval (Expr.Subscript _ _ _) _) _ _ _); with_reducible refine Subscript_ ?_)
  | ((with_reducible show wpAny _ _ (evalPart none _) _ _ _); with_reducible refine evalPart_none_step ?_)
  | ((with_reducible show wpAny _ _ (evalPart (some _) _) _ _ _); with_reducible refine evalPart_some_step ?_)
  | ((with_reducible show SliceOn _ _ _ _ _ (Value.ref _) _ _ _ _ _); (with_reducible rename Cx _ _ _ _ _ => C); with_reducible refine r_slice C (by walk_at "get") (by first | exact IsPart.none | exact IsPart.int _ _) (by first | exact IsPart.none | exact IsPart.int _ _) (by walk_at "size") ?_; clear C; intro a h C)
  | ((with_reducible show wpAny _ _ (eval (Expr.Call (Expr.Name _ _) _ [] _) _) _ _ _); with_reducible refine Call_ ?_ (by kernel_rfl))
  | ((with_reducible show wpAny _ _ (callWith _ (Value.ref _) [] (backTo _ (starEach (_ :: _) _)) []) _ _ _); with_reducible refine r_callf (by with_reducible assumption) ?_)
  | ((with_reducible show wpAny _ _ (callWith _ (Value.builtin _) [] (backTo _ (starEach (_ :: _) _)) []) _ _ _); with_reducible refine callWith_builtin1 ?_ (by kernel_rfl) (by kernel_rfl))
  | ((with_reducible show wpAny _ _ (callWith _ (Value.type _) [] (backTo _ (starEach (_ :: _) _)) []) _ _ _); with_reducible refine PyProof.Rows.callWith_type1 ?_ (by kernel_rfl) (by kernel_rfl))
  | ((with_reducible show wpAny _ _ (spliced (backTo _ (starEach (_ :: _) _))) _ _ _); with_reducible refine args_cons ?_ (by kernel_rfl))
  | ((with_reducible show wpAny _ _ (spliced (backTo _ (starEach [] _))) _ _ _); with_reducible refine args_nil ?_)
  | ((with_reducible show Kp _ _ ∧ wpAny _ _ (call _ _) _ _ _); (with_reducible rename Cx _ _ _ _ _ => C); refine ⟨Cx.keep C, ?_⟩)
  | ((with_reducible show wpAny _ _ (newTuple _) _ _ _); (with_reducible rename Cx _ _ _ _ _ => C); with_reducible refine r_newTuple C (by size_fits) ?_; clear C; intro a h C)
  | ((with_reducible show wpAny _ _ (newList _) _ _ _); (with_reducible rename Cx _ _ _ _ _ => C); with_reducible refine r_newList C (by size_fits) ?_; clear C; intro a h C)
  | ((with_reducible show if true = true then _ else _); with_reducible refine ite_t ?_)
  | ((with_reducible show if false = true then _ else _); with_reducible refine ite_f ?_)
  | ((with_reducible show if decide _ = true then _ else _); first | with_reducible refine ite_yes (by first | assumption | omega | decide) ?_ | with_reducible refine ite_no (by first | assumption | omega | decide) ?_)
  | ((with_reducible show wpAny _ _ (exec (Stmt.Expr _ _) _) _ _ _); with_reducible refine wpAny_Expr ?_ (by kernel_rfl) (by kernel_rfl))
  | ((with_reducible show wpAny _ _ (eval (Expr.Call (Expr.Attribute _ _ _) _ [] _) _) _ _ _); with_reducible refine r_mcall ?_)
  | ((with_reducible show wpAny _ _ (getMethod (Value.ref _) (Str.ofString "append") _) _ _ _); with_reducible refine r_getAppend (by walk_at "get") ?_; dsimp only)
  | ((with_reducible show wpAny _ _ (callWith _ (Value.builtin _) [_] (backTo _ (starEach (_ :: _) _)) []) _ _ _); with_reducible refine r_method1 ?_)
  | ((with_reducible show wpAny _ _ (callWith _ (Value.builtin _) [_] (backTo _ (starEach [] _)) []) _ _ _); with_reducible refine callWith_method0 ?_)
  | ((with_reducible show wpAny _ _ (call _ (_ ++ _)) _ _ _); simp only [List.cons_append, List.nil_append])
  | ((with_reducible show wpAny _ _ (call (Value.builtin "list.append") [Value.ref _, _]) _ _ _); (with_reducible rename Cx _ _ _ _ _ => C); with_reducible refine r_append C (by walk_at "upd") (by walk_at "size") ?_; clear C; intro h C)
  | ((with_reducible show wpAny _ _ (call (Value.builtin "len") [Value.ref _]) _ _ _); with_reducible refine r_len (by walk_at "get") (by walk_at "size") ?_; intro _ _)
  | ((with_reducible show wpAny _ _ (call (Value.builtin "len") [Value.bytes _ _]) _ _ _); with_reducible refine r_lenB (by walk_at "size") ?_; intro _ _)
  | ((with_reducible show wpAny _ _ (call (Value.builtin "isinstance") [Value.int _ _, Value.type "bool"]) _ _ _); with_reducible refine r_isiI ?_; intro _)
  | ((with_reducible show wpAny _ _ (call (Value.builtin "isinstance") [Value.none, Value.type "bool"]) _ _ _); with_reducible refine r_isiN ?_; intro _)
  | ((with_reducible show wpAny _ _ (eval (Expr.UnaryOp _ _ _) _) _ _ _); with_reducible refine UnaryOp_ ?_)
  | ((with_reducible show wpAny _ _ (unaryOp UnaryOp.USub (Value.int _ _)) _ _ _); with_reducible refine r_neg ?_; intro _ _)
  | ((with_reducible show wpAny _ _ (call (Value.type "range") [Value.int _ _]) _ _ _); (with_reducible rename Cx _ _ _ _ _ => C); with_reducible refine r_range1 C ?_; clear C; intro a h _ _ _ _ C)
  | ((with_reducible show wpAny _ _ (call (Value.type "range") [Value.int _ _, Value.int _ _]) _ _ _); (with_reducible rename Cx _ _ _ _ _ => C); with_reducible refine r_range2 C ?_; clear C; intro a h _ _ _ _ C)
  | ((with_reducible show wpAny _ _ (subscriptTail _ _ (Value.str (Str.ofString "ABCDEFGHIJKLMNOPQRSTUVWXYZ0123456789") _) (Value.int _ _)) _ _ _); with_reducible refine r_sgn (by omega) (by omega) ?_; intro _ _)
  | ((with_reducible show wpAny _ _ (call (Value.builtin "ord") [Value.str (Str.mk #[Int.toNat (sgn _)]) _]) _ _ _); with_reducible refine r_ordS (by omega) (by omega) ?_; intro _ _)
  | ((with_reducible show wpAny _ _ (call (Value.builtin "sum") [Value.ref _]) _ _ _); (with_reducible rename Cx _ _ _ _ _ => C); with_reducible refine r_sum C (by walk_at "hh") (by walk_at "get") (by walk_at "ints") ?_; clear C; intro h _ _ C)
  | ((with_reducible show wpAny _ _ (compareOp CmpOp.Eq (Value.str _ _) (Value.str _ _)) _ _ _); first | with_reducible refine r_eqSF (by with_reducible assumption) ?_ | with_reducible refine r_eqST (by first | with_reducible assumption | rfl) ?_)
  | ((with_reducible show wpAny _ _ (exec (Stmt.Assign [Expr.Tuple _ _ _] _ _) _) _ _ _); with_reducible refine PyProof.Rows.Assign_Tuple ?_ (by kernel_rfl) (by kernel_rfl))
  | ((with_reducible show wpAny _ _ (assign (Expr.Tuple [Expr.Name _ _, Expr.Name _ _] _ _) _ (Value.ref _)) _ _ _); (with_reducible rename Cx _ _ _ _ _ => C); with_reducible refine r_unpack2 C (by walk_at "get") (by walk_at "hh") ?_; clear C; intro h C)
  | ((with_reducible show wpAny _ _ (getMethod (Value.str _ _) (Str.ofString "find") _) _ _ _); with_reducible refine r_getFind ?_; dsimp only)
  | ((with_reducible show wpAny _ _ (call (Value.builtin "str.find") [Value.str _ _, Value.str (Str.mk #[Int.toNat _]) _]) _ _ _); with_reducible refine r_find (by omega) (by omega) ?_; intro _ _)
  | ((with_reducible show wpAny _ _ (call (Value.builtin "chr") [Value.int _ _]) _ _ _); with_reducible refine r_chr (by omega) (by omega) ?_; intro _ _)
  | ((with_reducible show wpAny _ _ (call (Value.builtin "divmod") [Value.int _ _, Value.int _ _]) _ _ _); (with_reducible rename Cx _ _ _ _ _ => C); with_reducible refine r_divmod C (by omega) (by omega) ?_; clear C; intro _ h _ _ _ C)
  | ((with_reducible show wpAny _ _ (compareOp CmpOp.Is (Value.int _ _) Value.none) _ _ _); with_reducible refine r_isI ?_)
  | ((with_reducible show wpAny _ _ (compareOp CmpOp.Is Value.none Value.none) _ _ _); with_reducible refine r_isNN ?_)
  | ((with_reducible show wpAny _ _ (compareOp CmpOp.IsNot (Value.int _ _) Value.none) _ _ _); with_reducible refine r_isNotI ?_)
  | ((with_reducible show wpAny _ _ (compareOp CmpOp.IsNot Value.none Value.none) _ _ _); with_reducible refine r_isNotN ?_)
  | ((with_reducible show wpAny _ _ (subscriptTail _ _ (Value.ref _) (Value.int _ _)) _ _ _); with_reducible refine r_tit (by walk_at "get") (by decide) (by with_unfolding_all exact rfl) (by walk_at "size") ?_)
  | ((with_reducible show wpAny _ _ (call (Value.type "range") [Value.int _ _, Value.int _ _, Value.int _ _]) _ _ _); (with_reducible rename Cx _ _ _ _ _ => C); with_reducible refine r_range3 C (by decide) (by decide) ?_; clear C; intro a h _ _ _ _ C)
  | walk_at "m2")
local macro_rules | `(tactic| walk_at "slice") => `(tactic| with_reducible refine r_subslice ?_)
local macro_rules | `(tactic| walk_at "get") => `(tactic| ((with_reducible rename Cx _ _ _ _ _ => C); first | exact Cx.old C (by with_reducible assumption) | exact Cx.at C (by walk_at "mem")))
local macro_rules | `(tactic| walk_at "mem") => `(tactic| ((repeat (first | with_reducible exact List.mem_cons_self | with_reducible refine List.mem_cons_of_mem _ ?_)); done))
local macro_rules | `(tactic| walk_at "upd") => `(tactic| first | with_reducible exact UpdAt.head | with_reducible exact UpdAt.tail (UpdAt.head) | with_reducible exact UpdAt.tail (UpdAt.tail (UpdAt.head)) | with_reducible exact UpdAt.tail (UpdAt.tail (UpdAt.tail (UpdAt.head))) | with_reducible exact UpdAt.tail (UpdAt.tail (UpdAt.tail (UpdAt.tail (UpdAt.head)))) | with_reducible exact UpdAt.tail (UpdAt.tail (UpdAt.tail (UpdAt.tail (UpdAt.tail (UpdAt.head))))) | with_reducible exact UpdAt.tail (UpdAt.tail (UpdAt.tail (UpdAt.tail (UpdAt.tail (UpdAt.tail (UpdAt.head)))))) | with_reducible exact UpdAt.tail (UpdAt.tail (UpdAt.tail (UpdAt.tail (UpdAt.tail (UpdAt.tail (UpdAt.tail (UpdAt.head))))))) | with_reducible exact UpdAt.tail (UpdAt.tail (UpdAt.tail (UpdAt.tail (UpdAt.tail (UpdAt.tail (UpdAt.tail (UpdAt.tail (UpdAt.head)))))))) | with_reducible exact UpdAt.tail (UpdAt.tail (UpdAt.tail (UpdAt.tail (UpdAt.tail (UpdAt.tail (UpdAt.tail (UpdAt.tail (UpdAt.tail (UpdAt.head))))))))) | with_reducible exact UpdAt.tail (UpdAt.tail (UpdAt.tail (UpdAt.tail (UpdAt.tail (UpdAt.tail (UpdAt.tail (UpdAt.tail (UpdAt.tail (UpdAt.tail (UpdAt.head)))))))))) | with_reducible exact UpdAt.tail (UpdAt.tail (UpdAt.tail (UpdAt.tail (UpdAt.tail (UpdAt.tail (UpdAt.tail (UpdAt.tail (UpdAt.tail (UpdAt.tail (UpdAt.tail (UpdAt.head))))))))))))
local macro_rules | `(tactic| walk_at "size") => `(tactic| first | omega | (simp only [List.length_cons, List.length_nil, List.length_append, List.length_map]; omega) | (simp; omega))
local macro_rules | `(tactic| walk_at "m2") => `(tactic| fail "no step")
local macro_rules | `(tactic| walk_at "hh") => `(tactic| (first | with_reducible assumption | (rename Around.handled _ = none => hh; with_unfolding_all exact hh)))
local macro_rules | `(tactic| walk_at "ints") => `(tactic| (first | with_reducible assumption | exact sp_ints (by with_reducible assumption) _ _))

local macro_rules | `(tactic| walk_at "depth") => `(tactic| first | omega | (show Around.depth _ + 1 < _; omega))
local macro_rules | `(tactic| walk_at "mul") => `(tactic| first | exact IntMulOk.of_left (intBits_le_64 (by omega) (by omega)) | exact IntMulOk.of_right (intBits_le_64 (by omega) (by omega)))
local macro_rules | `(tactic| walk_at "mem") => `(tactic| ((repeat (first | with_reducible exact List.mem_cons_self | with_reducible assumption | with_reducible refine List.mem_cons_of_mem _ ?_)); done))
local macro_rules | `(tactic| walk_at "c") => `(tactic| first
  | ((with_reducible show wpC _ _ (execs (_ :: _) _) _ _ _); with_reducible refine c_cons ?_)
  | ((with_reducible show wpC _ _ (execs [] _) _ _ _); refine wpC_pure ?_)
  | ((with_reducible show wpC _ _ (exec (Stmt.If _ _ _ _) _) _ _ _); with_reducible refine c_If ?_)
  | ((with_reducible show wpC _ _ (isTrue (Expr.Compare (Expr.Call (Expr.Name (Str.ofString "generate_generalized_integer") _) _ _ _) _ _ _) _ _) _ _ _); with_reducible refine c_isCmp ?_)
  | ((with_reducible show wpC _ _ (isTrue (Expr.Compare (Expr.Call (Expr.Name (Str.ofString "_law_written") _) _ _ _) _ _ _) _ _) _ _ _); with_reducible refine c_isCmp ?_)
  | ((with_reducible show wpC _ _ (isTrue (Expr.BoolOp BoolOp.Or (_ :: _) _) _ _) _ _ _); with_reducible refine c_isOr ?_)
  | ((with_reducible show wpC _ _ (eval (Expr.Call (Expr.Attribute (Expr.Call _ _ _ _) _ _) _ _ _) _) _ _ _); with_reducible refine c_mcallR ?_)
  | ((with_reducible show wpC _ _ (eval (Expr.Call (Expr.Name _ _) _ _ _) _) _ _ _); with_reducible refine c_CallN ?_)
  | ((with_reducible show wpC _ _ (callWith _ (Value.ref _) [] (backTo _ (starEach (_ :: _) _)) []) _ _ _); with_reducible refine c_callf (by with_reducible assumption) ?_)
  | ((with_reducible show Kp _ _ ∧ wpC _ _ (call _ _) _ _ _); (with_reducible rename Cx _ _ _ _ _ => C); refine ⟨Cx.keep C, ?_⟩)
  | ((with_reducible show wpAny _ _ (getMethod (Value.bytes _ _) (Str.ofString "upper") _) _ _ _); with_reducible refine r_getUpper ?_; dsimp only)
  | ((with_reducible show wpC _ _ (isTrue _ _ _) _ _ _); with_reducible refine wpC_of ?_)
  | ((with_reducible show wpC _ _ (exec (Stmt.Assign _ _ _) _) _ _ _); with_reducible refine wpC_of ?_)
  | ((with_reducible show wpC _ _ (exec (Stmt.AugAssign _ _ _ _) _) _ _ _); with_reducible refine wpC_of ?_)
  | ((with_reducible show wpC _ _ (exec (Stmt.Return _ _) _) _ _ _); with_reducible refine wpC_of ?_)
  | ((with_reducible show wpC _ _ (exec (Stmt.Expr _ _) _) _ _ _); with_reducible refine wpC_of ?_))
local macro_rules | `(tactic| walk_at "m2") => `(tactic| first
  | ((with_reducible show wpAny _ _ (eval (Expr.Name (Str.ofString "rows") _) _) _ _ _); (with_reducible rename Cx _ _ _ _ _ => C); with_reducible refine nm_c (c := _ + 1) C (by walk_at "mem") (by kernel_rfl) ?_)
  | ((with_reducible show wpAny _ _ (eval (Expr.Name (Str.ofString "cut") _) _) _ _ _); (with_reducible rename Cx _ _ _ _ _ => C); with_reducible refine nm_c (c := _ + 2) C (by walk_at "mem") (by kernel_rfl) ?_)
  | ((with_reducible show wpAny _ _ (exec (Stmt.Assign [Expr.Subscript _ _ _] _ _) _) _ _ _); with_reducible refine wpAny_Assign_Subscript ?_ (by kernel_rfl))
  | ((with_reducible show wpAny _ _ (compareOp CmpOp.Is (Value.ref _) Value.none) _ _ _); with_reducible refine r_isR ?_)
  | ((with_reducible show wpAny _ _ (eval (Expr.Name _ _) _) _ _ _); (with_reducible rename Cx _ _ _ _ _ => C); first | with_reducible refine nm_c C (by walk_at "mem") (by kernel_rfl) ?_ | with_reducible refine nm_f C (by walk_at "mem") (by kernel_rfl) ?_)
  | ((with_reducible show wpAny _ _ (loadName _ _) _ _ _); (with_reducible rename Cx _ _ _ _ _ => C); with_reducible refine ldn_c C (by walk_at "mem") (by kernel_rfl) ?_)
  | ((with_reducible show wpAny _ _ (call (Value.ref _) [Value.int _ _, Value.int _ _]) _ _ _); (with_reducible rename Cx _ _ _ _ _ => C); (with_reducible rename Gl _ _ _ => G); refine T_spec (Gl.kp G (Cx.keep C)) (Fn.kp (by with_reducible assumption) (Cx.keep C)) (by walk_at "depth") ?_; intro h t _ hk; replace C := Cx.grown C hk)
  | ((with_reducible show wpAny _ _ (binaryOp Operator.Add (Value.ref _) (Value.ref _)) _ _ _); (with_reducible rename Cx _ _ _ _ _ => C); with_reducible refine r_addL C (by walk_at "get") (by walk_at "get") (by walk_at "size") ?_; clear C; intro a h C)
  | walk_at "c")
local macro_rules | `(tactic| walk_at "w") => `(tactic| first
  | ((with_reducible show wpAny _ _ (storeName _ (Str.ofString "rows") _) _ _ _); (with_reducible rename Cx _ _ _ _ _ => C); with_reducible refine st_c C (by walk_at "upd") (by kernel_rfl) ?_; clear C; intro h C)
  | walk_at "m")

theorem c_cut {M : Model} {A : Around} {E : Value → Shared → Prop} {s : Shared} {env : Env} {c : Stmt} {rest : List Stmt} {Q : Flow → Shared → Prop} (Mid : Shared → Prop)
    (h : wpC M A (exec c env) (fun f s' => f = .next ∧ Mid s') E s) (k : ∀ s', Mid s' → wpC M A (execs rest env) Q E s') : wpC M A (execs (c :: rest) env) Q E s := by
  refine c_cons (wpC_mono h (fun f s' q => ?_) (fun _ _ x => x))
  obtain ⟨rfl, q⟩ := q
  exact k s' q
theorem ints_at {vs : List Value} {ns : List Int} {i : Nat} {c : Int} (h : IntsAre vs ns) (e : ns[i]? = some c) : ∃ t, vs[i]? = some (.int c t) := by
  induction h generalizing i with
  | nil => simp at e
  | cons n t _ ih => cases i with
    | zero => simp at e; subst e; exact ⟨t, rfl⟩
    | succ i => simpa using ih (by simpa using e)
theorem ints_val {vs : List Value} {ns : List Int} {j : Nat} {v : Value} (hi : IntsAre vs ns) (hv : vs[j]? = some v) : ∃ x t, ns[j]? = some x ∧ v = .int x t := by
  induction hi generalizing j with
  | nil => simp at hv
  | cons n t _ ih => cases j with
    | zero => simp at hv; subst hv; exact ⟨n, t, rfl, rfl⟩
    | succ j => simpa using ih (by simpa using hv)
theorem ints_mem {vs : List Value} {ns : List Int} {v : Value} (hi : IntsAre vs ns) (hv : v ∈ vs) : ∃ x t, v = .int x t ∧ x ∈ ns := by
  induction hi with
  | nil => cases hv
  | cons n t _ ih =>
    rcases List.mem_cons.mp hv with rfl | hv
    · exact ⟨n, t, rfl, .head _⟩
    · obtain ⟨x, t, e, hx⟩ := ih hv
      exact ⟨x, t, e, .tail _ hx⟩
theorem ints_app {vs ws : List Value} {ns ms : List Int} (h : IntsAre vs ns) (h2 : IntsAre ws ms) : IntsAre (vs ++ ws) (ns ++ ms) := by
  induction h with
  | nil => exact h2
  | cons n t _ ih => exact .cons _ _ ih
theorem take_at {l : List Int} {i : Nat} {x : Int} (h : l[i]? = some x) : l.take (i + 1) = l.take i ++ [x] := by
  rw [List.take_succ, h]; rfl
def keyV : Value → Int | .int c _ => c | _ => 0
def forBody : Stmt → List Stmt | .For _ _ b _ _ => b | _ => []
abbrev dR := dAt P 6
abbrev FR (mg : Str → Option Value) (h : Heap) (a : Addr) (cd : Value) := Fn mg h (sName dR) (sParams dR) (sBody dR) (sScope dR) a cd
theorem read_spec {prog : Program} {w : World} {A : Around} {E : Value → Shared → Prop} {h : Heap} {mg mb : Str → Option Value}
  {g : Array GenState} {d : Drawn} {t : Nat} {o : OsState} {Q : Value → Shared → Prop} {aT aD a ra : Addr} {cT cD cd : Value} {bias : Int} {vs : List Value} {ls : List (List Int)} {ns : List Int} {e : Nat} {tb : Tok}
  (G : Gl mg mb h) (fT : FT mg h aT cT) (fD : FD mg h aD cD) (f : FR mg h a cd) (hd : A.depth + 9 < recursionLimit) (hh : A.handled = none) (hu : A.units + 80 < cLine)
  (hx : h.get? ra = some (lst vs e)) (hr : RowsAre vs ls) (hs : Gs bias ns ls) (hz : ls.length ≤ 1000)
  (k : ∀ x h' t' ys e', Kp h h' → h.get? x = none → h'.get? x = some (lst ys e') → IntsAre ys ns → Q (.ref x) ⟨h', g, d, t', o⟩) :
  wpAny (model prog w) A (call (.ref a) [.ref ra, .int bias tb]) Q E ⟨h, g, d, t, o⟩ := by
  have nD : mg (Str.ofString "decode_generalized_number") = some (.ref aD) := fD.nm
  have hrl := hr.len
  have hsl := hs.len
  refine call_fn (binds := [(Str.ofString "rows", .ref ra), (Str.ofString "bias", .int bias tb)]) G f (by omega) (fun h1 t C => ?_) ?_ ?_ rfl rfl rfl ?_
  · conv in (execs _ _) => arg 1; whnf
    repeat walk_at "m"
    refine r_forD ?_
    repeat walk_at "m"
    rename Cx _ _ _ _ _ => C
    refine r_iterL C (fun i m news => ∃ na acc e', Has m [(Str.ofString "rows", .ref ra), (Str.ofString "bias", .int bias tb), (Str.ofString "numbers", .ref na)] ∧ IntsAre acc (ns.take i) ∧ news = [(na, lst acc e')])
      (items := vs) (lo := lst vs e) rfl ⟨e, rfl⟩ hh ?_ ?_ ?_ ?_
    · exact ⟨_, _, _, ⟨rfl, rfl, rfl, trivial⟩, .nil, rfl⟩
    · rintro i h m news C _
      exact C.old hx
    · clear C
      rintro i v it io h t m news hv C ⟨na, acc, e', hm, hacc, rfl⟩
      obtain ⟨b, tv, l, rfl, hl, hb⟩ := hr.val hv
      obtain ⟨n, hn, hG, hl100⟩ := hs.at hl
      have hbz : b.size = l.length := by rw [← KBw.ints_length b, hb, ups_len]
      have hal := hacc.length
      rw [List.length_take] at hal
      have hdec : decL bias 0 ((KBw.bInts b).drop 0) = some (l.length, n) := by
        have q := hG.dec []
        rw [List.append_nil] at q
        rw [hb]
        exact q
      rw [hm.eq] at C
      clear hm
      conv in (execs _ _) => arg 1; whnf
      repeat walk_at "m"
      rename Cx _ _ _ _ _ => C
      rename Gl _ _ _ => G
      refine dec_spec (p := 0) (G.kp C.keep) (fT.kp C.keep) (fD.kp C.keep) (by show A.depth + 1 + 5 < _; omega) (by omega) hdec ?_
      intro x h' t' t1 t2 hk hn3 hg2
      replace C := C.add hk hn3 hg2
      clear hk hn3 hg2
      repeat walk_at "m"
      rename Cx _ _ _ _ _ => C
      refine r_neT (C.at (by walk_at "mem")) (C.at (.head _)) ?_ (by show A.units + 3 + 64 < _; omega) ?_
      · rw [show ((0 : Nat) : Int) + (l.length : Int) = (b.size : Int) from by rw [hbz]; simp]
        exact .cons (.int ..) (.cons (.int ..) .nil)
      repeat walk_at "m"
      rename Cx _ _ _ _ _ => C
      refine TurnF.go (C.sub (news' := [(it, io), (na, lst (acc ++ [.int n t2]) (e' + 1))]) ?_) ⟨na, _, _, ⟨rfl, rfl, rfl, trivial⟩, ?_, rfl⟩
      · exact .cons _ (.cons _ (.refl _))
      · rw [take_at hn]
        exact ints_app hacc (.cons _ _ .nil)
    · clear C
      rintro h t m news C ⟨na, acc, e', hm, hacc, rfl⟩
      rw [hm.eq] at C
      rw [hrl, ← hsl, List.take_length] at hacc
      repeat walk_at "m"
      rename Cx _ _ _ _ _ => C
      exact k _ _ _ acc e' C.keep (C.low _ (.head _)).1 (C.get _ (.head _)) hacc
  · intro pm doc; rfl
  · simp only [List.forall_mem_cons]; exact ⟨rfl, rfl, fun _ h => nomatch h⟩
  · decide
theorem Gn.uniq {bias j N : Int} {l : List Int} (h : Gn bias j N l) : ∀ {l' : List Int}, Gn bias j N l' → l = l' := by
  induction h with
  | last h0 h1 =>
    intro l' h'
    cases h' with
    | last _ _ => rfl
    | more h2 _ => omega
  | more h2 _ ih =>
    intro l' h'
    cases h' with
    | last _ h1 => omega
    | more _ h3 => rw [ih h3]
theorem rows_of {bias : Int} {vs ys : List Value} {ns : List Int} {ls : List (List Int)} (hi : IntsAre vs ns) (hs : Gs bias ns ls)
    (hp : Paired (fun v y => ∃ l b t, Gn bias 0 (keyV v) l ∧ y = Value.bytes b t ∧ KBw.bInts b = ups l) vs ys) : RowsAre ys ls := by
  induction hi generalizing ys ls with
  | nil => cases hp; cases hs; exact .nil
  | cons n t _ ih =>
    cases hp with
    | cons h1 h2 =>
      cases hs with
      | cons hg hl hr =>
        obtain ⟨l', b, tb, hg', rfl, hb⟩ := h1
        have e := hg'.uniq hg
        subst e
        exact .cons _ _ _ hb (ih hr h2)
abbrev dV := dAt P 7
abbrev FV (mg : Str → Option Value) (h : Heap) (a : Addr) (cd : Value) := Fn mg h (sName dV) (sParams dV) (sBody dV) (sScope dV) a cd
theorem written_spec {prog : Program} {w : World} {A : Around} {E : Value → Shared → Prop} {h : Heap} {mg mb : Str → Option Value}
  {g : Array GenState} {d : Drawn} {t : Nat} {o : OsState} {Q : Value → Shared → Prop} {aT aG a na : Addr} {cT cG cd : Value} {bias : Int} {vs : List Value} {ls : List (List Int)} {ns : List Int} {e : Nat} {tb td : Tok}
  (G : Gl mg mb h) (fT : FT mg h aT cT) (fG : FG mg h aG cG) (f : FV mg h a cd) (nDg : mg (Str.ofString "digits") = some (.bytes LOWS td)) (hd : A.depth + 9 < recursionLimit) (hh : A.handled = none) (hu : A.units + 80 < cLine) (hg : A.guards = some [])
  (hx : h.get? na = some (lst vs e)) (hi : IntsAre vs ns) (hs : Gs bias ns ls) (hz : ls.length ≤ 1000)
  (k : ∀ x h' t' ys e', Kp h h' → h.get? x = none → h'.get? x = some (lst ys e') → RowsAre ys ls → Q (.ref x) ⟨h', g, d, t', o⟩) :
  wpC (model prog w) A (call (.ref a) [.ref na, .int bias tb]) Q E ⟨h, g, d, t, o⟩ := by
  have nG : mg (Str.ofString "generate_generalized_integer") = some (.ref aG) := fG.nm
  have hil := hi.length
  have hsl := hs.len
  refine call_fn1C (x := Str.ofString "bias") (binds := [(Str.ofString "numbers", .ref na), (Str.ofString "bias", .int bias tb)]) (lb := [(Str.ofString "numbers", .ref na)]) (cv := some (.int bias tb)) G f (by omega) (fun ob h1 t C => ?_) ?_ ?_ ?_ ?_ ?_ rfl rfl rfl
  · conv in (execs _ _) => arg 1; whnf
    refine c_cons (c_Return ?_)
    refine r_compLC (cl := [(Str.ofString "bias", h.objs.size + 1)]) (g := g) (d := d) (o := o) C (fun v y => ∃ l b t, Gn bias 0 (keyV v) l ∧ y = Value.bytes b t ∧ KBw.bInts b = ups l) hh (by kernel_rfl) (by decide +kernel) (by decide +kernel) ?_
    repeat walk_at "w"
    rename Cx _ _ _ _ _ => C
    refine ⟨na, vs, _, _, _, _, rfl, rfl, C, C.old hx, by omega, ?_, ?_⟩
    · clear C
      intro C' v h3 t3 m3 hv hk C
      obtain ⟨i, hvi⟩ := List.getElem?_of_mem hv
      obtain ⟨n, tn, hni, rfl⟩ := ints_val hi hvi
      obtain ⟨l, _, hG, hl100⟩ := hs.atN hni
      clear hk
      repeat walk_at "w"
      rename Cx _ _ _ _ _ => C
      rename Gl _ _ _ => G
      refine gen_spec (G.kp C.keep) (fT.kp C.keep) (fG.kp C.keep) nDg (by show A.depth + 1 + 5 < _; omega) hg hG (by omega) ?_
      intro h4 t4 tr4 hk4
      replace C := C.grown hk4
      repeat walk_at "w"
      refine r_upper (by rw [byteArr_size, List.length_map]; omega) ?_
      intro cc _ _ hcc
      rw [KBa.ints_make (by intro x hx; obtain ⟨y, hy, rfl⟩ := List.mem_map.mp hx; have := hG.figs y hy; exact low_in this.1 this.2)] at hcc
      exact ⟨⟨l, cc, _, hG, rfl, hcc⟩, _, _, rfl, hk4⟩
    · clear C
      intro x h' t' ys e' C hk hp
      have hrows := rows_of hi hs hp
      exact k _ _ _ ys e' C.keep (C.low _ (.head _)).1 (C.get _ (.head _)) hrows
  · intro pm doc; rfl
  · intro n; rfl
  · simp only [List.forall_mem_cons]; exact ⟨.inl rfl, .inr ⟨rfl, by decide⟩, fun _ h => nomatch h⟩
  · intro L a cd; rfl
  · intro L a cd; rfl
end Mine

namespace Mine
open PySem PySem.W PyProof.Rows PySem.Calls PyProof.Rows.TI
set_option maxRecDepth 100000
set_option linter.unusedVariables false
set_option maxHeartbeats 4000000
local macro_rules | `(tactic| walk_at "m") => `(tactic| first
  | ((with_reducible show wpAny _ _ (execs (_ :: _) _) _ _ _); with_reducible refine wpAny_execs_cons ?_)
  | ((with_reducible show wpAny _ _ (exec (Stmt.Assign [Expr.Name _ _] _ _) _) _ _ _); with_reducible refine wpAny_Assign_Name ?_ (by kernel_rfl))
  | ((with_reducible show wpAny _ _ (exec (Stmt.AugAssign (Expr.Name _ _) _ _ _) _) _ _ _); with_reducible refine wpAny_AugAssign_Name ?_)
  | ((with_reducible show wpAny _ _ (exec (Stmt.If _ _ _ _) _) _ _ _); with_reducible refine wpAny_If ?_)
  | ((with_reducible show wpAny _ _ (exec (Stmt.Return (some _) _) _) _ _ _); with_reducible refine wpAny_Return_some ?_)
  | ((with_reducible show wpAny _ _ (eval (Expr.Name _ _) _) _ _ _); (with_reducible rename Cx _ _ _ _ _ => C); first | with_reducible refine nm_l C (by with_unfolding_all exact rfl) ?_ | (with_reducible rename Gl _ _ _ => G); first | with_reducible refine nm_g C G (by with_reducible assumption) ?_ | with_reducible refine nm_b C G (Gl.nob G _ (by decide +kernel)) (by with_reducible first | exact bb_len | exact bb_sum | exact bb_range | exact bb_ord | exact bb_chr | exact bb_bytes | exact bb_bytearray | exact bb_min | exact bb_max | exact bb_sorted | exact bb_isinstance | exact bb_bool | exact bb_divmod | exact bb_abs | exact bb_list | exact bb_zip | exact bb_str | exact bb_IndexError | exact bb_UDE) ?_)
  | ((with_reducible show wpAny _ _ (loadName _ _) _ _ _); (with_reducible rename Cx _ _ _ _ _ => C); with_reducible refine ldn_l C (by with_unfolding_all exact rfl) ?_)
  | ((with_reducible show wpAny _ _ (storeName _ _ _) _ _ _); (with_reducible rename Cx _ _ _ _ _ => C); with_reducible refine st_l C ?_; clear C; intro h t C)
  | ((with_reducible show wpAny _ _ (eval (Expr.Constant (Const.int _) _ _) _) _ _ _); with_reducible refine r_int ?_; intro _ _)
  | ((with_reducible show wpAny _ _ (eval (Expr.Constant (Const.str _) _ _) _) _ _ _); with_reducible refine r_str ?_; intro _ _)
  | ((with_reducible show wpAny _ _ (eval (Expr.Constant (Const.bytes _) _ _) _) _ _ _); with_reducible refine r_bytes ?_; intro _ _)
  | ((with_reducible show wpAny _ _ (eval (Expr.Constant Const.none _ _) _) _ _ _); with_reducible refine r_none ?_)
  | ((with_reducible show wpAny _ _ (eval (Expr.Constant (Const.bool _) _ _) _) _ _ _); with_reducible refine r_bool ?_)
  | ((with_reducible show wpAny _ _ (eval (Expr.BinOp _ _ _ _) _) _ _ _); with_reducible refine wpAny_BinOp ?_)
  | ((with_reducible show wpAny _ _ (eval (Expr.Compare _ [_] [_] _) _) _ _ _); with_reducible refine wpAny_Compare1 ?_ (by kernel_rfl))
  | ((with_reducible show wpAny _ _ (isTrue (Expr.Compare _ [_] [_] _) _ _) _ _ _); with_reducible refine wpAny_isTrue_Compare1 ?_ (by kernel_rfl))
  | ((with_reducible show wpAny _ _ (truthy (Value.bool _)) _ _ _); with_reducible refine wpAny_truthy_bool ?_)
  | ((with_reducible show wpAny _ _ (truthy (Value.int _ _)) _ _ _); with_reducible refine r_tint ?_)
  | ((with_reducible show wpAny _ _ (binaryOp Operator.Add (Value.int _ _) (Value.int _ _)) _ _ _); with_reducible refine r_add ?_; intro _ _)
  | ((with_reducible show wpAny _ _ (binaryOp Operator.Sub (Value.int _ _) (Value.int _ _)) _ _ _); with_reducible refine r_sub ?_; intro _ _)
  | ((with_reducible show wpAny _ _ (binaryOp Operator.Mult (Value.int _ _) (Value.int _ _)) _ _ _); with_reducible refine r_mul (by first | exact IntMulOk.of_left (by decide) | exact IntMulOk.of_right (by decide) | walk_at "mul") ?_; intro _ _)
  | ((with_reducible show wpAny _ _ (binaryOp Operator.FloorDiv (Value.int _ _) (Value.int _ _)) _ _ _); with_reducible refine r_div (by omega) (by omega) ?_; intro _ _)
  | ((with_reducible show wpAny _ _ (binaryOp Operator.Mod (Value.int _ _) (Value.int _ _)) _ _ _); with_reducible refine r_mod (by omega) (by omega) ?_; intro _ _)
  | ((with_reducible show wpAny _ _ (inplaceOp Operator.Add (Value.int _ _) (Value.int _ _)) _ _ _); with_reducible refine r_iadd ?_; intro _ _)
  | ((with_reducible show wpAny _ _ (inplaceOp Operator.Mult (Value.int _ _) (Value.int _ _)) _ _ _); with_reducible refine r_imul (by first | exact IntMulOk.of_left (by decide) | exact IntMulOk.of_right (by decide) | walk_at "mul") ?_; intro _ _)
  | ((with_reducible show wpAny _ _ (compareOp CmpOp.Eq (Value.int _ _) (Value.int _ _)) _ _ _); with_reducible refine r_eq ?_)
  | ((with_reducible show wpAny _ _ (compareOp CmpOp.NotEq (Value.int _ _) (Value.int _ _)) _ _ _); with_reducible refine r_ne ?_)
  | ((with_reducible show wpAny _ _ (compareOp CmpOp.Lt (Value.int _ _) (Value.int _ _)) _ _ _); with_reducible refine r_lt ?_)
  | ((with_reducible show wpAny _ _ (compareOp CmpOp.LtE (Value.int _ _) (Value.int _ _)) _ _ _); with_reducible refine r_le ?_)
  | ((with_reducible show wpAny _ _ (compareOp CmpOp.Gt (Value.int _ _) (Value.int _ _)) _ _ _); with_reducible refine r_gt ?_)
  | ((with_reducible show wpAny _ _ (compareOp CmpOp.GtE (Value.int _ _) (Value.int _ _)) _ _ _); with_reducible refine r_ge ?_)
  | ((with_reducible show wpAny _ _ (execs [] _) _ _ _); refine wpAny_pure ?_)
  | ((with_reducible show wpAny _ _ (exec (Stmt.Try _ (_ :: _) _ [] _) _) _ _ _); with_reducible refine wpAny_Try_except ?_)
  | ((with_reducible show wpAny _ _ (isTrue (Expr.Compare _ (_ :: _ :: _) (_ :: _ :: _) _) _ _) _ _ _); with_reducible refine isTrue_chain ?_ (by kernel_rfl))
  | ((with_reducible show wpAny _ _ (testChain _ _ (_ :: _ :: _) (_ :: _ :: _)) _ _ _); with_reducible refine test_link ?_)
  | ((with_reducible show wpAny _ _ (testChain _ _ [_] _) _ _ _); with_reducible refine t_last ?_)
  | ((with_reducible show wpAny _ _ (isTrue (Expr.BoolOp BoolOp.And (_ :: _) _) _ _) _ _ _); with_reducible refine isTrue_and ?_)
  | ((with_reducible show wpAny _ _ (isTrue (Expr.BoolOp BoolOp.And [] _) _ _) _ _ _); with_reducible refine isTrue_and_nil ?_)
  | ((with_reducible show wpAny _ _ (isTrue (Expr.BoolOp BoolOp.Or (_ :: _) _) _ _) _ _ _); with_reducible refine isTrue_or ?_)
  | ((with_reducible show wpAny _ _ (isTrue (Expr.BoolOp BoolOp.Or [] _) _ _) _ _ _); with_reducible refine isTrue_or_nil ?_)
  | ((with_reducible show wpAny _ _ (isTrue (Expr.UnaryOp UnaryOp.Not _ _) _ _) _ _ _); with_reducible refine isTrue_not ?_)
  | ((with_reducible show wpAny _ _ (isTrue (Expr.Constant _ _ _) _ _) _ _ _); with_reducible refine isTrue_plain ?_ (by kernel_rfl))
  | ((with_reducible show wpAny _ _ (isTrue (Expr.Call _ _ _ _) _ _) _ _ _); with_reducible refine isTrue_plain ?_ (by kernel_rfl))
  | ((with_reducible show wpAny _ _ (isTrue (Expr.Name _ _) _ _) _ _ _); with_reducible refine isTrue_plain ?_ (by kernel_rfl))
  | ((with_reducible show wpAny _ _ (eval (Expr.IfExp _ _ _ _) _) _ _ _); with_reducible refine IfExp_ ?_)
  | ((with_reducible show wpAny _ _ (eval (Expr.Tuple _ _ _) _) _ _ _); with_reducible refine Tuple_ ?_)
  | ((with_reducible show wpAny _ _ (eval (Expr.List _ _) _) _ _ _); with_reducible refine List_ ?_)
  | ((with_reducible show wpAny _ _ (eval (Expr.Subscript _ (Expr.Slice _ _ none _) _) _) _ _ _); walk_at "slice")
  | ((with_reducible show wpAny _ _ (eval (Expr.Subscript _ _ _) _) _ _ _); with_reducible refine Subscript_ ?_)
  | ((with_reducible show wpAny _ _ (evalPart none _) _ _ _); with_reducible refine evalPart_none_step ?_)
  | ((with_reducible show wpAny _ _ (evalPart (some _) _) _ _ _); with_reducible refine evalPart_some_step ?_)
  | ((with_reducible show SliceOn _ _ _ _ _ (Value.ref _) _ _ _ _ _); (with_reducible rename Cx _ _ _ _ _ => C); with_reducible refine r_slice C (by walk_at "get") (by first | exact IsPart.none | exact IsPart.int _ _) (by first | exact IsPart.none | exact IsPart.int _ _) (by walk_at "size") ?_; clear C; intro a h C)
  | ((with_reducible show wpAny _ _ (eval (Expr.Call (Expr.Name _ _) _ [] _) _) _ _ _); with_reducible refine Call_ ?_ (by kernel_rfl))
  | ((with_reducible show wpAny _ _ (callWith _ (Value.ref _) [] (backTo _ (starEach (_ :: _) _)) []) _ _ _); with_reducible refine r_callf (by with_reducible assumption) ?_)
  | ((with_reducible show wpAny _ _ (callWith _ (Value.builtin _) [] (backTo _ (starEach (_ :: _) _)) []) _ _ _); with_reducible refine callWith_builtin1 ?_ (by kernel_rfl) (by kernel_rfl))
  | ((with_reducible show wpAny _ _ (callWith _ (Value.type _) [] (backTo _ (starEach (_ :: _) _)) []) _ _ _); with_reducible refine PyProof.Rows.callWith_type1 ?_ (by kernel_rfl) (by kernel_rfl))
  | ((with_reducible show wpAny _ _ (spliced (backTo _ (starEach (_ :: _) _))) _ _ _); with_reducible refine args_cons ?_ (by kernel_rfl))
  | ((with_reducible show wpAny _ _ (spliced (backTo _ (starEach [] _))) _ _ _); with_reducible refine args_nil ?_)
  | ((with_reducible show Kp _ _ ∧ wpAny _ _ (call _ _) _ _ _); (with_reducible rename Cx _ _ _ _ _ => C); refine ⟨Cx.keep C, ?_⟩)
  | ((with_reducible show wpAny _ _ (newTuple _) _ _ _); (with_reducible rename Cx _ _ _ _ _ => C); with_reducible refine r_newTuple C (by size_fits) ?_; clear C; intro a h C)
  | ((with_reducible show wpAny _ _ (newList _) _ _ _); (with_reducible rename Cx _ _ _ _ _ => C); with_reducible refine r_newList C (by size_fits) ?_; clear C; intro a h C)
  | ((with_reducible show if true = true then _ else _); with_reducible refine ite_t ?_)
  | ((with_reducible show if false = true then _ else _); with_reducible refine ite_f ?_)
  | ((with_reducible show if decide _ = true then _ else _); first | with_reducible refine ite_yes (by first | assumption | omega | decide) ?_ | with_reducible refine ite_no (by first | assumption | omega | decide) ?_)
  | ((with_reducible show wpAny _ _ (exec (Stmt.Expr _ _) _) _ _ _); with_reducible refine wpAny_Expr ?_ (by kernel_rfl) (by kernel_rfl))
  | ((with_reducible show wpAny _ _ (eval (Expr.Call (Expr.Attribute _ _ _) _ [] _) _) _ _ _); with_reducible refine r_mcall ?_)
  | ((with_reducible show wpAny _ _ (getMethod (Value.ref _) (Str.ofString "append") _) _ _ _); with_reducible refine r_getAppend (by walk_at "get") ?_; dsimp only)
  | ((with_reducible show wpAny _ _ (callWith _ (Value.builtin _) [_] (backTo _ (starEach (_ :: _) _)) []) _ _ _); with_reducible refine r_method1 ?_)
  | ((with_reducible show wpAny _ _ (callWith _ (Value.builtin _) [_] (backTo _ (starEach [] _)) []) _ _ _); with_reducible refine callWith_method0 ?_)
  | ((with_reducible show wpAny _ _ (call _ (_ ++ _)) _ _ _); simp only [List.cons_append, List.nil_append])
  | ((with_reducible show wpAny _ _ (call (Value.builtin "list.append") [Value.ref _, _]) _ _ _); (with_reducible rename Cx _ _ _ _ _ => C); with_reducible refine r_append C (by walk_at "upd") (by walk_at "size") ?_; clear C; intro h C)
  | ((with_reducible show wpAny _ _ (call (Value.builtin "len") [Value.ref _]) _ _ _); with_reducible refine r_len (by walk_at "get") (by walk_at "size") ?_; intro _ _)
  | ((with_reducible show wpAny _ _ (call (Value.builtin "len") [Value.bytes _ _]) _ _ _); with_reducible refine r_lenB (by walk_at "size") ?_; intro _ _)
  | ((with_reducible show wpAny _ _ (call (Value.builtin "isinstance") [Value.int _ _, Value.type "bool"]) _ _ _); with_reducible refine r_isiI ?_; intro _)
  | ((with_reducible show wpAny _ _ (call (Value.builtin "isinstance") [Value.none, Value.type "bool"]) _ _ _); with_reducible refine r_isiN ?_; intro _)
  | ((with_reducible show wpAny _ _ (eval (Expr.UnaryOp _ _ _) _) _ _ _); with_reducible refine UnaryOp_ ?_)
  | ((with_reducible show wpAny _ _ (unaryOp UnaryOp.USub (Value.int _ _)) _ _ _); with_reducible refine r_neg ?_; intro _ _)
  | ((with_reducible show wpAny _ _ (call (Value.type "range") [Value.int _ _]) _ _ _); (with_reducible rename Cx _ _ _ _ _ => C); with_reducible refine r_range1 C ?_; clear C; intro a h _ _ _ _ C)
  | ((with_reducible show wpAny _ _ (call (Value.type "range") [Value.int _ _, Value.int _ _]) _ _ _); (with_reducible rename Cx _ _ _ _ _ => C); with_reducible refine r_range2 C ?_; clear C; intro a h _ _ _ _ C)
  | ((with_reducible show wpAny _ _ (subscriptTail _ _ (Value.str (Str.ofString "ABCDEFGHIJKLMNOPQRSTUVWXYZ0123456789") _) (Value.int _ _)) _ _ _); with_reducible refine r_sgn (by omega) (by omega) ?_; intro _ _)
  | ((with_reducible show wpAny _ _ (call (Value.builtin "ord") [Value.str (Str.mk #[Int.toNat (sgn _)]) _]) _ _ _); with_reducible refine r_ordS (by omega) (by omega) ?_; intro _ _)
  | ((with_reducible show wpAny _ _ (call (Value.builtin "sum") [Value.ref _]) _ _ _); (with_reducible rename Cx _ _ _ _ _ => C); with_reducible refine r_sum C (by walk_at "hh") (by walk_at "get") (by walk_at "ints") ?_; clear C; intro h _ _ C)
  | ((with_reducible show wpAny _ _ (compareOp CmpOp.Eq (Value.str _ _) (Value.str _ _)) _ _ _); first | with_reducible refine r_eqSF (by with_reducible assumption) ?_ | with_reducible refine r_eqST (by first | with_reducible assumption | rfl) ?_)
  | ((with_reducible show wpAny _ _ (exec (Stmt.Assign [Expr.Tuple _ _ _] _ _) _) _ _ _); with_reducible refine PyProof.Rows.Assign_Tuple ?_ (by kernel_rfl) (by kernel_rfl))
  | ((with_reducible show wpAny _ _ (assign (Expr.Tuple [Expr.Name _ _, Expr.Name _ _] _ _) _ (Value.ref _)) _ _ _); (with_reducible rename Cx _ _ _ _ _ => C); with_reducible refine r_unpack2 C (by walk_at "get") (by walk_at "hh") ?_; clear C; intro h C)
  | ((with_reducible show wpAny _ _ (getMethod (Value.str _ _) (Str.ofString "find") _) _ _ _); with_reducible refine r_getFind ?_; dsimp only)
  | ((with_reducible show wpAny _ _ (call (Value.builtin "str.find") [Value.str _ _, Value.str (Str.mk #[Int.toNat _]) _]) _ _ _); with_reducible refine r_find (by omega) (by omega) ?_; intro _ _)
  | ((with_reducible show wpAny _ _ (call (Value.builtin "chr") [Value.int _ _]) _ _ _); with_reducible refine r_chr (by omega) (by omega) ?_; intro _ _)
  | ((with_reducible show wpAny _ _ (call (Value.builtin "divmod") [Value.int _ _, Value.int _ _]) _ _ _); (with_reducible rename Cx _ _ _ _ _ => C); with_reducible refine r_divmod C (by omega) (by omega) ?_; clear C; intro _ h _ _ _ C)
  | ((with_reducible show wpAny _ _ (compareOp CmpOp.Is (Value.int _ _) Value.none) _ _ _); with_reducible refine r_isI ?_)
  | ((with_reducible show wpAny _ _ (compareOp CmpOp.Is Value.none Value.none) _ _ _); with_reducible refine r_isNN ?_)
  | ((with_reducible show wpAny _ _ (compareOp CmpOp.IsNot (Value.int _ _) Value.none) _ _ _); with_reducible refine r_isNotI ?_)
  | ((with_reducible show wpAny _ _ (compareOp CmpOp.IsNot Value.none Value.none) _ _ _); with_reducible refine r_isNotN ?_)
  | ((with_reducible show wpAny _ _ (subscriptTail _ _ (Value.ref _) (Value.int _ _)) _ _ _); with_reducible refine r_tit (by walk_at "get") (by decide) (by with_unfolding_all exact rfl) (by walk_at "size") ?_)
  | ((with_reducible show wpAny _ _ (call (Value.type "range") [Value.int _ _, Value.int _ _, Value.int _ _]) _ _ _); (with_reducible rename Cx _ _ _ _ _ => C); with_reducible refine r_range3 C (by decide) (by decide) ?_; clear C; intro a h _ _ _ _ C)
  | walk_at "m2")
local macro_rules | `(tactic| walk_at "slice") => `(tactic| with_reducible refine r_subslice ?_)
local macro_rules | `(tactic| walk_at "get") => `(tactic| ((with_reducible rename Cx _ _ _ _ _ => C); first | exact Cx.old C (by with_reducible assumption) | exact Cx.at C (by walk_at "mem")))
local macro_rules | `(tactic| walk_at "mem") => `(tactic| ((repeat (first | with_reducible exact List.mem_cons_self | with_reducible refine List.mem_cons_of_mem _ ?_)); done))
local macro_rules | `(tactic| walk_at "upd") => `(tactic| first | with_reducible exact UpdAt.head | with_reducible exact UpdAt.tail (UpdAt.head) | with_reducible exact UpdAt.tail (UpdAt.tail (UpdAt.head)) | with_reducible exact UpdAt.tail (UpdAt.tail (UpdAt.tail (UpdAt.head))) | with_reducible exact UpdAt.tail (UpdAt.tail (UpdAt.tail (UpdAt.tail (UpdAt.head)))) | with_reducible exact UpdAt.tail (UpdAt.tail (UpdAt.tail (UpdAt.tail (UpdAt.tail (UpdAt.head))))) | with_reducible exact UpdAt.tail (UpdAt.tail (UpdAt.tail (UpdAt.tail (UpdAt.tail (UpdAt.tail (UpdAt.head)))))) | with_reducible exact UpdAt.tail (UpdAt.tail (UpdAt.tail (UpdAt.tail (UpdAt.tail (UpdAt.tail (UpdAt.tail (UpdAt.head))))))) | with_reducible exact UpdAt.tail (UpdAt.tail (UpdAt.tail (UpdAt.tail (UpdAt.tail (UpdAt.tail (UpdAt.tail (UpdAt.tail (UpdAt.head)))))))) | with_reducible exact UpdAt.tail (UpdAt.tail (UpdAt.tail (UpdAt.tail (UpdAt.tail (UpdAt.tail (UpdAt.tail (UpdAt.tail (UpdAt.tail (UpdAt.head))))))))) | with_reducible exact UpdAt.tail (UpdAt.tail (UpdAt.tail (UpdAt.tail (UpdAt.tail (UpdAt.tail (UpdAt.tail (UpdAt.tail (UpdAt.tail (UpdAt.tail (UpdAt.head)))))))))) | with_reducible exact UpdAt.tail (UpdAt.tail (UpdAt.tail (UpdAt.tail (UpdAt.tail (UpdAt.tail (UpdAt.tail (UpdAt.tail (UpdAt.tail (UpdAt.tail (UpdAt.tail (UpdAt.head))))))))))))
local macro_rules | `(tactic| walk_at "size") => `(tactic| first | omega | (simp only [List.length_cons, List.length_nil, List.length_append, List.length_map]; omega) | (simp; omega))
local macro_rules | `(tactic| walk_at "m2") => `(tactic| fail "no step")
local macro_rules | `(tactic| walk_at "hh") => `(tactic| (first | with_reducible assumption | (rename Around.handled _ = none => hh; with_unfolding_all exact hh)))
local macro_rules | `(tactic| walk_at "ints") => `(tactic| (first | with_reducible assumption | exact sp_ints (by with_reducible assumption) _ _))

local macro_rules | `(tactic| walk_at "depth") => `(tactic| first | omega | (show Around.depth _ + 1 < _; omega))
local macro_rules | `(tactic| walk_at "mul") => `(tactic| first | exact IntMulOk.of_left (intBits_le_64 (by omega) (by omega)) | exact IntMulOk.of_right (intBits_le_64 (by omega) (by omega)))
local macro_rules | `(tactic| walk_at "mem") => `(tactic| ((repeat (first | with_reducible exact List.mem_cons_self | with_reducible assumption | with_reducible refine List.mem_cons_of_mem _ ?_)); done))
local macro_rules | `(tactic| walk_at "c") => `(tactic| first
  | ((with_reducible show wpC _ _ (execs (_ :: _) _) _ _ _); with_reducible refine c_cons ?_)
  | ((with_reducible show wpC _ _ (execs [] _) _ _ _); refine wpC_pure ?_)
  | ((with_reducible show wpC _ _ (exec (Stmt.If _ _ _ _) _) _ _ _); with_reducible refine c_If ?_)
  | ((with_reducible show wpC _ _ (isTrue (Expr.Compare (Expr.Call (Expr.Name (Str.ofString "generate_generalized_integer") _) _ _ _) _ _ _) _ _) _ _ _); with_reducible refine c_isCmp ?_)
  | ((with_reducible show wpC _ _ (isTrue (Expr.Compare (Expr.Call (Expr.Name (Str.ofString "_law_written") _) _ _ _) _ _ _) _ _) _ _ _); with_reducible refine c_isCmp ?_)
  | ((with_reducible show wpC _ _ (isTrue (Expr.BoolOp BoolOp.Or (_ :: _) _) _ _) _ _ _); with_reducible refine c_isOr ?_)
  | ((with_reducible show wpC _ _ (eval (Expr.Call (Expr.Attribute (Expr.Call _ _ _ _) _ _) _ _ _) _) _ _ _); with_reducible refine c_mcallR ?_)
  | ((with_reducible show wpC _ _ (eval (Expr.Call (Expr.Name _ _) _ _ _) _) _ _ _); with_reducible refine c_CallN ?_)
  | ((with_reducible show wpC _ _ (callWith _ (Value.ref _) [] (backTo _ (starEach (_ :: _) _)) []) _ _ _); with_reducible refine c_callf (by with_reducible assumption) ?_)
  | ((with_reducible show Kp _ _ ∧ wpC _ _ (call _ _) _ _ _); (with_reducible rename Cx _ _ _ _ _ => C); refine ⟨Cx.keep C, ?_⟩)
  | ((with_reducible show wpAny _ _ (getMethod (Value.bytes _ _) (Str.ofString "upper") _) _ _ _); with_reducible refine r_getUpper ?_; dsimp only)
  | ((with_reducible show wpC _ _ (isTrue _ _ _) _ _ _); with_reducible refine wpC_of ?_)
  | ((with_reducible show wpC _ _ (exec (Stmt.Assign _ _ _) _) _ _ _); with_reducible refine wpC_of ?_)
  | ((with_reducible show wpC _ _ (exec (Stmt.AugAssign _ _ _ _) _) _ _ _); with_reducible refine wpC_of ?_)
  | ((with_reducible show wpC _ _ (exec (Stmt.Return _ _) _) _ _ _); with_reducible refine wpC_of ?_)
  | ((with_reducible show wpC _ _ (exec (Stmt.Expr _ _) _) _ _ _); with_reducible refine wpC_of ?_))
local macro_rules | `(tactic| walk_at "m2") => `(tactic| first
  | ((with_reducible show wpAny _ _ (eval (Expr.Name (Str.ofString "rows") _) _) _ _ _); (with_reducible rename Cx _ _ _ _ _ => C); with_reducible refine nm_c (c := _ + 1) C (by walk_at "mem") (by kernel_rfl) ?_)
  | ((with_reducible show wpAny _ _ (eval (Expr.Name (Str.ofString "cut") _) _) _ _ _); (with_reducible rename Cx _ _ _ _ _ => C); with_reducible refine nm_c (c := _ + 2) C (by walk_at "mem") (by kernel_rfl) ?_)
  | ((with_reducible show wpAny _ _ (exec (Stmt.Assign [Expr.Subscript _ _ _] _ _) _) _ _ _); with_reducible refine wpAny_Assign_Subscript ?_ (by kernel_rfl))
  | ((with_reducible show wpAny _ _ (compareOp CmpOp.Is (Value.ref _) Value.none) _ _ _); with_reducible refine r_isR ?_)
  | ((with_reducible show wpAny _ _ (eval (Expr.Name _ _) _) _ _ _); (with_reducible rename Cx _ _ _ _ _ => C); first | with_reducible refine nm_c C (by walk_at "mem") (by kernel_rfl) ?_ | with_reducible refine nm_f C (by walk_at "mem") (by kernel_rfl) ?_)
  | ((with_reducible show wpAny _ _ (loadName _ _) _ _ _); (with_reducible rename Cx _ _ _ _ _ => C); with_reducible refine ldn_c C (by walk_at "mem") (by kernel_rfl) ?_)
  | ((with_reducible show wpAny _ _ (call (Value.ref _) [Value.int _ _, Value.int _ _]) _ _ _); (with_reducible rename Cx _ _ _ _ _ => C); (with_reducible rename Gl _ _ _ => G); refine T_spec (Gl.kp G (Cx.keep C)) (Fn.kp (by with_reducible assumption) (Cx.keep C)) (by walk_at "depth") ?_; intro h t _ hk; replace C := Cx.grown C hk)
  | ((with_reducible show wpAny _ _ (binaryOp Operator.Add (Value.ref _) (Value.ref _)) _ _ _); (with_reducible rename Cx _ _ _ _ _ => C); with_reducible refine r_addL C (by walk_at "get") (by walk_at "get") (by walk_at "size") ?_; clear C; intro a h C)
  | walk_at "c")
local macro_rules | `(tactic| walk_at "w") => `(tactic| first
  | ((with_reducible show wpAny _ _ (storeName _ (Str.ofString "rows") _) _ _ _); (with_reducible rename Cx _ _ _ _ _ => C); with_reducible refine st_c C (by walk_at "upd") (by kernel_rfl) ?_; clear C; intro h C)
  | walk_at "m")

abbrev dW := dAt P 8
abbrev FW (mg : Str → Option Value) (h : Heap) (a : Addr) (cd : Value) := Fn mg h (sName dW) (sParams dW) (sBody dW) (sScope dW) a cd
def cutB : List Stmt := forBody ((sBody dW).getD 4 (.Pass default))
def swB : List Stmt := forBody (cutB.getD 5 (.Pass default))
theorem ints_set {vs : List Value} {ns : List Int} {x : Int} {t : Tok} (h : IntsAre vs ns) (i : Nat) : IntsAre (vs.set i (.int x t)) (ns.set i x) := by
  induction h generalizing i with
  | nil => exact .nil
  | cons n u hr ih => cases i with
    | zero => exact .cons _ _ hr
    | succ i => exact .cons _ _ (ih i)
/-- one turn: a front before the next one's rest -/
theorem swap7 {prog : Program} {w : World} {A : Around} {h₀ h : Heap} {mg mb m : Str → Option Value} {L : Addr} {news : List (Addr × Obj)}
  {g : Array GenState} {d : Drawn} {t : Nat} {o : OsState} {Q : Flow → Shared → Prop} {a it fr du fa ta ra na : Addr} {cd vb : Value} {io ob1 ob2 : Obj} {fv dv frv tv rv nv : List Value} {e1 e2 e3 e4 e5 e6 c i : Nat} {bias : Int} {tc ti : Tok} {T : List Nat} {ls ls' : List (List Int)} {ns ns' : List Int} {body : List Stmt}
  (G : Gl mg mb h₀)
  (C : Cx h₀ L h m ((it, io) :: (fr, lst fv e1) :: (du, lst dv e2) :: (fa, lst frv e3) :: (ta, lst tv e4) :: (ra, lst rv e5) :: (na, lst nv e6) :: (L + 1, celO ob1 (some (.ref ra))) :: (L + 2, celO ob2 (some (.int (c : Int) tc))) :: news))
  (hm : Has m [(Str.ofString "bias", vb), (Str.ofString "numbers", .ref na), (Str.ofString "turn", .ref ta), (Str.ofString "fronts", .ref fa), (Str.ofString "fresh", .ref fr), (Str.ofString "due", .ref du), (Str.ofString "m", .int (i : Int) ti)])
  (hT : ∀ k ∈ T, k < ls.length ∧ c < (ls.getD k []).length) (htv : IntsAre tv (T.map fun k : Nat => (k : Int))) (hfrv : IntsAre frv (T.map fun k => frt bias 0 c (ls.getD k [])))
  (hrv : RowsAre rv ls) (hnv : IntsAre nv ns) (hs : Gs bias ns ls) (hfv : RowsAre fv ls') (hdv : IntsAre dv ns') (hs' : Gs bias ns' ls') (hl' : ls'.length = ls.length) (hi : i < T.length) (hTl : T.length ≤ 100) (hl : ls.length ≤ 100)
  (k : ∀ m' h' t' fv' dv' ls' ns', Cx h₀ L h' m' ((it, io) :: (fr, lst fv' e1) :: (du, lst dv' e2) :: (fa, lst frv e3) :: (ta, lst tv e4) :: (ra, lst rv e5) :: (na, lst nv e6) :: (L + 1, celO ob1 (some (.ref ra))) :: (L + 2, celO ob2 (some (.int (c : Int) tc))) :: news) →
    Has m' [(Str.ofString "bias", vb), (Str.ofString "numbers", .ref na), (Str.ofString "turn", .ref ta), (Str.ofString "fronts", .ref fa), (Str.ofString "fresh", .ref fr), (Str.ofString "due", .ref du)] →
    RowsAre fv' ls' → IntsAre dv' ns' → Gs bias ns' ls' → ls'.length = ls.length → Q .next ⟨h', g, d, t', o⟩)
  (hb : body = swB := by kernel_rfl) :
  wpC (model prog w) A (execs body (envOfC (sName dW) (sScope dW) L a cd)) Q (fun _ _ => False) ⟨h, g, d, t, o⟩ := by
  subst hb
  have htl := htv.length
  rw [List.length_map] at htl
  have hfl := hfrv.length
  rw [List.length_map] at hfl
  have hrl := hrv.len
  have hnl := hnv.length
  have hsl := hs.len
  have hfvl := hfv.len
  have hdvl := hdv.length
  have hsl' := hs'.len
  have ha0 := Int.emod_nonneg ((i : Int) + 1) (show (tv.length : Int) ≠ 0 by omega)
  have ha1 := Int.emod_lt_of_pos ((i : Int) + 1) (show (0 : Int) < tv.length by omega)
  obtain ⟨k1, hk1⟩ : ∃ k1, T[(i : Int).toNat]? = some k1 := ⟨_, List.getElem?_eq_getElem (by omega)⟩
  obtain ⟨k2, hk2⟩ : ∃ k2, T[(((i : Int) + 1) % (tv.length : Int)).toNat]? = some k2 := ⟨_, List.getElem?_eq_getElem (by omega)⟩
  obtain ⟨hk1l, hk1c⟩ := hT k1 (List.mem_of_getElem? hk1)
  obtain ⟨hk2l, hk2c⟩ := hT k2 (List.mem_of_getElem? hk2)
  obtain ⟨l1, hl1⟩ : ∃ l1, ls[(k1 : Int).toNat]? = some l1 := ⟨_, List.getElem?_eq_getElem (by omega)⟩
  obtain ⟨l2, hl2⟩ : ∃ l2, ls[(k2 : Int).toNat]? = some l2 := ⟨_, List.getElem?_eq_getElem (by omega)⟩
  have eg1 : ls.getD k1 [] = l1 := by rw [List.getD_eq_getElem?_getD, ← Int.toNat_natCast k1, hl1]; rfl
  have eg2 : ls.getD k2 [] = l2 := by rw [List.getD_eq_getElem?_getD, ← Int.toNat_natCast k2, hl2]; rfl
  rw [eg1] at hk1c
  rw [eg2] at hk2c
  obtain ⟨t1, ht1⟩ := ints_at htv (c := (k1 : Int)) (by rw [List.getElem?_map, hk1]; rfl)
  obtain ⟨t2, ht2⟩ := ints_at htv (c := (k2 : Int)) (by rw [List.getElem?_map, hk2]; rfl)
  obtain ⟨t3, ht3⟩ := ints_at hfrv (c := frt bias 0 c l1) (by rw [List.getElem?_map, hk1, ← eg1]; rfl)
  obtain ⟨t4, ht4⟩ := ints_at hfrv (c := frt bias 0 c l2) (by rw [List.getElem?_map, hk2, ← eg2]; rfl)
  obtain ⟨b1, tb1, hb1, hbi1⟩ := hrv.at hl1
  obtain ⟨b2, tb2, hb2, hbi2⟩ := hrv.at hl2
  obtain ⟨n1, hn1, hG1, hz1⟩ := hs.at hl1
  obtain ⟨n2, hn2, hG2, hz2⟩ := hs.at hl2
  obtain ⟨t5, ht5⟩ := ints_at hnv hn2
  have hbz1 : b1.size = l1.length := by rw [← KBw.ints_length b1, hbi1, ups_len]
  have hbz2 : b2.size = l2.length := by rw [← KBw.ints_length b2, hbi2, ups_len]
  rw [hm.eq] at C
  clear hm
  conv in (execs _ _) => arg 1; whnf
  repeat walk_at "w"
  rename Cx _ _ _ _ _ => C
  refine r_litem (C.at (by walk_at "mem")) (by omega) ht1 (by omega) ?_
  repeat walk_at "w"
  rename Cx _ _ _ _ _ => C
  refine r_litem (C.at (by walk_at "mem")) (by omega) hb1 (by omega) ?_
  repeat walk_at "w"
  rename Cx _ _ _ _ _ => C
  refine r_sliceB C .none (.int _ _) (by omega) ?_
  clear C
  intro s1 _ _ _ hs1 C
  repeat walk_at "w"
  rename Cx _ _ _ _ _ => C
  refine r_litem (C.at (by walk_at "mem")) ha0 ht2 (by omega) ?_
  repeat walk_at "w"
  rename Cx _ _ _ _ _ => C
  refine r_litem (C.at (by walk_at "mem")) (by omega) hb2 (by omega) ?_
  repeat walk_at "w"
  rename Cx _ _ _ _ _ => C
  refine r_sliceB C (.int _ _) .none (by omega) ?_
  clear C
  intro s2 _ _ _ hs2 C
  rw [hbi1, pick_upto] at hs1
  rw [hbi2, pick_from] at hs2
  have hsz1 : s1.size ≤ 100 := by rw [← KBw.ints_length s1, hs1, List.length_take, ups_len]; omega
  have hsz2 : s2.size ≤ 100 := by rw [← KBw.ints_length s2, hs2, List.length_drop, ups_len]; omega
  repeat walk_at "w"
  refine r_addB (by omega) ?_
  intro s3 _ _ hs3
  rw [hs1, hs2, ups_mix] at hs3
  repeat walk_at "w"
  rename Cx _ _ _ _ _ => C
  refine r_litem (C.at (by walk_at "mem")) (by omega) ht1 (by omega) ?_
  refine r_setitem C (by walk_at "upd") (by omega) (by omega) (by omega) ?_
  clear C
  intro h C
  repeat walk_at "w"
  rename Cx _ _ _ _ _ => C
  refine r_litem (C.at (by walk_at "mem")) (by omega) ht3 (by omega) ?_
  repeat walk_at "w"
  rename Cx _ _ _ _ _ => C
  refine r_litem (C.at (by walk_at "mem")) ha0 ht2 (by omega) ?_
  repeat walk_at "w"
  rename Cx _ _ _ _ _ => C
  refine r_litem (C.at (by walk_at "mem")) (by omega) ht5 (by omega) ?_
  repeat walk_at "w"
  rename Cx _ _ _ _ _ => C
  refine r_litem (C.at (by walk_at "mem")) ha0 ht4 (by omega) ?_
  repeat walk_at "w"
  rename Cx _ _ _ _ _ => C
  refine r_litem (C.at (by walk_at "mem")) (by omega) ht1 (by omega) ?_
  refine r_setitem C (by walk_at "upd") (by omega) (by omega) (by omega) ?_
  clear C
  intro h C
  repeat walk_at "w"
  rename Cx _ _ _ _ _ => C
  have hmix := hG1.mix hk1c hG2 hk2c
  exact k _ _ _ _ _ _ _ C ⟨rfl, rfl, rfl, rfl, rfl, rfl, trivial⟩ (hfv.set hs3 _) (ints_set hdv _) (hs'.set hmix (by simp; omega) _) (by simp [hl'])
end Mine

namespace Mine
open PySem PySem.W PyProof.Rows PySem.Calls PyProof.Rows.TI
set_option maxRecDepth 100000
set_option linter.unusedVariables false
set_option maxHeartbeats 4000000
local macro_rules | `(tactic| walk_at "m") => `(tactic| first
  | ((with_reducible show wpAny _ _ (execs (_ :: _) _) _ _ _); with_reducible refine wpAny_execs_cons ?_)
  | ((with_reducible show wpAny _ _ (exec (Stmt.Assign [Expr.Name _ _] _ _) _) _ _ _); with_reducible refine wpAny_Assign_Name ?_ (by kernel_rfl))
  | ((with_reducible show wpAny _ _ (exec (Stmt.AugAssign (Expr.Name _ _) _ _ _) _) _ _ _); with_reducible refine wpAny_AugAssign_Name ?_)
  | ((with_reducible show wpAny _ _ (exec (Stmt.If _ _ _ _) _) _ _ _); with_reducible refine wpAny_If ?_)
  | ((with_reducible show wpAny _ _ (exec (Stmt.Return (some _) _) _) _ _ _); with_reducible refine wpAny_Return_some ?_)
  | ((with_reducible show wpAny _ _ (eval (Expr.Name _ _) _) _ _ _); (with_reducible rename Cx _ _ _ _ _ => C); first | with_reducible refine nm_l C (by with_unfolding_all exact rfl) ?_ | (with_reducible rename Gl _ _ _ => G); first | with_reducible refine nm_g C G (by with_reducible assumption) ?_ | with_reducible refine nm_b C G (Gl.nob G _ (by decide +kernel)) (by with_reducible first | exact bb_len | exact bb_sum | exact bb_range | exact bb_ord | exact bb_chr | exact bb_bytes | exact bb_bytearray | exact bb_min | exact bb_max | exact bb_sorted | exact bb_isinstance | exact bb_bool | exact bb_divmod | exact bb_abs | exact bb_list | exact bb_zip | exact bb_str | exact bb_IndexError | exact bb_UDE) ?_)
  | ((with_reducible show wpAny _ _ (loadName _ _) _ _ _); (with_reducible rename Cx _ _ _ _ _ => C); with_reducible refine ldn_l C (by with_unfolding_all exact rfl) ?_)
  | ((with_reducible show wpAny _ _ (storeName _ _ _) _ _ _); (with_reducible rename Cx _ _ _ _ _ => C); with_reducible refine st_l C ?_; clear C; intro h t C)
  | ((with_reducible show wpAny _ _ (eval (Expr.Constant (Const.int _) _ _) _) _ _ _); with_reducible refine r_int ?_; intro _ _)
  | ((with_reducible show wpAny _ _ (eval (Expr.Constant (Const.str _) _ _) _) _ _ _); with_reducible refine r_str ?_; intro _ _)
  | ((with_reducible show wpAny _ _ (eval (Expr.Constant (Const.bytes _) _ _) _) _ _ _); with_reducible refine r_bytes ?_; intro _ _)
  | ((with_reducible show wpAny _ _ (eval (Expr.Constant Const.none _ _) _) _ _ _); with_reducible refine r_none ?_)
  | ((with_reducible show wpAny _ _ (eval (Expr.Constant (Const.bool _) _ _) _) _ _ _); with_reducible refine r_bool ?_)
  | ((with_reducible show wpAny _ _ (eval (Expr.BinOp _ _ _ _) _) _ _ _); with_reducible refine wpAny_BinOp ?_)
  | ((with_reducible show wpAny _ _ (eval (Expr.Compare _ [_] [_] _) _) _ _ _); with_reducible refine wpAny_Compare1 ?_ (by kernel_rfl))
  | ((with_reducible show wpAny _ _ (isTrue (Expr.Compare _ [_] [_] _) _ _) _ _ _); with_reducible refine wpAny_isTrue_Compare1 ?_ (by kernel_rfl))
  | ((with_reducible show wpAny _ _ (truthy (Value.bool _)) _ _ _); with_reducible refine wpAny_truthy_bool ?_)
  | ((with_reducible show wpAny _ _ (truthy (Value.int _ _)) _ _ _); with_reducible refine r_tint ?_)
  | ((with_reducible show wpAny _ _ (binaryOp Operator.Add (Value.int _ _) (Value.int _ _)) _ _ _); with_reducible refine r_add ?_; intro _ _)
  | ((with_reducible show wpAny _ _ (binaryOp Operator.Sub (Value.int _ _) (Value.int _ _)) _ _ _); with_reducible refine r_sub ?_; intro _ _)
  | ((with_reducible show wpAny _ _ (binaryOp Operator.Mult (Value.int _ _) (Value.int _ _)) _ _ _); with_reducible refine r_mul (by first | exact IntMulOk.of_left (by decide) | exact IntMulOk.of_right (by decide) | walk_at "mul") ?_; intro _ _)
  | ((with_reducible show wpAny _ _ (binaryOp Operator.FloorDiv (Value.int _ _) (Value.int _ _)) _ _ _); with_reducible refine r_div (by omega) (by omega) ?_; intro _ _)
  | ((with_reducible show wpAny _ _ (binaryOp Operator.Mod (Value.int _ _) (Value.int _ _)) _ _ _); with_reducible refine r_mod (by omega) (by omega) ?_; intro _ _)
  | ((with_reducible show wpAny _ _ (inplaceOp Operator.Add (Value.int _ _) (Value.int _ _)) _ _ _); with_reducible refine r_iadd ?_; intro _ _)
  | ((with_reducible show wpAny _ _ (inplaceOp Operator.Mult (Value.int _ _) (Value.int _ _)) _ _ _); with_reducible refine r_imul (by first | exact IntMulOk.of_left (by decide) | exact IntMulOk.of_right (by decide) | walk_at "mul") ?_; intro _ _)
  | ((with_reducible show wpAny _ _ (compareOp CmpOp.Eq (Value.int _ _) (Value.int _ _)) _ _ _); with_reducible refine r_eq ?_)
  | ((with_reducible show wpAny _ _ (compareOp CmpOp.NotEq (Value.int _ _) (Value.int _ _)) _ _ _); with_reducible refine r_ne ?_)
  | ((with_reducible show wpAny _ _ (compareOp CmpOp.Lt (Value.int _ _) (Value.int _ _)) _ _ _); with_reducible refine r_lt ?_)
  | ((with_reducible show wpAny _ _ (compareOp CmpOp.LtE (Value.int _ _) (Value.int _ _)) _ _ _); with_reducible refine r_le ?_)
  | ((with_reducible show wpAny _ _ (compareOp CmpOp.Gt (Value.int _ _) (Value.int _ _)) _ _ _); with_reducible refine r_gt ?_)
  | ((with_reducible show wpAny _ _ (compareOp CmpOp.GtE (Value.int _ _) (Value.int _ _)) _ _ _); with_reducible refine r_ge ?_)
  | ((with_reducible show wpAny _ _ (execs [] _) _ _ _); refine wpAny_pure ?_)
  | ((with_reducible show wpAny _ _ (exec (Stmt.Try _ (_ :: _) _ [] _) _) _ _ _); with_reducible refine wpAny_Try_except ?_)
  | ((with_reducible show wpAny _ _ (isTrue (Expr.Compare _ (_ :: _ :: _) (_ :: _ :: _) _) _ _) _ _ _); with_reducible refine isTrue_chain ?_ (by kernel_rfl))
  | ((with_reducible show wpAny _ _ (testChain _ _ (_ :: _ :: _) (_ :: _ :: _)) _ _ _); with_reducible refine test_link ?_)
  | ((with_reducible show wpAny _ _ (testChain _ _ [_] _) _ _ _); with_reducible refine t_last ?_)
  | ((with_reducible show wpAny _ _ (isTrue (Expr.BoolOp BoolOp.And (_ :: _) _) _ _) _ _ _); with_reducible refine isTrue_and ?_)
  | ((with_reducible show wpAny _ _ (isTrue (Expr.BoolOp BoolOp.And [] _) _ _) _ _ _); with_reducible refine isTrue_and_nil ?_)
  | ((with_reducible show wpAny _ _ (isTrue (Expr.BoolOp BoolOp.Or (_ :: _) _) _ _) _ _ _); with_reducible refine isTrue_or ?_)
  | ((with_reducible show wpAny _ _ (isTrue (Expr.BoolOp BoolOp.Or [] _) _ _) _ _ _); with_reducible refine isTrue_or_nil ?_)
  | ((with_reducible show wpAny _ _ (isTrue (Expr.UnaryOp UnaryOp.Not _ _) _ _) _ _ _); with_reducible refine isTrue_not ?_)
  | ((with_reducible show wpAny _ _ (isTrue (Expr.Constant _ _ _) _ _) _ _ _); with_reducible refine isTrue_plain ?_ (by kernel_rfl))
  | ((with_reducible show wpAny _ _ (isTrue (Expr.Call _ _ _ _) _ _) _ _ _); with_reducible refine isTrue_plain ?_ (by kernel_rfl))
  | ((with_reducible show wpAny _ _ (isTrue (Expr.Name _ _) _ _) _ _ _); with_reducible refine isTrue_plain ?_ (by kernel_rfl))
  | ((with_reducible show wpAny _ _ (eval (Expr.IfExp _ _ _ _) _) _ _ _); with_reducible refine IfExp_ ?_)
  | ((with_reducible show wpAny _ _ (eval (Expr.Tuple _ _ _) _) _ _ _); with_reducible refine Tuple_ ?_)
  | ((with_reducible show wpAny _ _ (eval (Expr.List _ _) _) _ _ _); with_reducible refine List_ ?_)
  | ((with_reducible show wpAny _ _ (eval (Expr.Subscript _ (Expr.Slice _ _ none _) _) _) _ _ _); walk_at "slice")
  | ((with_reducible show wpAny _ _ (eval (Expr.Subscript _ _ _) _) _ _ _); with_reducible refine Subscript_ ?_)
  | ((with_reducible show wpAny _ _ (evalPart none _) _ _ _); with_reducible refine evalPart_none_step ?_)
  | ((with_reducible show wpAny _ _ (evalPart (some _) _) _ _ _); with_reducible refine evalPart_some_step ?_)
  | ((with_reducible show SliceOn _ _ _ _ _ (Value.ref _) _ _ _ _ _); (with_reducible rename Cx _ _ _ _ _ => C); with_reducible refine r_slice C (by walk_at "get") (by first | exact IsPart.none | exact IsPart.int _ _) (by first | exact IsPart.none | exact IsPart.int _ _) (by walk_at "size") ?_; clear C; intro a h C)
  | ((with_reducible show wpAny _ _ (eval (Expr.Call (Expr.Name _ _) _ [] _) _) _ _ _); with_reducible refine Call_ ?_ (by kernel_rfl))
  | ((with_reducible show wpAny _ _ (callWith _ (Value.ref _) [] (backTo _ (starEach (_ :: _) _)) []) _ _ _); with_reducible refine r_callf (by with_reducible assumption) ?_)
  | ((with_reducible show wpAny _ _ (callWith _ (Value.builtin _) [] (backTo _ (starEach (_ :: _) _)) []) _ _ _); with_reducible refine callWith_builtin1 ?_ (by kernel_rfl) (by kernel_rfl))
  | ((with_reducible show wpAny _ _ (callWith _ (Value.type _) [] (backTo _ (starEach (_ :: _) _)) []) _ _ _); with_reducible refine PyProof.Rows.callWith_type1 ?_ (by kernel_rfl) (by kernel_rfl))
  | ((with_reducible show wpAny _ _ (spliced (backTo _ (starEach (_ :: _) _))) _ _ _); with_reducible refine args_cons ?_ (by kernel_rfl))
  | ((with_reducible show wpAny _ _ (spliced (backTo _ (starEach [] _))) _ _ _); with_reducible refine args_nil ?_)
  | ((with_reducible show Kp _ _ ∧ wpAny _ _ (call _ _) _ _ _); (with_reducible rename Cx _ _ _ _ _ => C); refine ⟨Cx.keep C, ?_⟩)
  | ((with_reducible show wpAny _ _ (newTuple _) _ _ _); (with_reducible rename Cx _ _ _ _ _ => C); with_reducible refine r_newTuple C (by size_fits) ?_; clear C; intro a h C)
  | ((with_reducible show wpAny _ _ (newList _) _ _ _); (with_reducible rename Cx _ _ _ _ _ => C); with_reducible refine r_newList C (by size_fits) ?_; clear C; intro a h C)
  | ((with_reducible show if true = true then _ else _); with_reducible refine ite_t ?_)
  | ((with_reducible show if false = true then _ else _); with_reducible refine ite_f ?_)
  | ((with_reducible show if decide _ = true then _ else _); first | with_reducible refine ite_yes (by first | assumption | omega | decide) ?_ | with_reducible refine ite_no (by first | assumption | omega | decide) ?_)
  | ((with_reducible show wpAny _ _ (exec (Stmt.Expr _ _) _) _ _ _); with_reducible refine wpAny_Expr ?_ (by kernel_rfl) (by kernel_rfl))
  | ((with_reducible show wpAny _ _ (eval (Expr.Call (Expr.Attribute _ _ _) _ [] _) _) _ _ _); with_reducible refine r_mcall ?_)
  | ((with_reducible show wpAny _ _ (getMethod (Value.ref _) (Str.ofString "append") _) _ _ _); with_reducible refine r_getAppend (by walk_at "get") ?_; dsimp only)
  | ((with_reducible show wpAny _ _ (callWith _ (Value.builtin _) [_] (backTo _ (starEach (_ :: _) _)) []) _ _ _); with_reducible refine r_method1 ?_)
  | ((with_reducible show wpAny _ _ (callWith _ (Value.builtin _) [_] (backTo _ (starEach [] _)) []) _ _ _); with_reducible refine callWith_method0 ?_)
  | ((with_reducible show wpAny _ _ (call _ (_ ++ _)) _ _ _); simp only [List.cons_append, List.nil_append])
  | ((with_reducible show wpAny _ _ (call (Value.builtin "list.append") [Value.ref _, _]) _ _ _); (with_reducible rename Cx _ _ _ _ _ => C); with_reducible refine r_append C (by walk_at "upd") (by walk_at "size") ?_; clear C; intro h C)
  | ((with_reducible show wpAny _ _ (call (Value.builtin "len") [Value.ref _]) _ _ _); with_reducible refine r_len (by walk_at "get") (by walk_at "size") ?_; intro _ _)
  | ((with_reducible show wpAny _ _ (call (Value.builtin "len") [Value.bytes _ _]) _ _ _); with_reducible refine r_lenB (by walk_at "size") ?_; intro _ _)
  | ((with_reducible show wpAny _ _ (call (Value.builtin "isinstance") [Value.int _ _, Value.type "bool"]) _ _ _); with_reducible refine r_isiI ?_; intro _)
  | ((with_reducible show wpAny _ _ (call (Value.builtin "isinstance") [Value.none, Value.type "bool"]) _ _ _); with_reducible refine r_isiN ?_; intro _)
  | ((with_reducible show wpAny _ _ (eval (Expr.UnaryOp _ _ _) _) _ _ _); with_reducible refine UnaryOp_ ?_)
  | ((with_reducible show wpAny _ _ (unaryOp UnaryOp.USub (Value.int _ _)) _ _ _); with_reducible refine r_neg ?_; intro _ _)
  | ((with_reducible show wpAny _ _ (call (Value.type "range") [Value.int _ _]) _ _ _); (with_reducible rename Cx _ _ _ _ _ => C); with_reducible refine r_range1 C ?_; clear C; intro a h _ _ _ _ C)
  | ((with_reducible show wpAny _ _ (call (Value.type "range") [Value.int _ _, Value.int _ _]) _ _ _); (with_reducible rename Cx _ _ _ _ _ => C); with_reducible refine r_range2 C ?_; clear C; intro a h _ _ _ _ C)
  | ((with_reducible show wpAny _ _ (subscriptTail _ _ (Value.str (Str.ofString "ABCDEFGHIJKLMNOPQRSTUVWXYZ0123456789") _) (Value.int _ _)) _ _ _); with_reducible refine r_sgn (by omega) (by omega) ?_; intro _ _)
  | ((with_reducible show wpAny _ _ (call (Value.builtin "ord") [Value.str (Str.mk #[Int.toNat (sgn _)]) _]) _ _ _); with_reducible refine r_ordS (by omega) (by omega) ?_; intro _ _)
  | ((with_reducible show wpAny _ _ (call (Value.builtin "sum") [Value.ref _]) _ _ _); (with_reducible rename Cx _ _ _ _ _ => C); with_reducible refine r_sum C (by walk_at "hh") (by walk_at "get") (by walk_at "ints") ?_; clear C; intro h _ _ C)
  | ((with_reducible show wpAny _ _ (compareOp CmpOp.Eq (Value.str _ _) (Value.str _ _)) _ _ _); first | with_reducible refine r_eqSF (by with_reducible assumption) ?_ | with_reducible refine r_eqST (by first | with_reducible assumption | rfl) ?_)
  | ((with_reducible show wpAny _ _ (exec (Stmt.Assign [Expr.Tuple _ _ _] _ _) _) _ _ _); with_reducible refine PyProof.Rows.Assign_Tuple ?_ (by kernel_rfl) (by kernel_rfl))
  | ((with_reducible show wpAny _ _ (assign (Expr.Tuple [Expr.Name _ _, Expr.Name _ _] _ _) _ (Value.ref _)) _ _ _); (with_reducible rename Cx _ _ _ _ _ => C); with_reducible refine r_unpack2 C (by walk_at "get") (by walk_at "hh") ?_; clear C; intro h C)
  | ((with_reducible show wpAny _ _ (getMethod (Value.str _ _) (Str.ofString "find") _) _ _ _); with_reducible refine r_getFind ?_; dsimp only)
  | ((with_reducible show wpAny _ _ (call (Value.builtin "str.find") [Value.str _ _, Value.str (Str.mk #[Int.toNat _]) _]) _ _ _); with_reducible refine r_find (by omega) (by omega) ?_; intro _ _)
  | ((with_reducible show wpAny _ _ (call (Value.builtin "chr") [Value.int _ _]) _ _ _); with_reducible refine r_chr (by omega) (by omega) ?_; intro _ _)
  | ((with_reducible show wpAny _ _ (call (Value.builtin "divmod") [Value.int _ _, Value.int _ _]) _ _ _); (with_reducible rename Cx _ _ _ _ _ => C); with_reducible refine r_divmod C (by omega) (by omega) ?_; clear C; intro _ h _ _ _ C)
  | ((with_reducible show wpAny _ _ (compareOp CmpOp.Is (Value.int _ _) Value.none) _ _ _); with_reducible refine r_isI ?_)
  | ((with_reducible show wpAny _ _ (compareOp CmpOp.Is Value.none Value.none) _ _ _); with_reducible refine r_isNN ?_)
  | ((with_reducible show wpAny _ _ (compareOp CmpOp.IsNot (Value.int _ _) Value.none) _ _ _); with_reducible refine r_isNotI ?_)
  | ((with_reducible show wpAny _ _ (compareOp CmpOp.IsNot Value.none Value.none) _ _ _); with_reducible refine r_isNotN ?_)
  | ((with_reducible show wpAny _ _ (subscriptTail _ _ (Value.ref _) (Value.int _ _)) _ _ _); with_reducible refine r_tit (by walk_at "get") (by decide) (by with_unfolding_all exact rfl) (by walk_at "size") ?_)
  | ((with_reducible show wpAny _ _ (call (Value.type "range") [Value.int _ _, Value.int _ _, Value.int _ _]) _ _ _); (with_reducible rename Cx _ _ _ _ _ => C); with_reducible refine r_range3 C (by decide) (by decide) ?_; clear C; intro a h _ _ _ _ C)
  | walk_at "m2")
local macro_rules | `(tactic| walk_at "slice") => `(tactic| with_reducible refine r_subslice ?_)
local macro_rules | `(tactic| walk_at "get") => `(tactic| ((with_reducible rename Cx _ _ _ _ _ => C); first | exact Cx.old C (by with_reducible assumption) | exact Cx.at C (by walk_at "mem")))
local macro_rules | `(tactic| walk_at "mem") => `(tactic| ((repeat (first | with_reducible exact List.mem_cons_self | with_reducible refine List.mem_cons_of_mem _ ?_)); done))
local macro_rules | `(tactic| walk_at "upd") => `(tactic| first | with_reducible exact UpdAt.head | with_reducible exact UpdAt.tail (UpdAt.head) | with_reducible exact UpdAt.tail (UpdAt.tail (UpdAt.head)) | with_reducible exact UpdAt.tail (UpdAt.tail (UpdAt.tail (UpdAt.head))) | with_reducible exact UpdAt.tail (UpdAt.tail (UpdAt.tail (UpdAt.tail (UpdAt.head)))) | with_reducible exact UpdAt.tail (UpdAt.tail (UpdAt.tail (UpdAt.tail (UpdAt.tail (UpdAt.head))))) | with_reducible exact UpdAt.tail (UpdAt.tail (UpdAt.tail (UpdAt.tail (UpdAt.tail (UpdAt.tail (UpdAt.head)))))) | with_reducible exact UpdAt.tail (UpdAt.tail (UpdAt.tail (UpdAt.tail (UpdAt.tail (UpdAt.tail (UpdAt.tail (UpdAt.head))))))) | with_reducible exact UpdAt.tail (UpdAt.tail (UpdAt.tail (UpdAt.tail (UpdAt.tail (UpdAt.tail (UpdAt.tail (UpdAt.tail (UpdAt.head)))))))) | with_reducible exact UpdAt.tail (UpdAt.tail (UpdAt.tail (UpdAt.tail (UpdAt.tail (UpdAt.tail (UpdAt.tail (UpdAt.tail (UpdAt.tail (UpdAt.head))))))))) | with_reducible exact UpdAt.tail (UpdAt.tail (UpdAt.tail (UpdAt.tail (UpdAt.tail (UpdAt.tail (UpdAt.tail (UpdAt.tail (UpdAt.tail (UpdAt.tail (UpdAt.head)))))))))) | with_reducible exact UpdAt.tail (UpdAt.tail (UpdAt.tail (UpdAt.tail (UpdAt.tail (UpdAt.tail (UpdAt.tail (UpdAt.tail (UpdAt.tail (UpdAt.tail (UpdAt.tail (UpdAt.head))))))))))))
local macro_rules | `(tactic| walk_at "size") => `(tactic| first | omega | (simp only [List.length_cons, List.length_nil, List.length_append, List.length_map]; omega) | (simp; omega))
local macro_rules | `(tactic| walk_at "m2") => `(tactic| fail "no step")
local macro_rules | `(tactic| walk_at "hh") => `(tactic| (first | with_reducible assumption | (rename Around.handled _ = none => hh; with_unfolding_all exact hh)))
local macro_rules | `(tactic| walk_at "ints") => `(tactic| (first | with_reducible assumption | exact sp_ints (by with_reducible assumption) _ _))

local macro_rules | `(tactic| walk_at "depth") => `(tactic| first | omega | (show Around.depth _ + 1 < _; omega))
local macro_rules | `(tactic| walk_at "mul") => `(tactic| first | exact IntMulOk.of_left (intBits_le_64 (by omega) (by omega)) | exact IntMulOk.of_right (intBits_le_64 (by omega) (by omega)))
local macro_rules | `(tactic| walk_at "mem") => `(tactic| ((repeat (first | with_reducible exact List.mem_cons_self | with_reducible assumption | with_reducible refine List.mem_cons_of_mem _ ?_)); done))
local macro_rules | `(tactic| walk_at "c") => `(tactic| first
  | ((with_reducible show wpC _ _ (execs (_ :: _) _) _ _ _); with_reducible refine c_cons ?_)
  | ((with_reducible show wpC _ _ (execs [] _) _ _ _); refine wpC_pure ?_)
  | ((with_reducible show wpC _ _ (exec (Stmt.If _ _ _ _) _) _ _ _); with_reducible refine c_If ?_)
  | ((with_reducible show wpC _ _ (isTrue (Expr.Compare (Expr.Call (Expr.Name (Str.ofString "generate_generalized_integer") _) _ _ _) _ _ _) _ _) _ _ _); with_reducible refine c_isCmp ?_)
  | ((with_reducible show wpC _ _ (isTrue (Expr.Compare (Expr.Call (Expr.Name (Str.ofString "_law_written") _) _ _ _) _ _ _) _ _) _ _ _); with_reducible refine c_isCmp ?_)
  | ((with_reducible show wpC _ _ (isTrue (Expr.BoolOp BoolOp.Or (_ :: _) _) _ _) _ _ _); with_reducible refine c_isOr ?_)
  | ((with_reducible show wpC _ _ (eval (Expr.Call (Expr.Attribute (Expr.Call _ _ _ _) _ _) _ _ _) _) _ _ _); with_reducible refine c_mcallR ?_)
  | ((with_reducible show wpC _ _ (eval (Expr.Call (Expr.Name _ _) _ _ _) _) _ _ _); with_reducible refine c_CallN ?_)
  | ((with_reducible show wpC _ _ (callWith _ (Value.ref _) [] (backTo _ (starEach (_ :: _) _)) []) _ _ _); with_reducible refine c_callf (by with_reducible assumption) ?_)
  | ((with_reducible show Kp _ _ ∧ wpC _ _ (call _ _) _ _ _); (with_reducible rename Cx _ _ _ _ _ => C); refine ⟨Cx.keep C, ?_⟩)
  | ((with_reducible show wpAny _ _ (getMethod (Value.bytes _ _) (Str.ofString "upper") _) _ _ _); with_reducible refine r_getUpper ?_; dsimp only)
  | ((with_reducible show wpC _ _ (isTrue _ _ _) _ _ _); with_reducible refine wpC_of ?_)
  | ((with_reducible show wpC _ _ (exec (Stmt.Assign _ _ _) _) _ _ _); with_reducible refine wpC_of ?_)
  | ((with_reducible show wpC _ _ (exec (Stmt.AugAssign _ _ _ _) _) _ _ _); with_reducible refine wpC_of ?_)
  | ((with_reducible show wpC _ _ (exec (Stmt.Return _ _) _) _ _ _); with_reducible refine wpC_of ?_)
  | ((with_reducible show wpC _ _ (exec (Stmt.Expr _ _) _) _ _ _); with_reducible refine wpC_of ?_))
local macro_rules | `(tactic| walk_at "m2") => `(tactic| first
  | ((with_reducible show wpAny _ _ (eval (Expr.Name (Str.ofString "rows") _) _) _ _ _); (with_reducible rename Cx _ _ _ _ _ => C); with_reducible refine nm_c (c := _ + 1) C (by walk_at "mem") (by kernel_rfl) ?_)
  | ((with_reducible show wpAny _ _ (eval (Expr.Name (Str.ofString "cut") _) _) _ _ _); (with_reducible rename Cx _ _ _ _ _ => C); with_reducible refine nm_c (c := _ + 2) C (by walk_at "mem") (by kernel_rfl) ?_)
  | ((with_reducible show wpAny _ _ (exec (Stmt.Assign [Expr.Subscript _ _ _] _ _) _) _ _ _); with_reducible refine wpAny_Assign_Subscript ?_ (by kernel_rfl))
  | ((with_reducible show wpAny _ _ (compareOp CmpOp.Is (Value.ref _) Value.none) _ _ _); with_reducible refine r_isR ?_)
  | ((with_reducible show wpAny _ _ (eval (Expr.Name _ _) _) _ _ _); (with_reducible rename Cx _ _ _ _ _ => C); first | with_reducible refine nm_c C (by walk_at "mem") (by kernel_rfl) ?_ | with_reducible refine nm_f C (by walk_at "mem") (by kernel_rfl) ?_)
  | ((with_reducible show wpAny _ _ (loadName _ _) _ _ _); (with_reducible rename Cx _ _ _ _ _ => C); with_reducible refine ldn_c C (by walk_at "mem") (by kernel_rfl) ?_)
  | ((with_reducible show wpAny _ _ (call (Value.ref _) [Value.int _ _, Value.int _ _]) _ _ _); (with_reducible rename Cx _ _ _ _ _ => C); (with_reducible rename Gl _ _ _ => G); refine T_spec (Gl.kp G (Cx.keep C)) (Fn.kp (by with_reducible assumption) (Cx.keep C)) (by walk_at "depth") ?_; intro h t _ hk; replace C := Cx.grown C hk)
  | ((with_reducible show wpAny _ _ (binaryOp Operator.Add (Value.ref _) (Value.ref _)) _ _ _); (with_reducible rename Cx _ _ _ _ _ => C); with_reducible refine r_addL C (by walk_at "get") (by walk_at "get") (by walk_at "size") ?_; clear C; intro a h C)
  | walk_at "c")
local macro_rules | `(tactic| walk_at "w") => `(tactic| first
  | ((with_reducible show wpAny _ _ (storeName _ (Str.ofString "rows") _) _ _ _); (with_reducible rename Cx _ _ _ _ _ => C); with_reducible refine st_c C (by walk_at "upd") (by kernel_rfl) ?_; clear C; intro h C)
  | walk_at "m")

/-- the looks behind the swaps -/
theorem look7 {prog : Program} {w : World} {A : Around} {h₀ h : Heap} {mg mb m : Str → Option Value} {L : Addr} {news : List (Addr × Obj)}
  {g : Array GenState} {d : Drawn} {t : Nat} {o : OsState} {Q : Flow → Shared → Prop} {aT aD aG aR aV a fr du : Addr} {cT cD cG cR cV cd vr vc : Value} {ob1 ob2 : Obj} {fv dv : List Value} {e1 e2 : Nat} {bias : Int} {tb td : Tok} {ls : List (List Int)} {ns : List Int} {body : List Stmt}
  (G : Gl mg mb h₀) (fT : FT mg h₀ aT cT) (fD : FD mg h₀ aD cD) (fG : FG mg h₀ aG cG) (fR : FR mg h₀ aR cR) (fV : FV mg h₀ aV cV) (nDg : mg (Str.ofString "digits") = some (.bytes LOWS td)) (hd : A.depth + 12 < recursionLimit) (hh : A.handled = none) (hu : A.units + 85 < cLine) (hg : A.guards = some [])
  (C : Cx h₀ L h m ((fr, lst fv e1) :: (du, lst dv e2) :: (L + 1, celO ob1 (some vr)) :: (L + 2, celO ob2 (some vc)) :: news))
  (hm : Has m [(Str.ofString "bias", .int bias tb), (Str.ofString "fresh", .ref fr), (Str.ofString "due", .ref du)])
  (hfv : RowsAre fv ls) (hdv : IntsAre dv ns) (hs : Gs bias ns ls) (hl : ls.length ≤ 100)
  (k : ∀ m' h' t', Cx h₀ L h' m' ((fr, lst fv e1) :: (du, lst dv e2) :: (L + 1, celO ob1 (some (.ref fr))) :: (L + 2, celO ob2 (some vc)) :: news) →
    Has m' [(Str.ofString "bias", .int bias tb), (Str.ofString "numbers", .ref du)] → Q .next ⟨h', g, d, t', o⟩)
  (hb : body = cutB.drop 6 := by kernel_rfl) :
  wpC (model prog w) A (execs body (envOfC (sName dW) (sScope dW) L a cd)) Q (fun _ _ => False) ⟨h, g, d, t, o⟩ := by
  subst hb
  have nR : mg (Str.ofString "_law_read") = some (.ref aR) := fR.nm
  have nV : mg (Str.ofString "_law_written") = some (.ref aV) := fV.nm
  have hfl := hfv.len
  have hdl := hdv.length
  have hsl := hs.len
  rw [hm.eq] at C
  clear hm
  conv in (execs _ _) => arg 1; whnf
  repeat walk_at "w"
  rename Cx _ _ _ _ _ => C
  rename Gl _ _ _ => G
  refine read_spec (G.kp C.keep) (fT.kp C.keep) (fD.kp C.keep) (fR.kp C.keep) (by omega) hh (by omega) (C.at (by walk_at "mem")) hfv hs (by omega) ?_
  intro x1 h3 t3 ys e3 hk3 hn3 hg3 hys
  replace C := C.add hk3 hn3 hg3
  clear hk3 hn3 hg3
  repeat walk_at "w"
  rename Cx _ _ _ _ _ => C
  refine r_neL_same (C.at (by walk_at "mem")) (C.at (by walk_at "mem")) hys hdv (by omega) ?_
  repeat walk_at "w"
  rename Cx _ _ _ _ _ => C
  rename Gl _ _ _ => G
  refine written_spec (G.kp C.keep) (fT.kp C.keep) (fG.kp C.keep) (fV.kp C.keep) nDg (by omega) hh (by omega) hg (C.at (by walk_at "mem")) hdv hs (by omega) ?_
  intro x1 h3 t3 ys e3 hk3 hn3 hg3 hys
  replace C := C.add hk3 hn3 hg3
  clear hk3 hn3 hg3
  repeat walk_at "w"
  rename Cx _ _ _ _ _ => C
  refine r_neLS (C.at (by walk_at "mem")) (C.at (by walk_at "mem")) (hys.same hfv) (by omega) ?_
  repeat walk_at "w"
  rename Cx _ _ _ _ _ => C
  exact k _ _ _ (C.sub (.cons _ (.cons _ (.refl _)))) ⟨rfl, rfl, trivial⟩
end Mine

namespace Mine
open PySem PySem.W PyProof.Rows PySem.Calls PyProof.Rows.TI
set_option maxRecDepth 100000
set_option linter.unusedVariables false
set_option maxHeartbeats 4000000
local macro_rules | `(tactic| walk_at "m") => `(tactic| first
  | ((with_reducible show wpAny _ _ (execs (_ :: _) _) _ _ _); with_reducible refine wpAny_execs_cons ?_)
  | ((with_reducible show wpAny _ _ (exec (Stmt.Assign [Expr.Name _ _] _ _) _) _ _ _); with_reducible refine wpAny_Assign_Name ?_ (by kernel_rfl))
  | ((with_reducible show wpAny _ _ (exec (Stmt.AugAssign (Expr.Name _ _) _ _ _) _) _ _ _); with_reducible refine wpAny_AugAssign_Name ?_)
  | ((with_reducible show wpAny _ _ (exec (Stmt.If _ _ _ _) _) _ _ _); with_reducible refine wpAny_If ?_)
  | ((with_reducible show wpAny _ _ (exec (Stmt.Return (some _) _) _) _ _ _); with_reducible refine wpAny_Return_some ?_)
  | ((with_reducible show wpAny _ _ (eval (Expr.Name _ _) _) _ _ _); (with_reducible rename Cx _ _ _ _ _ => C); first | with_reducible refine nm_l C (by with_unfolding_all exact rfl) ?_ | (with_reducible rename Gl _ _ _ => G); first | with_reducible refine nm_g C G (by with_reducible assumption) ?_ | with_reducible refine nm_b C G (Gl.nob G _ (by decide +kernel)) (by with_reducible first | exact bb_len | exact bb_sum | exact bb_range | exact bb_ord | exact bb_chr | exact bb_bytes | exact bb_bytearray | exact bb_min | exact bb_max | exact bb_sorted | exact bb_isinstance | exact bb_bool | exact bb_divmod | exact bb_abs | exact bb_list | exact bb_zip | exact bb_str | exact bb_IndexError | exact bb_UDE) ?_)
  | ((with_reducible show wpAny _ _ (loadName _ _) _ _ _); (with_reducible rename Cx _ _ _ _ _ => C); with_reducible refine ldn_l C (by with_unfolding_all exact rfl) ?_)
  | ((with_reducible show wpAny _ _ (storeName _ _ _) _ _ _); (with_reducible rename Cx _ _ _ _ _ => C); with_reducible refine st_l C ?_; clear C; intro h t C)
  | ((with_reducible show wpAny _ _ (eval (Expr.Constant (Const.int _) _ _) _) _ _ _); with_reducible refine r_int ?_; intro _ _)
  | ((with_reducible show wpAny _ _ (eval (Expr.Constant (Const.str _) _ _) _) _ _ _); with_reducible refine r_str ?_; intro _ _)
  | ((with_reducible show wpAny _ _ (eval (Expr.Constant (Const.bytes _) _ _) _) _ _ _); with_reducible refine r_bytes ?_; intro _ _)
  | ((with_reducible show wpAny _ _ (eval (Expr.Constant Const.none _ _) _) _ _ _); with_reducible refine r_none ?_)
  | ((with_reducible show wpAny _ _ (eval (Expr.Constant (Const.bool _) _ _) _) _ _ _); with_reducible refine r_bool ?_)
  | ((with_reducible show wpAny _ _ (eval (Expr.BinOp _ _ _ _) _) _ _ _); with_reducible refine wpAny_BinOp ?_)
  | ((with_reducible show wpAny _ _ (eval (Expr.Compare _ [_] [_] _) _) _ _ _); with_reducible refine wpAny_Compare1 ?_ (by kernel_rfl))
  | ((with_reducible show wpAny _ _ (isTrue (Expr.Compare _ [_] [_] _) _ _) _ _ _); with_reducible refine wpAny_isTrue_Compare1 ?_ (by kernel_rfl))
  | ((with_reducible show wpAny _ _ (truthy (Value.bool _)) _ _ _); with_reducible refine wpAny_truthy_bool ?_)
  | ((with_reducible show wpAny _ _ (truthy (Value.int _ _)) _ _ _); with_reducible refine r_tint ?_)
  | ((with_reducible show wpAny _ _ (binaryOp Operator.Add (Value.int _ _) (Value.int _ _)) _ _ _); with_reducible refine r_add ?_; intro _ _)
  | ((with_reducible show wpAny _ _ (binaryOp Operator.Sub (Value.int _ _) (Value.int _ _)) _ _ _); with_reducible refine r_sub ?_; intro _ _)
  | ((with_reducible show wpAny _ _ (binaryOp Operator.Mult (Value.int _ _) (Value.int _ _)) _ _ _); with_reducible refine r_mul (by first | exact IntMulOk.of_left (by decide) | exact IntMulOk.of_right (by decide) | walk_at "mul") ?_; intro _ _)
  | ((with_reducible show wpAny _ _ (binaryOp Operator.FloorDiv (Value.int _ _) (Value.int _ _)) _ _ _); with_reducible refine r_div (by omega) (by omega) ?_; intro _ _)
  | ((with_reducible show wpAny _ _ (binaryOp Operator.Mod (Value.int _ _) (Value.int _ _)) _ _ _); with_reducible refine r_mod (by omega) (by omega) ?_; intro _ _)
  | ((with_reducible show wpAny _ _ (inplaceOp Operator.Add (Value.int _ _) (Value.int _ _)) _ _ _); with_reducible refine r_iadd ?_; intro _ _)
  | ((with_reducible show wpAny _ _ (inplaceOp Operator.Mult (Value.int _ _) (Value.int _ _)) _ _ _); with_reducible refine r_imul (by first | exact IntMulOk.of_left (by decide) | exact IntMulOk.of_right (by decide) | walk_at "mul") ?_; intro _ _)
  | ((with_reducible show wpAny _ _ (compareOp CmpOp.Eq (Value.int _ _) (Value.int _ _)) _ _ _); with_reducible refine r_eq ?_)
  | ((with_reducible show wpAny _ _ (compareOp CmpOp.NotEq (Value.int _ _) (Value.int _ _)) _ _ _); with_reducible refine r_ne ?_)
  | ((with_reducible show wpAny _ _ (compareOp CmpOp.Lt (Value.int _ _) (Value.int _ _)) _ _ _); with_reducible refine r_lt ?_)
  | ((with_reducible show wpAny _ _ (compareOp CmpOp.LtE (Value.int _ _) (Value.int _ _)) _ _ _); with_reducible refine r_le ?_)
  | ((with_reducible show wpAny _ _ (compareOp CmpOp.Gt (Value.int _ _) (Value.int _ _)) _ _ _); with_reducible refine r_gt ?_)
  | ((with_reducible show wpAny _ _ (compareOp CmpOp.GtE (Value.int _ _) (Value.int _ _)) _ _ _); with_reducible refine r_ge ?_)
  | ((with_reducible show wpAny _ _ (execs [] _) _ _ _); refine wpAny_pure ?_)
  | ((with_reducible show wpAny _ _ (exec (Stmt.Try _ (_ :: _) _ [] _) _) _ _ _); with_reducible refine wpAny_Try_except ?_)
  | ((with_reducible show wpAny _ _ (isTrue (Expr.Compare _ (_ :: _ :: _) (_ :: _ :: _) _) _ _) _ _ _); with_reducible refine isTrue_chain ?_ (by kernel_rfl))
  | ((with_reducible show wpAny _ _ (testChain _ _ (_ :: _ :: _) (_ :: _ :: _)) _ _ _); with_reducible refine test_link ?_)
  | ((with_reducible show wpAny _ _ (testChain _ _ [_] _) _ _ _); with_reducible refine t_last ?_)
  | ((with_reducible show wpAny _ _ (isTrue (Expr.BoolOp BoolOp.And (_ :: _) _) _ _) _ _ _); with_reducible refine isTrue_and ?_)
  | ((with_reducible show wpAny _ _ (isTrue (Expr.BoolOp BoolOp.And [] _) _ _) _ _ _); with_reducible refine isTrue_and_nil ?_)
  | ((with_reducible show wpAny _ _ (isTrue (Expr.BoolOp BoolOp.Or (_ :: _) _) _ _) _ _ _); with_reducible refine isTrue_or ?_)
  | ((with_reducible show wpAny _ _ (isTrue (Expr.BoolOp BoolOp.Or [] _) _ _) _ _ _); with_reducible refine isTrue_or_nil ?_)
  | ((with_reducible show wpAny _ _ (isTrue (Expr.UnaryOp UnaryOp.Not _ _) _ _) _ _ _); with_reducible refine isTrue_not ?_)
  | ((with_reducible show wpAny _ _ (isTrue (Expr.Constant _ _ _) _ _) _ _ _); with_reducible refine isTrue_plain ?_ (by kernel_rfl))
  | ((with_reducible show wpAny _ _ (isTrue (Expr.Call _ _ _ _) _ _) _ _ _); with_reducible refine isTrue_plain ?_ (by kernel_rfl))
  | ((with_reducible show wpAny _ _ (isTrue (Expr.Name _ _) _ _) _ _ _); with_reducible refine isTrue_plain ?_ (by kernel_rfl))
  | ((with_reducible show wpAny _ _ (eval (Expr.IfExp _ _ _ _) _) _ _ _); with_reducible refine IfExp_ ?_)
  | ((with_reducible show wpAny _ _ (eval (Expr.Tuple _ _ _) _) _ _ _); with_reducible refine Tuple_ ?_)
  | ((with_reducible show wpAny _ _ (eval (Expr.List _ _) _) _ _ _); with_reducible refine List_ ?_)
  | ((with_reducible show wpAny _ _ (eval (Expr.Subscript _ (Expr.Slice _ _ none _) _) _) _ _ _); walk_at "slice")
  | ((with_reducible show wpAny _ _ (eval (Expr.Subscript _ _ _) _) _ _ _); with_reducible refine Subscript_ ?_)
  | ((with_reducible show wpAny _ _ (evalPart none _) _ _ _); with_reducible refine evalPart_none_step ?_)
  | ((with_reducible show wpAny _ _ (evalPart (some _) _) _ _ _); with_reducible refine evalPart_some_step ?_)
  | ((with_reducible show SliceOn _ _ _ _ _ (Value.ref _) _ _ _ _ _); (with_reducible rename Cx _ _ _ _ _ => C); with_reducible refine r_slice C (by walk_at "get") (by first | exact IsPart.none | exact IsPart.int _ _) (by first | exact IsPart.none | exact IsPart.int _ _) (by walk_at "size") ?_; clear C; intro a h C)
  | ((with_reducible show wpAny _ _ (eval (Expr.Call (Expr.Name _ _) _ [] _) _) _ _ _); with_reducible refine Call_ ?_ (by kernel_rfl))
  | ((with_reducible show wpAny _ _ (callWith _ (Value.ref _) [] (backTo _ (starEach (_ :: _) _)) []) _ _ _); with_reducible refine r_callf (by with_reducible assumption) ?_)
  | ((with_reducible show wpAny _ _ (callWith _ (Value.builtin _) [] (backTo _ (starEach (_ :: _) _)) []) _ _ _); with_reducible refine callWith_builtin1 ?_ (by kernel_rfl) (by kernel_rfl))
  | ((with_reducible show wpAny _ _ (callWith _ (Value.type _) [] (backTo _ (starEach (_ :: _) _)) []) _ _ _); with_reducible refine PyProof.Rows.callWith_type1 ?_ (by kernel_rfl) (by kernel_rfl))
  | ((with_reducible show wpAny _ _ (spliced (backTo _ (starEach (_ :: _) _))) _ _ _); with_reducible refine args_cons ?_ (by kernel_rfl))
  | ((with_reducible show wpAny _ _ (spliced (backTo _ (starEach [] _))) _ _ _); with_reducible refine args_nil ?_)
  | ((with_reducible show Kp _ _ ∧ wpAny _ _ (call _ _) _ _ _); (with_reducible rename Cx _ _ _ _ _ => C); refine ⟨Cx.keep C, ?_⟩)
  | ((with_reducible show wpAny _ _ (newTuple _) _ _ _); (with_reducible rename Cx _ _ _ _ _ => C); with_reducible refine r_newTuple C (by size_fits) ?_; clear C; intro a h C)
  | ((with_reducible show wpAny _ _ (newList _) _ _ _); (with_reducible rename Cx _ _ _ _ _ => C); with_reducible refine r_newList C (by size_fits) ?_; clear C; intro a h C)
  | ((with_reducible show if true = true then _ else _); with_reducible refine ite_t ?_)
  | ((with_reducible show if false = true then _ else _); with_reducible refine ite_f ?_)
  | ((with_reducible show if decide _ = true then _ else _); first | with_reducible refine ite_yes (by first | assumption | omega | decide) ?_ | with_reducible refine ite_no (by first | assumption | omega | decide) ?_)
  | ((with_reducible show wpAny _ _ (exec (Stmt.Expr _ _) _) _ _ _); with_reducible refine wpAny_Expr ?_ (by kernel_rfl) (by kernel_rfl))
  | ((with_reducible show wpAny _ _ (eval (Expr.Call (Expr.Attribute _ _ _) _ [] _) _) _ _ _); with_reducible refine r_mcall ?_)
  | ((with_reducible show wpAny _ _ (getMethod (Value.ref _) (Str.ofString "append") _) _ _ _); with_reducible refine r_getAppend (by walk_at "get") ?_; dsimp only)
  | ((with_reducible show wpAny _ _ (callWith _ (Value.builtin _) [_] (backTo _ (starEach (_ :: _) _)) []) _ _ _); with_reducible refine r_method1 ?_)
  | ((with_reducible show wpAny _ _ (callWith _ (Value.builtin _) [_] (backTo _ (starEach [] _)) []) _ _ _); with_reducible refine callWith_method0 ?_)
  | ((with_reducible show wpAny _ _ (call _ (_ ++ _)) _ _ _); simp only [List.cons_append, List.nil_append])
  | ((with_reducible show wpAny _ _ (call (Value.builtin "list.append") [Value.ref _, _]) _ _ _); (with_reducible rename Cx _ _ _ _ _ => C); with_reducible refine r_append C (by walk_at "upd") (by walk_at "size") ?_; clear C; intro h C)
  | ((with_reducible show wpAny _ _ (call (Value.builtin "len") [Value.ref _]) _ _ _); with_reducible refine r_len (by walk_at "get") (by walk_at "size") ?_; intro _ _)
  | ((with_reducible show wpAny _ _ (call (Value.builtin "len") [Value.bytes _ _]) _ _ _); with_reducible refine r_lenB (by walk_at "size") ?_; intro _ _)
  | ((with_reducible show wpAny _ _ (call (Value.builtin "isinstance") [Value.int _ _, Value.type "bool"]) _ _ _); with_reducible refine r_isiI ?_; intro _)
  | ((with_reducible show wpAny _ _ (call (Value.builtin "isinstance") [Value.none, Value.type "bool"]) _ _ _); with_reducible refine r_isiN ?_; intro _)
  | ((with_reducible show wpAny _ _ (eval (Expr.UnaryOp _ _ _) _) _ _ _); with_reducible refine UnaryOp_ ?_)
  | ((with_reducible show wpAny _ _ (unaryOp UnaryOp.USub (Value.int _ _)) _ _ _); with_reducible refine r_neg ?_; intro _ _)
  | ((with_reducible show wpAny _ _ (call (Value.type "range") [Value.int _ _]) _ _ _); (with_reducible rename Cx _ _ _ _ _ => C); with_reducible refine r_range1 C ?_; clear C; intro a h _ _ _ _ C)
  | ((with_reducible show wpAny _ _ (call (Value.type "range") [Value.int _ _, Value.int _ _]) _ _ _); (with_reducible rename Cx _ _ _ _ _ => C); with_reducible refine r_range2 C ?_; clear C; intro a h _ _ _ _ C)
  | ((with_reducible show wpAny _ _ (subscriptTail _ _ (Value.str (Str.ofString "ABCDEFGHIJKLMNOPQRSTUVWXYZ0123456789") _) (Value.int _ _)) _ _ _); with_reducible refine r_sgn (by omega) (by omega) ?_; intro _ _)
  | ((with_reducible show wpAny _ _ (call (Value.builtin "ord") [Value.str (Str.mk #[Int.toNat (sgn _)]) _]) _ _ _); with_reducible refine r_ordS (by omega) (by omega) ?_; intro _ _)
  | ((with_reducible show wpAny _ _ (call (Value.builtin "sum") [Value.ref _]) _ _ _); (with_reducible rename Cx _ _ _ _ _ => C); with_reducible refine r_sum C (by walk_at "hh") (by walk_at "get") (by walk_at "ints") ?_; clear C; intro h _ _ C)
  | ((with_reducible show wpAny _ _ (compareOp CmpOp.Eq (Value.str _ _) (Value.str _ _)) _ _ _); first | with_reducible refine r_eqSF (by with_reducible assumption) ?_ | with_reducible refine r_eqST (by first | with_reducible assumption | rfl) ?_)
  | ((with_reducible show wpAny _ _ (exec (Stmt.Assign [Expr.Tuple _ _ _] _ _) _) _ _ _); with_reducible refine PyProof.Rows.Assign_Tuple ?_ (by kernel_rfl) (by kernel_rfl))
  | ((with_reducible show wpAny _ _ (assign (Expr.Tuple [Expr.Name _ _, Expr.Name _ _] _ _) _ (Value.ref _)) _ _ _); (with_reducible rename Cx _ _ _ _ _ => C); with_reducible refine r_unpack2 C (by walk_at "get") (by walk_at "hh") ?_; clear C; intro h C)
  | ((with_reducible show wpAny _ _ (getMethod (Value.str _ _) (Str.ofString "find") _) _ _ _); with_reducible refine r_getFind ?_; dsimp only)
  | ((with_reducible show wpAny _ _ (call (Value.builtin "str.find") [Value.str _ _, Value.str (Str.mk #[Int.toNat _]) _]) _ _ _); with_reducible refine r_find (by omega) (by omega) ?_; intro _ _)
  | ((with_reducible show wpAny _ _ (call (Value.builtin "chr") [Value.int _ _]) _ _ _); with_reducible refine r_chr (by omega) (by omega) ?_; intro _ _)
  | ((with_reducible show wpAny _ _ (call (Value.builtin "divmod") [Value.int _ _, Value.int _ _]) _ _ _); (with_reducible rename Cx _ _ _ _ _ => C); with_reducible refine r_divmod C (by omega) (by omega) ?_; clear C; intro _ h _ _ _ C)
  | ((with_reducible show wpAny _ _ (compareOp CmpOp.Is (Value.int _ _) Value.none) _ _ _); with_reducible refine r_isI ?_)
  | ((with_reducible show wpAny _ _ (compareOp CmpOp.Is Value.none Value.none) _ _ _); with_reducible refine r_isNN ?_)
  | ((with_reducible show wpAny _ _ (compareOp CmpOp.IsNot (Value.int _ _) Value.none) _ _ _); with_reducible refine r_isNotI ?_)
  | ((with_reducible show wpAny _ _ (compareOp CmpOp.IsNot Value.none Value.none) _ _ _); with_reducible refine r_isNotN ?_)
  | ((with_reducible show wpAny _ _ (subscriptTail _ _ (Value.ref _) (Value.int _ _)) _ _ _); with_reducible refine r_tit (by walk_at "get") (by decide) (by with_unfolding_all exact rfl) (by walk_at "size") ?_)
  | ((with_reducible show wpAny _ _ (call (Value.type "range") [Value.int _ _, Value.int _ _, Value.int _ _]) _ _ _); (with_reducible rename Cx _ _ _ _ _ => C); with_reducible refine r_range3 C (by decide) (by decide) ?_; clear C; intro a h _ _ _ _ C)
  | walk_at "m2")
local macro_rules | `(tactic| walk_at "slice") => `(tactic| with_reducible refine r_subslice ?_)
local macro_rules | `(tactic| walk_at "get") => `(tactic| ((with_reducible rename Cx _ _ _ _ _ => C); first | exact Cx.old C (by with_reducible assumption) | exact Cx.at C (by walk_at "mem")))
local macro_rules | `(tactic| walk_at "mem") => `(tactic| ((repeat (first | with_reducible exact List.mem_cons_self | with_reducible refine List.mem_cons_of_mem _ ?_)); done))
local macro_rules | `(tactic| walk_at "upd") => `(tactic| first | with_reducible exact UpdAt.head | with_reducible exact UpdAt.tail (UpdAt.head) | with_reducible exact UpdAt.tail (UpdAt.tail (UpdAt.head)) | with_reducible exact UpdAt.tail (UpdAt.tail (UpdAt.tail (UpdAt.head))) | with_reducible exact UpdAt.tail (UpdAt.tail (UpdAt.tail (UpdAt.tail (UpdAt.head)))) | with_reducible exact UpdAt.tail (UpdAt.tail (UpdAt.tail (UpdAt.tail (UpdAt.tail (UpdAt.head))))) | with_reducible exact UpdAt.tail (UpdAt.tail (UpdAt.tail (UpdAt.tail (UpdAt.tail (UpdAt.tail (UpdAt.head)))))) | with_reducible exact UpdAt.tail (UpdAt.tail (UpdAt.tail (UpdAt.tail (UpdAt.tail (UpdAt.tail (UpdAt.tail (UpdAt.head))))))) | with_reducible exact UpdAt.tail (UpdAt.tail (UpdAt.tail (UpdAt.tail (UpdAt.tail (UpdAt.tail (UpdAt.tail (UpdAt.tail (UpdAt.head)))))))) | with_reducible exact UpdAt.tail (UpdAt.tail (UpdAt.tail (UpdAt.tail (UpdAt.tail (UpdAt.tail (UpdAt.tail (UpdAt.tail (UpdAt.tail (UpdAt.head))))))))) | with_reducible exact UpdAt.tail (UpdAt.tail (UpdAt.tail (UpdAt.tail (UpdAt.tail (UpdAt.tail (UpdAt.tail (UpdAt.tail (UpdAt.tail (UpdAt.tail (UpdAt.head)))))))))) | with_reducible exact UpdAt.tail (UpdAt.tail (UpdAt.tail (UpdAt.tail (UpdAt.tail (UpdAt.tail (UpdAt.tail (UpdAt.tail (UpdAt.tail (UpdAt.tail (UpdAt.tail (UpdAt.head))))))))))))
local macro_rules | `(tactic| walk_at "size") => `(tactic| first | omega | (simp only [List.length_cons, List.length_nil, List.length_append, List.length_map]; omega) | (simp; omega))
local macro_rules | `(tactic| walk_at "m2") => `(tactic| fail "no step")
local macro_rules | `(tactic| walk_at "hh") => `(tactic| (first | with_reducible assumption | (rename Around.handled _ = none => hh; with_unfolding_all exact hh)))
local macro_rules | `(tactic| walk_at "ints") => `(tactic| (first | with_reducible assumption | exact sp_ints (by with_reducible assumption) _ _))

local macro_rules | `(tactic| walk_at "depth") => `(tactic| first | omega | (show Around.depth _ + 1 < _; omega))
local macro_rules | `(tactic| walk_at "mul") => `(tactic| first | exact IntMulOk.of_left (intBits_le_64 (by omega) (by omega)) | exact IntMulOk.of_right (intBits_le_64 (by omega) (by omega)))
local macro_rules | `(tactic| walk_at "mem") => `(tactic| ((repeat (first | with_reducible exact List.mem_cons_self | with_reducible assumption | with_reducible refine List.mem_cons_of_mem _ ?_)); done))
local macro_rules | `(tactic| walk_at "c") => `(tactic| first
  | ((with_reducible show wpC _ _ (execs (_ :: _) _) _ _ _); with_reducible refine c_cons ?_)
  | ((with_reducible show wpC _ _ (execs [] _) _ _ _); refine wpC_pure ?_)
  | ((with_reducible show wpC _ _ (exec (Stmt.If _ _ _ _) _) _ _ _); with_reducible refine c_If ?_)
  | ((with_reducible show wpC _ _ (isTrue (Expr.Compare (Expr.Call (Expr.Name (Str.ofString "generate_generalized_integer") _) _ _ _) _ _ _) _ _) _ _ _); with_reducible refine c_isCmp ?_)
  | ((with_reducible show wpC _ _ (isTrue (Expr.Compare (Expr.Call (Expr.Name (Str.ofString "_law_written") _) _ _ _) _ _ _) _ _) _ _ _); with_reducible refine c_isCmp ?_)
  | ((with_reducible show wpC _ _ (isTrue (Expr.BoolOp BoolOp.Or (_ :: _) _) _ _) _ _ _); with_reducible refine c_isOr ?_)
  | ((with_reducible show wpC _ _ (eval (Expr.Call (Expr.Attribute (Expr.Call _ _ _ _) _ _) _ _ _) _) _ _ _); with_reducible refine c_mcallR ?_)
  | ((with_reducible show wpC _ _ (eval (Expr.Call (Expr.Name _ _) _ _ _) _) _ _ _); with_reducible refine c_CallN ?_)
  | ((with_reducible show wpC _ _ (callWith _ (Value.ref _) [] (backTo _ (starEach (_ :: _) _)) []) _ _ _); with_reducible refine c_callf (by with_reducible assumption) ?_)
  | ((with_reducible show Kp _ _ ∧ wpC _ _ (call _ _) _ _ _); (with_reducible rename Cx _ _ _ _ _ => C); refine ⟨Cx.keep C, ?_⟩)
  | ((with_reducible show wpAny _ _ (getMethod (Value.bytes _ _) (Str.ofString "upper") _) _ _ _); with_reducible refine r_getUpper ?_; dsimp only)
  | ((with_reducible show wpC _ _ (isTrue _ _ _) _ _ _); with_reducible refine wpC_of ?_)
  | ((with_reducible show wpC _ _ (exec (Stmt.Assign _ _ _) _) _ _ _); with_reducible refine wpC_of ?_)
  | ((with_reducible show wpC _ _ (exec (Stmt.AugAssign _ _ _ _) _) _ _ _); with_reducible refine wpC_of ?_)
  | ((with_reducible show wpC _ _ (exec (Stmt.Return _ _) _) _ _ _); with_reducible refine wpC_of ?_)
  | ((with_reducible show wpC _ _ (exec (Stmt.Expr _ _) _) _ _ _); with_reducible refine wpC_of ?_))
local macro_rules | `(tactic| walk_at "m2") => `(tactic| first
  | ((with_reducible show wpAny _ _ (eval (Expr.Name (Str.ofString "rows") _) _) _ _ _); (with_reducible rename Cx _ _ _ _ _ => C); with_reducible refine nm_c (c := _ + 1) C (by walk_at "mem") (by kernel_rfl) ?_)
  | ((with_reducible show wpAny _ _ (eval (Expr.Name (Str.ofString "cut") _) _) _ _ _); (with_reducible rename Cx _ _ _ _ _ => C); with_reducible refine nm_c (c := _ + 2) C (by walk_at "mem") (by kernel_rfl) ?_)
  | ((with_reducible show wpAny _ _ (exec (Stmt.Assign [Expr.Subscript _ _ _] _ _) _) _ _ _); with_reducible refine wpAny_Assign_Subscript ?_ (by kernel_rfl))
  | ((with_reducible show wpAny _ _ (compareOp CmpOp.Is (Value.ref _) Value.none) _ _ _); with_reducible refine r_isR ?_)
  | ((with_reducible show wpAny _ _ (eval (Expr.Name _ _) _) _ _ _); (with_reducible rename Cx _ _ _ _ _ => C); first | with_reducible refine nm_c C (by walk_at "mem") (by kernel_rfl) ?_ | with_reducible refine nm_f C (by walk_at "mem") (by kernel_rfl) ?_)
  | ((with_reducible show wpAny _ _ (loadName _ _) _ _ _); (with_reducible rename Cx _ _ _ _ _ => C); with_reducible refine ldn_c C (by walk_at "mem") (by kernel_rfl) ?_)
  | ((with_reducible show wpAny _ _ (call (Value.ref _) [Value.int _ _, Value.int _ _]) _ _ _); (with_reducible rename Cx _ _ _ _ _ => C); (with_reducible rename Gl _ _ _ => G); refine T_spec (Gl.kp G (Cx.keep C)) (Fn.kp (by with_reducible assumption) (Cx.keep C)) (by walk_at "depth") ?_; intro h t _ hk; replace C := Cx.grown C hk)
  | ((with_reducible show wpAny _ _ (binaryOp Operator.Add (Value.ref _) (Value.ref _)) _ _ _); (with_reducible rename Cx _ _ _ _ _ => C); with_reducible refine r_addL C (by walk_at "get") (by walk_at "get") (by walk_at "size") ?_; clear C; intro a h C)
  | walk_at "c")
local macro_rules | `(tactic| walk_at "w") => `(tactic| first
  | ((with_reducible show wpAny _ _ (storeName _ (Str.ofString "rows") _) _ _ _); (with_reducible rename Cx _ _ _ _ _ => C); with_reducible refine st_c C (by walk_at "upd") (by kernel_rfl) ?_; clear C; intro h C)
  | walk_at "m")

theorem paired_eq {xs ys : List Value} (h : Paired (fun v y => y = v) xs ys) : ys = xs := by
  induction h with
  | nil => rfl
  | cons h1 _ ih => rw [h1, ih]
theorem filt_ints {us : List Value} {xs : List Int} {p : Value → Bool} {q : Int → Bool} (h : IntsAre us xs) (hpq : ∀ x t, p (.int x t) = q x) : IntsAre (us.filter p) (xs.filter q) := by
  induction h with
  | nil => exact .nil
  | cons n t _ ih =>
    rw [List.filter_cons, List.filter_cons, hpq]
    split
    · exact .cons _ _ ih
    · exact ih
theorem idx_ints {us : List Value} {n : Nat} (hl : us.length = n) (h : ∀ (j : Nat) v, us[j]? = some v → ∃ t, v = .int (0 + (j : Int) * 1) t) : IntsAre us ((List.range n).map fun k : Nat => (k : Int)) := by
  refine r_compB.ints_of_get (by simp [hl]) fun j v hv => ?_
  obtain ⟨t, rfl⟩ := h j v hv
  have hj : j < n := by rw [← hl]; exact (List.getElem?_eq_some_iff.mp hv).1
  refine ⟨_, t, ?_, rfl⟩
  rw [List.getElem?_map, List.getElem?_range hj]
  simp
/-- which rows are long enough -/
def longs (ls : List (List Int)) (c : Nat) (x : Int) : Bool := decide ((c : Int) < ((ls.getD x.toNat []).length : Int))
def turnsOf (ls : List (List Int)) (c : Nat) : List Nat := (List.range ls.length).filter fun k => longs ls c (k : Int)
theorem turnsOf_in {ls : List (List Int)} {c : Nat} : ∀ k ∈ turnsOf ls c, k < ls.length ∧ c < (ls.getD k []).length := by
  intro k hk
  obtain ⟨h1, h2⟩ := List.mem_filter.mp hk
  refine ⟨List.mem_range.mp h1, ?_⟩
  have := of_decide_eq_true h2
  rw [Int.toNat_natCast] at this
  omega
theorem turnsOf_len (ls : List (List Int)) (c : Nat) : (turnsOf ls c).length ≤ ls.length := by
  have := List.length_filter_le (fun k : Nat => longs ls c (k : Int)) (List.range ls.length)
  rwa [List.length_range] at this
theorem turnsOf_ints {ls : List (List Int)} {c : Nat} {us : List Value} {p : Value → Bool} (hl : us.length = ls.length) (h : ∀ (j : Nat) v, us[j]? = some v → ∃ t, v = .int (0 + (j : Int) * 1) t) (hpq : ∀ x t, p (.int x t) = longs ls c x) :
    IntsAre (us.filter p) ((turnsOf ls c).map fun k : Nat => (k : Int)) := by
  have := filt_ints (idx_ints hl h) hpq
  rw [List.filter_map] at this
  exact this
/-- the swaps -/
theorem swaps7 {prog : Program} {w : World} {A : Around} {h₀ h : Heap} {mg mb m : Str → Option Value} {L : Addr} {news : List (Addr × Obj)}
  {g : Array GenState} {d : Drawn} {t : Nat} {o : OsState} {Q : Flow → Shared → Prop} {aT aD aG aR aV a fr du fa ta ra na : Addr} {cT cD cG cR cV cd : Value} {ob1 ob2 : Obj} {fv dv frv tv rv nv : List Value} {e1 e2 e3 e4 e5 e6 c : Nat} {bias : Int} {tb td tc : Tok} {T : List Nat} {ls : List (List Int)} {ns : List Int} {body : List Stmt}
  (G : Gl mg mb h₀) (fT : FT mg h₀ aT cT) (fD : FD mg h₀ aD cD) (fG : FG mg h₀ aG cG) (fR : FR mg h₀ aR cR) (fV : FV mg h₀ aV cV) (nDg : mg (Str.ofString "digits") = some (.bytes LOWS td)) (hd : A.depth + 12 < recursionLimit) (hh : A.handled = none) (hu : A.units + 85 < cLine) (hg : A.guards = some [])
  (C : Cx h₀ L h m ((fr, lst fv e1) :: (du, lst dv e2) :: (fa, lst frv e3) :: (ta, lst tv e4) :: (ra, lst rv e5) :: (na, lst nv e6) :: (L + 1, celO ob1 (some (.ref ra))) :: (L + 2, celO ob2 (some (.int (c : Int) tc))) :: news))
  (hm : Has m [(Str.ofString "bias", .int bias tb), (Str.ofString "numbers", .ref na), (Str.ofString "turn", .ref ta), (Str.ofString "fronts", .ref fa), (Str.ofString "fresh", .ref fr), (Str.ofString "due", .ref du)])
  (hT : ∀ k ∈ T, k < ls.length ∧ c < (ls.getD k []).length) (htv : IntsAre tv (T.map fun k : Nat => (k : Int))) (hfrv : IntsAre frv (T.map fun k => frt bias 0 c (ls.getD k [])))
  (hrv : RowsAre rv ls) (hnv : IntsAre nv ns) (hs : Gs bias ns ls) (hfv : RowsAre fv ls) (hdv : IntsAre dv ns) (hTl : T.length ≤ 100) (hl : ls.length ≤ 100)
  (k : ∀ m' h' t' ra' na' rv' nv' e5' e6' ls' ns', Cx h₀ L h' m' ((ra', lst rv' e5') :: (na', lst nv' e6') :: (L + 1, celO ob1 (some (.ref ra'))) :: (L + 2, celO ob2 (some (.int (c : Int) tc))) :: news) →
    Has m' [(Str.ofString "bias", .int bias tb), (Str.ofString "numbers", .ref na')] → RowsAre rv' ls' → IntsAre nv' ns' → Gs bias ns' ls' → ls'.length = ls.length → Q .next ⟨h', g, d, t', o⟩)
  (hb : body = cutB.drop 5 := by kernel_rfl) :
  wpC (model prog w) A (execs body (envOfC (sName dW) (sScope dW) L a cd)) Q (fun _ _ => False) ⟨h, g, d, t, o⟩ := by
  subst hb
  have htl := htv.length
  rw [List.length_map] at htl
  rw [hm.eq] at C
  clear hm
  conv in (execs _ _) => arg 1; whnf
  show wpC _ _ (execs (_ :: List.drop 6 cutB) _) _ _ _
  repeat walk_at "w"
  refine r_forC ?_
  repeat walk_at "w"
  rename Cx _ _ _ _ _ => C
  have hr1 : Builtin.Range.rangeSize 0 ((tv.length : Nat) : Int) 1 = ((tv.length : Nat) : Int) := rangeS tv.length
  refine r_iterRC (C.sub (List.sublist_cons_self _ _)) (fun i m news' => ∃ fv dv ls' ns', Has m [(Str.ofString "bias", .int bias tb), (Str.ofString "numbers", .ref na), (Str.ofString "turn", .ref ta), (Str.ofString "fronts", .ref fa), (Str.ofString "fresh", .ref fr), (Str.ofString "due", .ref du)] ∧
      RowsAre fv ls' ∧ IntsAre dv ns' ∧ Gs bias ns' ls' ∧ ls'.length = ls.length ∧
      news' = (fr, lst fv e1) :: (du, lst dv e2) :: (fa, lst frv e3) :: (ta, lst tv e4) :: (ra, lst rv e5) :: (na, lst nv e6) :: (L + 1, celO ob1 (some (.ref ra))) :: (L + 2, celO ob2 (some (.int (c : Int) tc))) :: news)
    (C.get _ (.head _)) (range_small (by omega) (by omega) (by omega) (by omega) (by omega) _ hr1 (by omega)) hr1 hh ?_ ?_ ?_
  · exact ⟨fv, dv, ls, ns, ⟨rfl, rfl, rfl, rfl, rfl, rfl, trivial⟩, hfv, hdv, hs, rfl, rfl⟩
  · clear C
    rintro i tv' it io h t m news' hi C ⟨fv, dv, ls', ns', hm, hfv, hdv, hs', hl', rfl⟩
    rename Gl _ _ _ => G
    rw [hm.eq, show (0 : Int) + (i : Int) * 1 = (i : Int) from by omega] at C
    refine swap7 G C ⟨rfl, rfl, rfl, rfl, rfl, rfl, rfl, trivial⟩ hT htv hfrv hrv hnv hs hfv hdv hs' hl' (by omega) hTl hl ?_
    intro m' h' t' fv' dv' ls2 ns2 C' hm' hfv' hdv' hs2 hl2
    exact TurnF.go C' ⟨fv', dv', ls2, ns2, hm', hfv', hdv', hs2, hl2, rfl⟩
  · clear C
    rintro h t m news' C ⟨fv, dv, ls', ns', hm, hfv, hdv, hs', hl', rfl⟩
    rw [hm.eq] at C
    rename Gl _ _ _ => G
    dsimp only
    refine look7 (news := news) G fT fD fG fR fV nDg hd hh hu hg (C.sub (.cons_cons _ (.cons_cons _ (.cons _ (.cons _ (.cons _ (.cons _ (.refl _)))))))) ⟨rfl, rfl, rfl, trivial⟩ hfv hdv hs' (by omega) ?_
    intro m' h' t' C' hm'
    exact k m' h' t' fr du fv dv e1 e2 ls' ns' C' hm' hfv hdv hs' hl'
end Mine

namespace Mine
open PySem PySem.W PyProof.Rows PySem.Calls PyProof.Rows.TI
set_option maxRecDepth 100000
set_option linter.unusedVariables false
set_option maxHeartbeats 4000000
local macro_rules | `(tactic| walk_at "m") => `(tactic| first
  | ((with_reducible show wpAny _ _ (execs (_ :: _) _) _ _ _); with_reducible refine wpAny_execs_cons ?_)
  | ((with_reducible show wpAny _ _ (exec (Stmt.Assign [Expr.Name _ _] _ _) _) _ _ _); with_reducible refine wpAny_Assign_Name ?_ (by kernel_rfl))
  | ((with_reducible show wpAny _ _ (exec (Stmt.AugAssign (Expr.Name _ _) _ _ _) _) _ _ _); with_reducible refine wpAny_AugAssign_Name ?_)
  | ((with_reducible show wpAny _ _ (exec (Stmt.If _ _ _ _) _) _ _ _); with_reducible refine wpAny_If ?_)
  | ((with_reducible show wpAny _ _ (exec (Stmt.Return (some _) _) _) _ _ _); with_reducible refine wpAny_Return_some ?_)
  | ((with_reducible show wpAny _ _ (eval (Expr.Name _ _) _) _ _ _); (with_reducible rename Cx _ _ _ _ _ => C); first | with_reducible refine nm_l C (by with_unfolding_all exact rfl) ?_ | (with_reducible rename Gl _ _ _ => G); first | with_reducible refine nm_g C G (by with_reducible assumption) ?_ | with_reducible refine nm_b C G (Gl.nob G _ (by decide +kernel)) (by with_reducible first | exact bb_len | exact bb_sum | exact bb_range | exact bb_ord | exact bb_chr | exact bb_bytes | exact bb_bytearray | exact bb_min | exact bb_max | exact bb_sorted | exact bb_isinstance | exact bb_bool | exact bb_divmod | exact bb_abs | exact bb_list | exact bb_zip | exact bb_str | exact bb_IndexError | exact bb_UDE) ?_)
  | ((with_reducible show wpAny _ _ (loadName _ _) _ _ _); (with_reducible rename Cx _ _ _ _ _ => C); with_reducible refine ldn_l C (by with_unfolding_all exact rfl) ?_)
  | ((with_reducible show wpAny _ _ (storeName _ _ _) _ _ _); (with_reducible rename Cx _ _ _ _ _ => C); with_reducible refine st_l C ?_; clear C; intro h t C)
  | ((with_reducible show wpAny _ _ (eval (Expr.Constant (Const.int _) _ _) _) _ _ _); with_reducible refine r_int ?_; intro _ _)
  | ((with_reducible show wpAny _ _ (eval (Expr.Constant (Const.str _) _ _) _) _ _ _); with_reducible refine r_str ?_; intro _ _)
  | ((with_reducible show wpAny _ _ (eval (Expr.Constant (Const.bytes _) _ _) _) _ _ _); with_reducible refine r_bytes ?_; intro _ _)
  | ((with_reducible show wpAny _ _ (eval (Expr.Constant Const.none _ _) _) _ _ _); with_reducible refine r_none ?_)
  | ((with_reducible show wpAny _ _ (eval (Expr.Constant (Const.bool _) _ _) _) _ _ _); with_reducible refine r_bool ?_)
  | ((with_reducible show wpAny _ _ (eval (Expr.BinOp _ _ _ _) _) _ _ _); with_reducible refine wpAny_BinOp ?_)
  | ((with_reducible show wpAny _ _ (eval (Expr.Compare _ [_] [_] _) _) _ _ _); with_reducible refine wpAny_Compare1 ?_ (by kernel_rfl))
  | ((with_reducible show wpAny _ _ (isTrue (Expr.Compare _ [_] [_] _) _ _) _ _ _); with_reducible refine wpAny_isTrue_Compare1 ?_ (by kernel_rfl))
  | ((with_reducible show wpAny _ _ (truthy (Value.bool _)) _ _ _); with_reducible refine wpAny_truthy_bool ?_)
  | ((with_reducible show wpAny _ _ (truthy (Value.int _ _)) _ _ _); with_reducible refine r_tint ?_)
  | ((with_reducible show wpAny _ _ (binaryOp Operator.Add (Value.int _ _) (Value.int _ _)) _ _ _); with_reducible refine r_add ?_; intro _ _)
  | ((with_reducible show wpAny _ _ (binaryOp Operator.Sub (Value.int _ _) (Value.int _ _)) _ _ _); with_reducible refine r_sub ?_; intro _ _)
  | ((with_reducible show wpAny _ _ (binaryOp Operator.Mult (Value.int _ _) (Value.int _ _)) _ _ _); with_reducible refine r_mul (by first | exact IntMulOk.of_left (by decide) | exact IntMulOk.of_right (by decide) | walk_at "mul") ?_; intro _ _)
  | ((with_reducible show wpAny _ _ (binaryOp Operator.FloorDiv (Value.int _ _) (Value.int _ _)) _ _ _); with_reducible refine r_div (by omega) (by omega) ?_; intro _ _)
  | ((with_reducible show wpAny _ _ (binaryOp Operator.Mod (Value.int _ _) (Value.int _ _)) _ _ _); with_reducible refine r_mod (by omega) (by omega) ?_; intro _ _)
  | ((with_reducible show wpAny _ _ (inplaceOp Operator.Add (Value.int _ _) (Value.int _ _)) _ _ _); with_reducible refine r_iadd ?_; intro _ _)
  | ((with_reducible show wpAny _ _ (inplaceOp Operator.Mult (Value.int _ _) (Value.int _ _)) _ _ _); with_reducible refine r_imul (by first | exact IntMulOk.of_left (by decide) | exact IntMulOk.of_right (by decide) | walk_at "mul") ?_; intro _ _)
  | ((with_reducible show wpAny _ _ (compareOp CmpOp.Eq (Value.int _ _) (Value.int _ _)) _ _ _); with_reducible refine r_eq ?_)
  | ((with_reducible show wpAny _ _ (compareOp CmpOp.NotEq (Value.int _ _) (Value.int _ _)) _ _ _); with_reducible refine r_ne ?_)
  | ((with_reducible show wpAny _ _ (compareOp CmpOp.Lt (Value.int _ _) (Value.int _ _)) _ _ _); with_reducible refine r_lt ?_)
  | ((with_reducible show wpAny _ _ (compareOp CmpOp.LtE (Value.int _ _) (Value.int _ _)) _ _ _); with_reducible refine r_le ?_)
  | ((with_reducible show wpAny _ _ (compareOp CmpOp.Gt (Value.int _ _) (Value.int _ _)) _ _ _); with_reducible refine r_gt ?_)
  | ((with_reducible show wpAny _ _ (compareOp CmpOp.GtE (Value.int _ _) (Value.int _ _)) _ _ _); with_reducible refine r_ge ?_)
  | ((with_reducible show wpAny _ _ (execs [] _) _ _ _); refine wpAny_pure ?_)
  | ((with_reducible show wpAny _ _ (exec (Stmt.Try _ (_ :: _) _ [] _) _) _ _ _); with_reducible refine wpAny_Try_except ?_)
  | ((with_reducible show wpAny _ _ (isTrue (Expr.Compare _ (_ :: _ :: _) (_ :: _ :: _) _) _ _) _ _ _); with_reducible refine isTrue_chain ?_ (by kernel_rfl))
  | ((with_reducible show wpAny _ _ (testChain _ _ (_ :: _ :: _) (_ :: _ :: _)) _ _ _); with_reducible refine test_link ?_)
  | ((with_reducible show wpAny _ _ (testChain _ _ [_] _) _ _ _); with_reducible refine t_last ?_)
  | ((with_reducible show wpAny _ _ (isTrue (Expr.BoolOp BoolOp.And (_ :: _) _) _ _) _ _ _); with_reducible refine isTrue_and ?_)
  | ((with_reducible show wpAny _ _ (isTrue (Expr.BoolOp BoolOp.And [] _) _ _) _ _ _); with_reducible refine isTrue_and_nil ?_)
  | ((with_reducible show wpAny _ _ (isTrue (Expr.BoolOp BoolOp.Or (_ :: _) _) _ _) _ _ _); with_reducible refine isTrue_or ?_)
  | ((with_reducible show wpAny _ _ (isTrue (Expr.BoolOp BoolOp.Or [] _) _ _) _ _ _); with_reducible refine isTrue_or_nil ?_)
  | ((with_reducible show wpAny _ _ (isTrue (Expr.UnaryOp UnaryOp.Not _ _) _ _) _ _ _); with_reducible refine isTrue_not ?_)
  | ((with_reducible show wpAny _ _ (isTrue (Expr.Constant _ _ _) _ _) _ _ _); with_reducible refine isTrue_plain ?_ (by kernel_rfl))
  | ((with_reducible show wpAny _ _ (isTrue (Expr.Call _ _ _ _) _ _) _ _ _); with_reducible refine isTrue_plain ?_ (by kernel_rfl))
  | ((with_reducible show wpAny _ _ (isTrue (Expr.Name _ _) _ _) _ _ _); with_reducible refine isTrue_plain ?_ (by kernel_rfl))
  | ((with_reducible show wpAny _ _ (eval (Expr.IfExp _ _ _ _) _) _ _ _); with_reducible refine IfExp_ ?_)
  | ((with_reducible show wpAny _ _ (eval (Expr.Tuple _ _ _) _) _ _ _); with_reducible refine Tuple_ ?_)
  | ((with_reducible show wpAny _ _ (eval (Expr.List _ _) _) _ _ _); with_reducible refine List_ ?_)
  | ((with_reducible show wpAny _ _ (eval (Expr.Subscript _ (Expr.Slice _ _ none _) _) _) _ _ _); walk_at "slice")
  | ((with_reducible show wpAny _ _ (eval (Expr.Subscript _ _ _) _) _ _ _); with_reducible refine Subscript_ ?_)
  | ((with_reducible show wpAny _ _ (evalPart none _) _ _ _); with_reducible refine evalPart_none_step ?_)
  | ((with_reducible show wpAny _ _ (evalPart (some _) _) _ _ _); with_reducible refine evalPart_some_step ?_)
  | ((with_reducible show SliceOn _ _ _ _ _ (Value.ref _) _ _ _ _ _); (with_reducible rename Cx _ _ _ _ _ => C); with_reducible refine r_slice C (by walk_at "get") (by first | exact IsPart.none | exact IsPart.int _ _) (by first | exact IsPart.none | exact IsPart.int _ _) (by walk_at "size") ?_; clear C; intro a h C)
  | ((with_reducible show wpAny _ _ (eval (Expr.Call (Expr.Name _ _) _ [] _) _) _ _ _); with_reducible refine Call_ ?_ (by kernel_rfl))
  | ((with_reducible show wpAny _ _ (callWith _ (Value.ref _) [] (backTo _ (starEach (_ :: _) _)) []) _ _ _); with_reducible refine r_callf (by with_reducible assumption) ?_)
  | ((with_reducible show wpAny _ _ (callWith _ (Value.builtin _) [] (backTo _ (starEach (_ :: _) _)) []) _ _ _); with_reducible refine callWith_builtin1 ?_ (by kernel_rfl) (by kernel_rfl))
  | ((with_reducible show wpAny _ _ (callWith _ (Value.type _) [] (backTo _ (starEach (_ :: _) _)) []) _ _ _); with_reducible refine PyProof.Rows.callWith_type1 ?_ (by kernel_rfl) (by kernel_rfl))
  | ((with_reducible show wpAny _ _ (spliced (backTo _ (starEach (_ :: _) _))) _ _ _); with_reducible refine args_cons ?_ (by kernel_rfl))
  | ((with_reducible show wpAny _ _ (spliced (backTo _ (starEach [] _))) _ _ _); with_reducible refine args_nil ?_)
  | ((with_reducible show Kp _ _ ∧ wpAny _ _ (call _ _) _ _ _); (with_reducible rename Cx _ _ _ _ _ => C); refine ⟨Cx.keep C, ?_⟩)
  | ((with_reducible show wpAny _ _ (newTuple _) _ _ _); (with_reducible rename Cx _ _ _ _ _ => C); with_reducible refine r_newTuple C (by size_fits) ?_; clear C; intro a h C)
  | ((with_reducible show wpAny _ _ (newList _) _ _ _); (with_reducible rename Cx _ _ _ _ _ => C); with_reducible refine r_newList C (by size_fits) ?_; clear C; intro a h C)
  | ((with_reducible show if true = true then _ else _); with_reducible refine ite_t ?_)
  | ((with_reducible show if false = true then _ else _); with_reducible refine ite_f ?_)
  | ((with_reducible show if decide _ = true then _ else _); first | with_reducible refine ite_yes (by first | assumption | omega | decide) ?_ | with_reducible refine ite_no (by first | assumption | omega | decide) ?_)
  | ((with_reducible show wpAny _ _ (exec (Stmt.Expr _ _) _) _ _ _); with_reducible refine wpAny_Expr ?_ (by kernel_rfl) (by kernel_rfl))
  | ((with_reducible show wpAny _ _ (eval (Expr.Call (Expr.Attribute _ _ _) _ [] _) _) _ _ _); with_reducible refine r_mcall ?_)
  | ((with_reducible show wpAny _ _ (getMethod (Value.ref _) (Str.ofString "append") _) _ _ _); with_reducible refine r_getAppend (by walk_at "get") ?_; dsimp only)
  | ((with_reducible show wpAny _ _ (callWith _ (Value.builtin _) [_] (backTo _ (starEach (_ :: _) _)) []) _ _ _); with_reducible refine r_method1 ?_)
  | ((with_reducible show wpAny _ _ (callWith _ (Value.builtin _) [_] (backTo _ (starEach [] _)) []) _ _ _); with_reducible refine callWith_method0 ?_)
  | ((with_reducible show wpAny _ _ (call _ (_ ++ _)) _ _ _); simp only [List.cons_append, List.nil_append])
  | ((with_reducible show wpAny _ _ (call (Value.builtin "list.append") [Value.ref _, _]) _ _ _); (with_reducible rename Cx _ _ _ _ _ => C); with_reducible refine r_append C (by walk_at "upd") (by walk_at "size") ?_; clear C; intro h C)
  | ((with_reducible show wpAny _ _ (call (Value.builtin "len") [Value.ref _]) _ _ _); with_reducible refine r_len (by walk_at "get") (by walk_at "size") ?_; intro _ _)
  | ((with_reducible show wpAny _ _ (call (Value.builtin "len") [Value.bytes _ _]) _ _ _); with_reducible refine r_lenB (by walk_at "size") ?_; intro _ _)
  | ((with_reducible show wpAny _ _ (call (Value.builtin "isinstance") [Value.int _ _, Value.type "bool"]) _ _ _); with_reducible refine r_isiI ?_; intro _)
  | ((with_reducible show wpAny _ _ (call (Value.builtin "isinstance") [Value.none, Value.type "bool"]) _ _ _); with_reducible refine r_isiN ?_; intro _)
  | ((with_reducible show wpAny _ _ (eval (Expr.UnaryOp _ _ _) _) _ _ _); with_reducible refine UnaryOp_ ?_)
  | ((with_reducible show wpAny _ _ (unaryOp UnaryOp.USub (Value.int _ _)) _ _ _); with_reducible refine r_neg ?_; intro _ _)
  | ((with_reducible show wpAny _ _ (call (Value.type "range") [Value.int _ _]) _ _ _); (with_reducible rename Cx _ _ _ _ _ => C); with_reducible refine r_range1 C ?_; clear C; intro a h _ _ _ _ C)
  | ((with_reducible show wpAny _ _ (call (Value.type "range") [Value.int _ _, Value.int _ _]) _ _ _); (with_reducible rename Cx _ _ _ _ _ => C); with_reducible refine r_range2 C ?_; clear C; intro a h _ _ _ _ C)
  | ((with_reducible show wpAny _ _ (subscriptTail _ _ (Value.str (Str.ofString "ABCDEFGHIJKLMNOPQRSTUVWXYZ0123456789") _) (Value.int _ _)) _ _ _); with_reducible refine r_sgn (by omega) (by omega) ?_; intro _ _)
  | ((with_reducible show wpAny _ _ (call (Value.builtin "ord") [Value.str (Str.mk #[Int.toNat (sgn _)]) _]) _ _ _); with_reducible refine r_ordS (by omega) (by omega) ?_; intro _ _)
  | ((with_reducible show wpAny _ _ (call (Value.builtin "sum") [Value.ref _]) _ _ _); (with_reducible rename Cx _ _ _ _ _ => C); with_reducible refine r_sum C (by walk_at "hh") (by walk_at "get") (by walk_at "ints") ?_; clear C; intro h _ _ C)
  | ((with_reducible show wpAny _ _ (compareOp CmpOp.Eq (Value.str _ _) (Value.str _ _)) _ _ _); first | with_reducible refine r_eqSF (by with_reducible assumption) ?_ | with_reducible refine r_eqST (by first | with_reducible assumption | rfl) ?_)
  | ((with_reducible show wpAny _ _ (exec (Stmt.Assign [Expr.Tuple _ _ _] _ _) _) _ _ _); with_reducible refine PyProof.Rows.Assign_Tuple ?_ (by kernel_rfl) (by kernel_rfl))
  | ((with_reducible show wpAny _ _ (assign (Expr.Tuple [Expr.Name _ _, Expr.Name _ _] _ _) _ (Value.ref _)) _ _ _); (with_reducible rename Cx _ _ _ _ _ => C); with_reducible refine r_unpack2 C (by walk_at "get") (by walk_at "hh") ?_; clear C; intro h C)
  | ((with_reducible show wpAny _ _ (getMethod (Value.str _ _) (Str.ofString "find") _) _ _ _); with_reducible refine r_getFind ?_; dsimp only)
  | ((with_reducible show wpAny _ _ (call (Value.builtin "str.find") [Value.str _ _, Value.str (Str.mk #[Int.toNat _]) _]) _ _ _); with_reducible refine r_find (by omega) (by omega) ?_; intro _ _)
  | ((with_reducible show wpAny _ _ (call (Value.builtin "chr") [Value.int _ _]) _ _ _); with_reducible refine r_chr (by omega) (by omega) ?_; intro _ _)
  | ((with_reducible show wpAny _ _ (call (Value.builtin "divmod") [Value.int _ _, Value.int _ _]) _ _ _); (with_reducible rename Cx _ _ _ _ _ => C); with_reducible refine r_divmod C (by omega) (by omega) ?_; clear C; intro _ h _ _ _ C)
  | ((with_reducible show wpAny _ _ (compareOp CmpOp.Is (Value.int _ _) Value.none) _ _ _); with_reducible refine r_isI ?_)
  | ((with_reducible show wpAny _ _ (compareOp CmpOp.Is Value.none Value.none) _ _ _); with_reducible refine r_isNN ?_)
  | ((with_reducible show wpAny _ _ (compareOp CmpOp.IsNot (Value.int _ _) Value.none) _ _ _); with_reducible refine r_isNotI ?_)
  | ((with_reducible show wpAny _ _ (compareOp CmpOp.IsNot Value.none Value.none) _ _ _); with_reducible refine r_isNotN ?_)
  | ((with_reducible show wpAny _ _ (subscriptTail _ _ (Value.ref _) (Value.int _ _)) _ _ _); with_reducible refine r_tit (by walk_at "get") (by decide) (by with_unfolding_all exact rfl) (by walk_at "size") ?_)
  | ((with_reducible show wpAny _ _ (call (Value.type "range") [Value.int _ _, Value.int _ _, Value.int _ _]) _ _ _); (with_reducible rename Cx _ _ _ _ _ => C); with_reducible refine r_range3 C (by decide) (by decide) ?_; clear C; intro a h _ _ _ _ C)
  | walk_at "m2")
local macro_rules | `(tactic| walk_at "slice") => `(tactic| with_reducible refine r_subslice ?_)
local macro_rules | `(tactic| walk_at "get") => `(tactic| ((with_reducible rename Cx _ _ _ _ _ => C); first | exact Cx.old C (by with_reducible assumption) | exact Cx.at C (by walk_at "mem")))
local macro_rules | `(tactic| walk_at "mem") => `(tactic| ((repeat (first | with_reducible exact List.mem_cons_self | with_reducible refine List.mem_cons_of_mem _ ?_)); done))
local macro_rules | `(tactic| walk_at "upd") => `(tactic| first | with_reducible exact UpdAt.head | with_reducible exact UpdAt.tail (UpdAt.head) | with_reducible exact UpdAt.tail (UpdAt.tail (UpdAt.head)) | with_reducible exact UpdAt.tail (UpdAt.tail (UpdAt.tail (UpdAt.head))) | with_reducible exact UpdAt.tail (UpdAt.tail (UpdAt.tail (UpdAt.tail (UpdAt.head)))) | with_reducible exact UpdAt.tail (UpdAt.tail (UpdAt.tail (UpdAt.tail (UpdAt.tail (UpdAt.head))))) | with_reducible exact UpdAt.tail (UpdAt.tail (UpdAt.tail (UpdAt.tail (UpdAt.tail (UpdAt.tail (UpdAt.head)))))) | with_reducible exact UpdAt.tail (UpdAt.tail (UpdAt.tail (UpdAt.tail (UpdAt.tail (UpdAt.tail (UpdAt.tail (UpdAt.head))))))) | with_reducible exact UpdAt.tail (UpdAt.tail (UpdAt.tail (UpdAt.tail (UpdAt.tail (UpdAt.tail (UpdAt.tail (UpdAt.tail (UpdAt.head)))))))) | with_reducible exact UpdAt.tail (UpdAt.tail (UpdAt.tail (UpdAt.tail (UpdAt.tail (UpdAt.tail (UpdAt.tail (UpdAt.tail (UpdAt.tail (UpdAt.head))))))))) | with_reducible exact UpdAt.tail (UpdAt.tail (UpdAt.tail (UpdAt.tail (UpdAt.tail (UpdAt.tail (UpdAt.tail (UpdAt.tail (UpdAt.tail (UpdAt.tail (UpdAt.head)))))))))) | with_reducible exact UpdAt.tail (UpdAt.tail (UpdAt.tail (UpdAt.tail (UpdAt.tail (UpdAt.tail (UpdAt.tail (UpdAt.tail (UpdAt.tail (UpdAt.tail (UpdAt.tail (UpdAt.head))))))))))))
local macro_rules | `(tactic| walk_at "size") => `(tactic| first | omega | (simp only [List.length_cons, List.length_nil, List.length_append, List.length_map]; omega) | (simp; omega))
local macro_rules | `(tactic| walk_at "m2") => `(tactic| fail "no step")
local macro_rules | `(tactic| walk_at "hh") => `(tactic| (first | with_reducible assumption | (rename Around.handled _ = none => hh; with_unfolding_all exact hh)))
local macro_rules | `(tactic| walk_at "ints") => `(tactic| (first | with_reducible assumption | exact sp_ints (by with_reducible assumption) _ _))

local macro_rules | `(tactic| walk_at "depth") => `(tactic| first | omega | (show Around.depth _ + 1 < _; omega))
local macro_rules | `(tactic| walk_at "mul") => `(tactic| first | exact IntMulOk.of_left (intBits_le_64 (by omega) (by omega)) | exact IntMulOk.of_right (intBits_le_64 (by omega) (by omega)))
local macro_rules | `(tactic| walk_at "mem") => `(tactic| ((repeat (first | with_reducible exact List.mem_cons_self | with_reducible assumption | with_reducible refine List.mem_cons_of_mem _ ?_)); done))
local macro_rules | `(tactic| walk_at "c") => `(tactic| first
  | ((with_reducible show wpC _ _ (execs (_ :: _) _) _ _ _); with_reducible refine c_cons ?_)
  | ((with_reducible show wpC _ _ (execs [] _) _ _ _); refine wpC_pure ?_)
  | ((with_reducible show wpC _ _ (exec (Stmt.If _ _ _ _) _) _ _ _); with_reducible refine c_If ?_)
  | ((with_reducible show wpC _ _ (isTrue (Expr.Compare (Expr.Call (Expr.Name (Str.ofString "generate_generalized_integer") _) _ _ _) _ _ _) _ _) _ _ _); with_reducible refine c_isCmp ?_)
  | ((with_reducible show wpC _ _ (isTrue (Expr.Compare (Expr.Call (Expr.Name (Str.ofString "_law_written") _) _ _ _) _ _ _) _ _) _ _ _); with_reducible refine c_isCmp ?_)
  | ((with_reducible show wpC _ _ (isTrue (Expr.BoolOp BoolOp.Or (_ :: _) _) _ _) _ _ _); with_reducible refine c_isOr ?_)
  | ((with_reducible show wpC _ _ (eval (Expr.Call (Expr.Attribute (Expr.Call _ _ _ _) _ _) _ _ _) _) _ _ _); with_reducible refine c_mcallR ?_)
  | ((with_reducible show wpC _ _ (eval (Expr.Call (Expr.Name _ _) _ _ _) _) _ _ _); with_reducible refine c_CallN ?_)
  | ((with_reducible show wpC _ _ (callWith _ (Value.ref _) [] (backTo _ (starEach (_ :: _) _)) []) _ _ _); with_reducible refine c_callf (by with_reducible assumption) ?_)
  | ((with_reducible show Kp _ _ ∧ wpC _ _ (call _ _) _ _ _); (with_reducible rename Cx _ _ _ _ _ => C); refine ⟨Cx.keep C, ?_⟩)
  | ((with_reducible show wpAny _ _ (getMethod (Value.bytes _ _) (Str.ofString "upper") _) _ _ _); with_reducible refine r_getUpper ?_; dsimp only)
  | ((with_reducible show wpC _ _ (isTrue _ _ _) _ _ _); with_reducible refine wpC_of ?_)
  | ((with_reducible show wpC _ _ (exec (Stmt.Assign _ _ _) _) _ _ _); with_reducible refine wpC_of ?_)
  | ((with_reducible show wpC _ _ (exec (Stmt.AugAssign _ _ _ _) _) _ _ _); with_reducible refine wpC_of ?_)
  | ((with_reducible show wpC _ _ (exec (Stmt.Return _ _) _) _ _ _); with_reducible refine wpC_of ?_)
  | ((with_reducible show wpC _ _ (exec (Stmt.Expr _ _) _) _ _ _); with_reducible refine wpC_of ?_))
local macro_rules | `(tactic| walk_at "m2") => `(tactic| first
  | ((with_reducible show wpAny _ _ (eval (Expr.Name (Str.ofString "rows") _) _) _ _ _); (with_reducible rename Cx _ _ _ _ _ => C); with_reducible refine nm_c (c := _ + 1) C (by walk_at "mem") (by kernel_rfl) ?_)
  | ((with_reducible show wpAny _ _ (eval (Expr.Name (Str.ofString "cut") _) _) _ _ _); (with_reducible rename Cx _ _ _ _ _ => C); with_reducible refine nm_c (c := _ + 2) C (by walk_at "mem") (by kernel_rfl) ?_)
  | ((with_reducible show wpAny _ _ (exec (Stmt.Assign [Expr.Subscript _ _ _] _ _) _) _ _ _); with_reducible refine wpAny_Assign_Subscript ?_ (by kernel_rfl))
  | ((with_reducible show wpAny _ _ (compareOp CmpOp.Is (Value.ref _) Value.none) _ _ _); with_reducible refine r_isR ?_)
  | ((with_reducible show wpAny _ _ (eval (Expr.Name _ _) _) _ _ _); (with_reducible rename Cx _ _ _ _ _ => C); first | with_reducible refine nm_c C (by walk_at "mem") (by kernel_rfl) ?_ | with_reducible refine nm_f C (by walk_at "mem") (by kernel_rfl) ?_)
  | ((with_reducible show wpAny _ _ (loadName _ _) _ _ _); (with_reducible rename Cx _ _ _ _ _ => C); with_reducible refine ldn_c C (by walk_at "mem") (by kernel_rfl) ?_)
  | ((with_reducible show wpAny _ _ (call (Value.ref _) [Value.int _ _, Value.int _ _]) _ _ _); (with_reducible rename Cx _ _ _ _ _ => C); (with_reducible rename Gl _ _ _ => G); refine T_spec (Gl.kp G (Cx.keep C)) (Fn.kp (by with_reducible assumption) (Cx.keep C)) (by walk_at "depth") ?_; intro h t _ hk; replace C := Cx.grown C hk)
  | ((with_reducible show wpAny _ _ (binaryOp Operator.Add (Value.ref _) (Value.ref _)) _ _ _); (with_reducible rename Cx _ _ _ _ _ => C); with_reducible refine r_addL C (by walk_at "get") (by walk_at "get") (by walk_at "size") ?_; clear C; intro a h C)
  | walk_at "c")
local macro_rules | `(tactic| walk_at "w") => `(tactic| first
  | ((with_reducible show wpAny _ _ (storeName _ (Str.ofString "rows") _) _ _ _); (with_reducible rename Cx _ _ _ _ _ => C); with_reducible refine st_c C (by walk_at "upd") (by kernel_rfl) ?_; clear C; intro h C)
  | walk_at "m")

theorem rows_pair {ls : List (List Int)} {c : Nat} {us ys : List Value} {T : List Nat} (hi : IntsAre us (T.map fun k : Nat => (k : Int)))
    (hp : Paired (fun v y => ∃ b t, y = Value.bytes b t ∧ KBw.bInts b = ups ((ls.getD (keyV v).toNat []).take c ++ [0])) us ys) : RowsAre ys (T.map fun k => (ls.getD k []).take c ++ [0]) := by
  induction T generalizing us ys with
  | nil => cases hi; cases hp; exact .nil
  | cons k T ih =>
    cases hi with
    | cons n t hr =>
      cases hp with
      | cons h1 h2 =>
        obtain ⟨b, tb, rfl, hb⟩ := h1
        exact .cons _ _ _ hb (ih hr h2)
/-- one cut -/
theorem cut7 {prog : Program} {w : World} {A : Around} {h₀ h : Heap} {mg mb m : Str → Option Value} {L : Addr} {news : List (Addr × Obj)}
  {g : Array GenState} {d : Drawn} {t : Nat} {o : OsState} {Q : Flow → Shared → Prop} {aT aD aG aR aV a ra na : Addr} {cT cD cG cR cV cd : Value} {ob1 ob2 : Obj} {rv nv : List Value} {e5 e6 c : Nat} {bias : Int} {tb td tc : Tok} {ls : List (List Int)} {ns : List Int} {body : List Stmt}
  (G : Gl mg mb h₀) (fT : FT mg h₀ aT cT) (fD : FD mg h₀ aD cD) (fG : FG mg h₀ aG cG) (fR : FR mg h₀ aR cR) (fV : FV mg h₀ aV cV) (nDg : mg (Str.ofString "digits") = some (.bytes LOWS td)) (hd : A.depth + 12 < recursionLimit) (hh : A.handled = none) (hu : A.units + 85 < cLine) (hg : A.guards = some [])
  (C : Cx h₀ L h m ((ra, lst rv e5) :: (na, lst nv e6) :: (L + 1, celO ob1 (some (.ref ra))) :: (L + 2, celO ob2 (some (.int (c : Int) tc))) :: news))
  (hm : Has m [(Str.ofString "bias", .int bias tb), (Str.ofString "numbers", .ref na)])
  (hrv : RowsAre rv ls) (hnv : IntsAre nv ns) (hs : Gs bias ns ls) (hl : ls.length ≤ 100)
  (k : ∀ m' h' t' ra' na' rv' nv' e5' e6' ls' ns', Cx h₀ L h' m' ((ra', lst rv' e5') :: (na', lst nv' e6') :: (L + 1, celO ob1 (some (.ref ra'))) :: (L + 2, celO ob2 (some (.int (c : Int) tc))) :: news) →
    Has m' [(Str.ofString "bias", .int bias tb), (Str.ofString "numbers", .ref na')] → RowsAre rv' ls' → IntsAre nv' ns' → Gs bias ns' ls' → ls'.length = ls.length → Q .next ⟨h', g, d, t', o⟩)
  (hb : body = cutB := by kernel_rfl) :
  wpC (model prog w) A (execs body (envOfC (sName dW) (sScope dW) L a cd)) Q (fun _ _ => False) ⟨h, g, d, t, o⟩ := by
  subst hb
  have nR : mg (Str.ofString "_law_read") = some (.ref aR) := fR.nm
  have hrl := hrv.len
  have hnl := hnv.length
  have hsl := hs.len
  have hTl := turnsOf_len ls c
  have hTin := turnsOf_in (ls := ls) (c := c)
  rw [hm.eq] at C
  clear hm
  conv in (execs _ _) => arg 1; whnf
  show wpC _ _ (execs (_ :: List.drop 1 cutB) _) _ _ _
  refine c_cons (wpC_of ?_)
  refine r_acompR (cl := [(Str.ofString "rows", L + 1), (Str.ofString "cut", L + 2)]) (g := g) (d := d) (o := o) C (fun v => longs ls c (keyV v)) (fun v y => y = v) hh (by kernel_rfl) (by decide +kernel) (by decide +kernel) ?_
  repeat walk_at "w"
  rename Cx _ _ _ _ _ => C
  have hr1 : Builtin.Range.rangeSize 0 ((rv.length : Nat) : Int) 1 = ((rv.length : Nat) : Int) := rangeS rv.length
  refine ⟨_, 0, ((rv.length : Nat) : Int), 1, rv.length, _, _, _, _, _, _, rfl, rfl, C.sub (List.sublist_cons_self _ _), C.get _ (.head _), range_small (by omega) (by omega) (by omega) (by omega) (by omega) _ hr1 (by omega), hr1, by omega, ?_, ?_, ?_⟩
  · clear C
    intro C' i tv h3 g3 d3 t3 o3 m3 E' hi hk C
    obtain ⟨l1, hl1⟩ : ∃ l1, ls[((0 : Int) + (i : Int) * 1).toNat]? = some l1 := ⟨_, List.getElem?_eq_getElem (by omega)⟩
    obtain ⟨b1, tb1, hb1, hbi1⟩ := hrv.at hl1
    obtain ⟨n1, hn1, hG1, hz1⟩ := hs.at hl1
    have hbz1 : b1.size = l1.length := by rw [← KBw.ints_length b1, hbi1, ups_len]
    refine wpAny_tests_one ?_
    repeat walk_at "w"
    rename Cx _ _ _ _ _ => C
    refine r_litem (C.at (by walk_at "mem")) (by omega) hb1 (by omega) ?_
    repeat walk_at "w"
    refine ⟨?_, _, _, rfl, fun _ _ e => e⟩
    show decide _ = decide ((c : Int) < ((ls.getD ((0 : Int) + (i : Int) * 1).toNat []).length : Int))
    rw [List.getD_eq_getElem?_getD, hl1, hbz1]
    rfl
  · clear C
    intro C' i tv h3 g3 d3 t3 o3 m3 E' hi hp hk C
    repeat walk_at "w"
    exact ⟨rfl, _, _, rfl, fun _ _ e => e⟩
  · clear C
    intro ta h' t' us tv e4 C hul hus hp
    have htv : IntsAre tv ((turnsOf ls c).map fun k : Nat => (k : Int)) := by
      rw [paired_eq hp]
      exact turnsOf_ints (hul.trans hrl) hus (fun _ _ => rfl)
    have htl := htv.length
    rw [List.length_map] at htl
    conv in (execs _ _) => arg 1; whnf
    show wpC _ _ (execs (_ :: _ :: _ :: _ :: List.drop 5 cutB) _) _ _ _
    repeat walk_at "w"
    rename Cx _ _ _ _ _ => C
    refine r_compL (cl := [(Str.ofString "rows", L + 1), (Str.ofString "cut", L + 2)]) (g := g) (d := d) (o := o) C (fun v y => ∃ b t, y = Value.bytes b t ∧ KBw.bInts b = ups ((ls.getD (keyV v).toNat []).take c ++ [0])) hh (by kernel_rfl) (by decide +kernel) (by decide +kernel) ?_
    repeat walk_at "w"
    rename Cx _ _ _ _ _ => C
    refine ⟨_, tv, _, _, _, _, rfl, rfl, C, C.at (by walk_at "mem"), by omega, ?_, ?_⟩
    · clear C
      intro C' v h3 g3 d3 t3 o3 m3 E' hv hk C
      obtain ⟨kk, tk, rfl, hmem⟩ := ints_mem htv hv
      obtain ⟨k1, hk1, rfl⟩ := List.mem_map.mp hmem
      obtain ⟨hk1l, hk1c⟩ := hTin k1 hk1
      obtain ⟨l1, hl1⟩ : ∃ l1, ls[(k1 : Int).toNat]? = some l1 := ⟨_, List.getElem?_eq_getElem (by omega)⟩
      obtain ⟨b1, tb1, hb1, hbi1⟩ := hrv.at hl1
      obtain ⟨n1, hn1, hG1, hz1⟩ := hs.at hl1
      have hbz1 : b1.size = l1.length := by rw [← KBw.ints_length b1, hbi1, ups_len]
      clear hk
      repeat walk_at "w"
      rename Cx _ _ _ _ _ => C
      refine r_litem (C.at (by walk_at "mem")) (by omega) hb1 (by omega) ?_
      repeat walk_at "w"
      refine r_sliceBK .none (.int _ _) (by omega) ?_
      intro s1 _ _ _ hs1 hk
      rw [hbi1, pick_upto] at hs1
      have hsz1 : s1.size ≤ 100 := by rw [← KBw.ints_length s1, hs1, List.length_take, ups_len]; omega
      repeat walk_at "w"
      refine r_addB (by show s1.size + 1 ≤ _; omega) ?_
      intro s2 _ _ hs2
      refine ⟨⟨s2, _, rfl, ?_⟩, _, _, rfl, hk⟩
      rw [hs2, hs1]
      show (ups l1).take c ++ [65] = ups ((ls.getD (k1 : Int).toNat []).take c ++ [0])
      rw [ups_front, List.getD_eq_getElem?_getD, hl1]
      rfl
    · clear C
      intro z h' t' zs e' C hk hp2
      have hzs := rows_pair htv hp2
      have hGs : Gs bias ((turnsOf ls c).map fun k => frt bias 0 c (ls.getD k [])) ((turnsOf ls c).map fun k => (ls.getD k []).take c ++ [0]) := by
        refine Gs.map fun k1 hk1 => ?_
        obtain ⟨hk1l, hk1c⟩ := hTin k1 hk1
        obtain ⟨n1, hn1, hG1, hz1⟩ := hs.at (i := k1) (l := ls.getD k1 []) (by rw [List.getD_eq_getElem?_getD, List.getElem?_eq_getElem hk1l]; rfl)
        refine ⟨hG1.front hk1c, ?_⟩
        simp only [List.length_append, List.length_take, List.length_singleton]
        omega
      clear hk
      repeat walk_at "w"
      rename Cx _ _ _ _ _ => C
      rename Gl _ _ _ => G
      refine read_spec (G.kp C.keep) (fT.kp C.keep) (fD.kp C.keep) (fR.kp C.keep) (by omega) hh (by omega) (C.at (by walk_at "mem")) hzs hGs (by simp; omega) ?_
      intro fa h3 t3 frv e3 hk3 hn3 hg3 hfrv
      replace C := C.add hk3 hn3 hg3
      clear hk3 hn3 hg3
      repeat walk_at "w"
      rename Cx _ _ _ _ _ => C
      refine r_listL C (C.at (by walk_at "mem")) (by omega) ?_
      clear C
      intro fr h' e1 C
      repeat walk_at "w"
      rename Cx _ _ _ _ _ => C
      refine r_listL C (C.at (by walk_at "mem")) (by omega) ?_
      clear C
      intro du h' e2 C
      repeat walk_at "w"
      rename Cx _ _ _ _ _ => C
      rename Gl _ _ _ => G
      dsimp only
      exact swaps7 G fT fD fG fR fV nDg hd hh hu hg ((C.perm (List.Perm.swap _ _ _)).sub (.cons_cons _ (.cons_cons _ (.cons_cons _ (.cons _ (.refl _)))))) ⟨rfl, rfl, rfl, rfl, rfl, rfl, trivial⟩ hTin htv hfrv hrv hnv hs hrv hnv (by omega) hl k
end Mine

namespace Mine
open PySem PySem.W PyProof.Rows PySem.Calls PyProof.Rows.TI
set_option maxRecDepth 100000
set_option linter.unusedVariables false
set_option maxHeartbeats 4000000
local macro_rules | `(tactic| walk_at "m") => `(tactic| first
  | ((with_reducible show wpAny _ _ (execs (_ :: _) _) _ _ _); with_reducible refine wpAny_execs_cons ?_)
  | ((with_reducible show wpAny _ _ (exec (Stmt.Assign [Expr.Name _ _] _ _) _) _ _ _); with_reducible refine wpAny_Assign_Name ?_ (by kernel_rfl))
  | ((with_reducible show wpAny _ _ (exec (Stmt.AugAssign (Expr.Name _ _) _ _ _) _) _ _ _); with_reducible refine wpAny_AugAssign_Name ?_)
  | ((with_reducible show wpAny _ _ (exec (Stmt.If _ _ _ _) _) _ _ _); with_reducible refine wpAny_If ?_)
  | ((with_reducible show wpAny _ _ (exec (Stmt.Return (some _) _) _) _ _ _); with_reducible refine wpAny_Return_some ?_)
  | ((with_reducible show wpAny _ _ (eval (Expr.Name _ _) _) _ _ _); (with_reducible rename Cx _ _ _ _ _ => C); first | with_reducible refine nm_l C (by with_unfolding_all exact rfl) ?_ | (with_reducible rename Gl _ _ _ => G); first | with_reducible refine nm_g C G (by with_reducible assumption) ?_ | with_reducible refine nm_b C G (Gl.nob G _ (by decide +kernel)) (by with_reducible first | exact bb_len | exact bb_sum | exact bb_range | exact bb_ord | exact bb_chr | exact bb_bytes | exact bb_bytearray | exact bb_min | exact bb_max | exact bb_sorted | exact bb_isinstance | exact bb_bool | exact bb_divmod | exact bb_abs | exact bb_list | exact bb_zip | exact bb_str | exact bb_IndexError | exact bb_UDE) ?_)
  | ((with_reducible show wpAny _ _ (loadName _ _) _ _ _); (with_reducible rename Cx _ _ _ _ _ => C); with_reducible refine ldn_l C (by with_unfolding_all exact rfl) ?_)
  | ((with_reducible show wpAny _ _ (storeName _ _ _) _ _ _); (with_reducible rename Cx _ _ _ _ _ => C); with_reducible refine st_l C ?_; clear C; intro h t C)
  | ((with_reducible show wpAny _ _ (eval (Expr.Constant (Const.int _) _ _) _) _ _ _); with_reducible refine r_int ?_; intro _ _)
  | ((with_reducible show wpAny _ _ (eval (Expr.Constant (Const.str _) _ _) _) _ _ _); with_reducible refine r_str ?_; intro _ _)
  | ((with_reducible show wpAny _ _ (eval (Expr.Constant (Const.bytes _) _ _) _) _ _ _); with_reducible refine r_bytes ?_; intro _ _)
  | ((with_reducible show wpAny _ _ (eval (Expr.Constant Const.none _ _) _) _ _ _); with_reducible refine r_none ?_)
  | ((with_reducible show wpAny _ _ (eval (Expr.Constant (Const.bool _) _ _) _) _ _ _); with_reducible refine r_bool ?_)
  | ((with_reducible show wpAny _ _ (eval (Expr.BinOp _ _ _ _) _) _ _ _); with_reducible refine wpAny_BinOp ?_)
  | ((with_reducible show wpAny _ _ (eval (Expr.Compare _ [_] [_] _) _) _ _ _); with_reducible refine wpAny_Compare1 ?_ (by kernel_rfl))
  | ((with_reducible show wpAny _ _ (isTrue (Expr.Compare _ [_] [_] _) _ _) _ _ _); with_reducible refine wpAny_isTrue_Compare1 ?_ (by kernel_rfl))
  | ((with_reducible show wpAny _ _ (truthy (Value.bool _)) _ _ _); with_reducible refine wpAny_truthy_bool ?_)
  | ((with_reducible show wpAny _ _ (truthy (Value.int _ _)) _ _ _); with_reducible refine r_tint ?_)
  | ((with_reducible show wpAny _ _ (binaryOp Operator.Add (Value.int _ _) (Value.int _ _)) _ _ _); with_reducible refine r_add ?_; intro _ _)
  | ((with_reducible show wpAny _ _ (binaryOp Operator.Sub (Value.int _ _) (Value.int _ _)) _ _ _); with_reducible refine r_sub ?_; intro _ _)
  | ((with_reducible show wpAny _ _ (binaryOp Operator.Mult (Value.int _ _) (Value.int _ _)) _ _ _); with_reducible refine r_mul (by first | exact IntMulOk.of_left (by decide) | exact IntMulOk.of_right (by decide) | walk_at "mul") ?_; intro _ _)
  | ((with_reducible show wpAny _ _ (binaryOp Operator.FloorDiv (Value.int _ _) (Value.int _ _)) _ _ _); with_reducible refine r_div (by omega) (by omega) ?_; intro _ _)
  | ((with_reducible show wpAny _ _ (binaryOp Operator.Mod (Value.int _ _) (Value.int _ _)) _ _ _); with_reducible refine r_mod (by omega) (by omega) ?_; intro _ _)
  | ((with_reducible show wpAny _ _ (inplaceOp Operator.Add (Value.int _ _) (Value.int _ _)) _ _ _); with_reducible refine r_iadd ?_; intro _ _)
  | ((with_reducible show wpAny _ _ (inplaceOp Operator.Mult (Value.int _ _) (Value.int _ _)) _ _ _); with_reducible refine r_imul (by first | exact IntMulOk.of_left (by decide) | exact IntMulOk.of_right (by decide) | walk_at "mul") ?_; intro _ _)
  | ((with_reducible show wpAny _ _ (compareOp CmpOp.Eq (Value.int _ _) (Value.int _ _)) _ _ _); with_reducible refine r_eq ?_)
  | ((with_reducible show wpAny _ _ (compareOp CmpOp.NotEq (Value.int _ _) (Value.int _ _)) _ _ _); with_reducible refine r_ne ?_)
  | ((with_reducible show wpAny _ _ (compareOp CmpOp.Lt (Value.int _ _) (Value.int _ _)) _ _ _); with_reducible refine r_lt ?_)
  | ((with_reducible show wpAny _ _ (compareOp CmpOp.LtE (Value.int _ _) (Value.int _ _)) _ _ _); with_reducible refine r_le ?_)
  | ((with_reducible show wpAny _ _ (compareOp CmpOp.Gt (Value.int _ _) (Value.int _ _)) _ _ _); with_reducible refine r_gt ?_)
  | ((with_reducible show wpAny _ _ (compareOp CmpOp.GtE (Value.int _ _) (Value.int _ _)) _ _ _); with_reducible refine r_ge ?_)
  | ((with_reducible show wpAny _ _ (execs [] _) _ _ _); refine wpAny_pure ?_)
  | ((with_reducible show wpAny _ _ (exec (Stmt.Try _ (_ :: _) _ [] _) _) _ _ _); with_reducible refine wpAny_Try_except ?_)
  | ((with_reducible show wpAny _ _ (isTrue (Expr.Compare _ (_ :: _ :: _) (_ :: _ :: _) _) _ _) _ _ _); with_reducible refine isTrue_chain ?_ (by kernel_rfl))
  | ((with_reducible show wpAny _ _ (testChain _ _ (_ :: _ :: _) (_ :: _ :: _)) _ _ _); with_reducible refine test_link ?_)
  | ((with_reducible show wpAny _ _ (testChain _ _ [_] _) _ _ _); with_reducible refine t_last ?_)
  | ((with_reducible show wpAny _ _ (isTrue (Expr.BoolOp BoolOp.And (_ :: _) _) _ _) _ _ _); with_reducible refine isTrue_and ?_)
  | ((with_reducible show wpAny _ _ (isTrue (Expr.BoolOp BoolOp.And [] _) _ _) _ _ _); with_reducible refine isTrue_and_nil ?_)
  | ((with_reducible show wpAny _ _ (isTrue (Expr.BoolOp BoolOp.Or (_ :: _) _) _ _) _ _ _); with_reducible refine isTrue_or ?_)
  | ((with_reducible show wpAny _ _ (isTrue (Expr.BoolOp BoolOp.Or [] _) _ _) _ _ _); with_reducible refine isTrue_or_nil ?_)
  | ((with_reducible show wpAny _ _ (isTrue (Expr.UnaryOp UnaryOp.Not _ _) _ _) _ _ _); with_reducible refine isTrue_not ?_)
  | ((with_reducible show wpAny _ _ (isTrue (Expr.Constant _ _ _) _ _) _ _ _); with_reducible refine isTrue_plain ?_ (by kernel_rfl))
  | ((with_reducible show wpAny _ _ (isTrue (Expr.Call _ _ _ _) _ _) _ _ _); with_reducible refine isTrue_plain ?_ (by kernel_rfl))
  | ((with_reducible show wpAny _ _ (isTrue (Expr.Name _ _) _ _) _ _ _); with_reducible refine isTrue_plain ?_ (by kernel_rfl))
  | ((with_reducible show wpAny _ _ (eval (Expr.IfExp _ _ _ _) _) _ _ _); with_reducible refine IfExp_ ?_)
  | ((with_reducible show wpAny _ _ (eval (Expr.Tuple _ _ _) _) _ _ _); with_reducible refine Tuple_ ?_)
  | ((with_reducible show wpAny _ _ (eval (Expr.List _ _) _) _ _ _); with_reducible refine List_ ?_)
  | ((with_reducible show wpAny _ _ (eval (Expr.Subscript _ (Expr.Slice _ _ none _) _) _) _ _ _); walk_at "slice")
  | ((with_reducible show wpAny _ _ (eval (Expr.Subscript _ _ _) _) _ _ _); with_reducible refine Subscript_ ?_)
  | ((with_reducible show wpAny _ _ (evalPart none _) _ _ _); with_reducible refine evalPart_none_step ?_)
  | ((with_reducible show wpAny _ _ (evalPart (some _) _) _ _ _); with_reducible refine evalPart_some_step ?_)
  | ((with_reducible show SliceOn _ _ _ _ _ (Value.ref _) _ _ _ _ _); (with_reducible rename Cx _ _ _ _ _ => C); with_reducible refine r_slice C (by walk_at "get") (by first | exact IsPart.none | exact IsPart.int _ _) (by first | exact IsPart.none | exact IsPart.int _ _) (by walk_at "size") ?_; clear C; intro a h C)
  | ((with_reducible show wpAny _ _ (eval (Expr.Call (Expr.Name _ _) _ [] _) _) _ _ _); with_reducible refine Call_ ?_ (by kernel_rfl))
  | ((with_reducible show wpAny _ _ (callWith _ (Value.ref _) [] (backTo _ (starEach (_ :: _) _)) []) _ _ _); with_reducible refine r_callf (by with_reducible assumption) ?_)
  | ((with_reducible show wpAny _ _ (callWith _ (Value.builtin _) [] (backTo _ (starEach (_ :: _) _)) []) _ _ _); with_reducible refine callWith_builtin1 ?_ (by kernel_rfl) (by kernel_rfl))
  | ((with_reducible show wpAny _ _ (callWith _ (Value.type _) [] (backTo _ (starEach (_ :: _) _)) []) _ _ _); with_reducible refine PyProof.Rows.callWith_type1 ?_ (by kernel_rfl) (by kernel_rfl))
  | ((with_reducible show wpAny _ _ (spliced (backTo _ (starEach (_ :: _) _))) _ _ _); with_reducible refine args_cons ?_ (by kernel_rfl))
  | ((with_reducible show wpAny _ _ (spliced (backTo _ (starEach [] _))) _ _ _); with_reducible refine args_nil ?_)
  | ((with_reducible show Kp _ _ ∧ wpAny _ _ (call _ _) _ _ _); (with_reducible rename Cx _ _ _ _ _ => C); refine ⟨Cx.keep C, ?_⟩)
  | ((with_reducible show wpAny _ _ (newTuple _) _ _ _); (with_reducible rename Cx _ _ _ _ _ => C); with_reducible refine r_newTuple C (by size_fits) ?_; clear C; intro a h C)
  | ((with_reducible show wpAny _ _ (newList _) _ _ _); (with_reducible rename Cx _ _ _ _ _ => C); with_reducible refine r_newList C (by size_fits) ?_; clear C; intro a h C)
  | ((with_reducible show if true = true then _ else _); with_reducible refine ite_t ?_)
  | ((with_reducible show if false = true then _ else _); with_reducible refine ite_f ?_)
  | ((with_reducible show if decide _ = true then _ else _); first | with_reducible refine ite_yes (by first | assumption | omega | decide) ?_ | with_reducible refine ite_no (by first | assumption | omega | decide) ?_)
  | ((with_reducible show wpAny _ _ (exec (Stmt.Expr _ _) _) _ _ _); with_reducible refine wpAny_Expr ?_ (by kernel_rfl) (by kernel_rfl))
  | ((with_reducible show wpAny _ _ (eval (Expr.Call (Expr.Attribute _ _ _) _ [] _) _) _ _ _); with_reducible refine r_mcall ?_)
  | ((with_reducible show wpAny _ _ (getMethod (Value.ref _) (Str.ofString "append") _) _ _ _); with_reducible refine r_getAppend (by walk_at "get") ?_; dsimp only)
  | ((with_reducible show wpAny _ _ (callWith _ (Value.builtin _) [_] (backTo _ (starEach (_ :: _) _)) []) _ _ _); with_reducible refine r_method1 ?_)
  | ((with_reducible show wpAny _ _ (callWith _ (Value.builtin _) [_] (backTo _ (starEach [] _)) []) _ _ _); with_reducible refine callWith_method0 ?_)
  | ((with_reducible show wpAny _ _ (call _ (_ ++ _)) _ _ _); simp only [List.cons_append, List.nil_append])
  | ((with_reducible show wpAny _ _ (call (Value.builtin "list.append") [Value.ref _, _]) _ _ _); (with_reducible rename Cx _ _ _ _ _ => C); with_reducible refine r_append C (by walk_at "upd") (by walk_at "size") ?_; clear C; intro h C)
  | ((with_reducible show wpAny _ _ (call (Value.builtin "len") [Value.ref _]) _ _ _); with_reducible refine r_len (by walk_at "get") (by walk_at "size") ?_; intro _ _)
  | ((with_reducible show wpAny _ _ (call (Value.builtin "len") [Value.bytes _ _]) _ _ _); with_reducible refine r_lenB (by walk_at "size") ?_; intro _ _)
  | ((with_reducible show wpAny _ _ (call (Value.builtin "isinstance") [Value.int _ _, Value.type "bool"]) _ _ _); with_reducible refine r_isiI ?_; intro _)
  | ((with_reducible show wpAny _ _ (call (Value.builtin "isinstance") [Value.none, Value.type "bool"]) _ _ _); with_reducible refine r_isiN ?_; intro _)
  | ((with_reducible show wpAny _ _ (eval (Expr.UnaryOp _ _ _) _) _ _ _); with_reducible refine UnaryOp_ ?_)
  | ((with_reducible show wpAny _ _ (unaryOp UnaryOp.USub (Value.int _ _)) _ _ _); with_reducible refine r_neg ?_; intro _ _)
  | ((with_reducible show wpAny _ _ (call (Value.type "range") [Value.int _ _]) _ _ _); (with_reducible rename Cx _ _ _ _ _ => C); with_reducible refine r_range1 C ?_; clear C; intro a h _ _ _ _ C)
  | ((with_reducible show wpAny _ _ (call (Value.type "range") [Value.int _ _, Value.int _ _]) _ _ _); (with_reducible rename Cx _ _ _ _ _ => C); with_reducible refine r_range2 C ?_; clear C; intro a h _ _ _ _ C)
  | ((with_reducible show wpAny _ _ (subscriptTail _ _ (Value.str (Str.ofString "ABCDEFGHIJKLMNOPQRSTUVWXYZ0123456789") _) (Value.int _ _)) _ _ _); with_reducible refine r_sgn (by omega) (by omega) ?_; intro _ _)
  | ((with_reducible show wpAny _ _ (call (Value.builtin "ord") [Value.str (Str.mk #[Int.toNat (sgn _)]) _]) _ _ _); with_reducible refine r_ordS (by omega) (by omega) ?_; intro _ _)
  | ((with_reducible show wpAny _ _ (call (Value.builtin "sum") [Value.ref _]) _ _ _); (with_reducible rename Cx _ _ _ _ _ => C); with_reducible refine r_sum C (by walk_at "hh") (by walk_at "get") (by walk_at "ints") ?_; clear C; intro h _ _ C)
  | ((with_reducible show wpAny _ _ (compareOp CmpOp.Eq (Value.str _ _) (Value.str _ _)) _ _ _); first | with_reducible refine r_eqSF (by with_reducible assumption) ?_ | with_reducible refine r_eqST (by first | with_reducible assumption | rfl) ?_)
  | ((with_reducible show wpAny _ _ (exec (Stmt.Assign [Expr.Tuple _ _ _] _ _) _) _ _ _); with_reducible refine PyProof.Rows.Assign_Tuple ?_ (by kernel_rfl) (by kernel_rfl))
  | ((with_reducible show wpAny _ _ (assign (Expr.Tuple [Expr.Name _ _, Expr.Name _ _] _ _) _ (Value.ref _)) _ _ _); (with_reducible rename Cx _ _ _ _ _ => C); with_reducible refine r_unpack2 C (by walk_at "get") (by walk_at "hh") ?_; clear C; intro h C)
  | ((with_reducible show wpAny _ _ (getMethod (Value.str _ _) (Str.ofString "find") _) _ _ _); with_reducible refine r_getFind ?_; dsimp only)
  | ((with_reducible show wpAny _ _ (call (Value.builtin "str.find") [Value.str _ _, Value.str (Str.mk #[Int.toNat _]) _]) _ _ _); with_reducible refine r_find (by omega) (by omega) ?_; intro _ _)
  | ((with_reducible show wpAny _ _ (call (Value.builtin "chr") [Value.int _ _]) _ _ _); with_reducible refine r_chr (by omega) (by omega) ?_; intro _ _)
  | ((with_reducible show wpAny _ _ (call (Value.builtin "divmod") [Value.int _ _, Value.int _ _]) _ _ _); (with_reducible rename Cx _ _ _ _ _ => C); with_reducible refine r_divmod C (by omega) (by omega) ?_; clear C; intro _ h _ _ _ C)
  | ((with_reducible show wpAny _ _ (compareOp CmpOp.Is (Value.int _ _) Value.none) _ _ _); with_reducible refine r_isI ?_)
  | ((with_reducible show wpAny _ _ (compareOp CmpOp.Is Value.none Value.none) _ _ _); with_reducible refine r_isNN ?_)
  | ((with_reducible show wpAny _ _ (compareOp CmpOp.IsNot (Value.int _ _) Value.none) _ _ _); with_reducible refine r_isNotI ?_)
  | ((with_reducible show wpAny _ _ (compareOp CmpOp.IsNot Value.none Value.none) _ _ _); with_reducible refine r_isNotN ?_)
  | ((with_reducible show wpAny _ _ (subscriptTail _ _ (Value.ref _) (Value.int _ _)) _ _ _); with_reducible refine r_tit (by walk_at "get") (by decide) (by with_unfolding_all exact rfl) (by walk_at "size") ?_)
  | ((with_reducible show wpAny _ _ (call (Value.type "range") [Value.int _ _, Value.int _ _, Value.int _ _]) _ _ _); (with_reducible rename Cx _ _ _ _ _ => C); with_reducible refine r_range3 C (by decide) (by decide) ?_; clear C; intro a h _ _ _ _ C)
  | walk_at "m2")
local macro_rules | `(tactic| walk_at "slice") => `(tactic| with_reducible refine r_subslice ?_)
local macro_rules | `(tactic| walk_at "get") => `(tactic| ((with_reducible rename Cx _ _ _ _ _ => C); first | exact Cx.old C (by with_reducible assumption) | exact Cx.at C (by walk_at "mem")))
local macro_rules | `(tactic| walk_at "mem") => `(tactic| ((repeat (first | with_reducible exact List.mem_cons_self | with_reducible refine List.mem_cons_of_mem _ ?_)); done))
local macro_rules | `(tactic| walk_at "upd") => `(tactic| first | with_reducible exact UpdAt.head | with_reducible exact UpdAt.tail (UpdAt.head) | with_reducible exact UpdAt.tail (UpdAt.tail (UpdAt.head)) | with_reducible exact UpdAt.tail (UpdAt.tail (UpdAt.tail (UpdAt.head))) | with_reducible exact UpdAt.tail (UpdAt.tail (UpdAt.tail (UpdAt.tail (UpdAt.head)))) | with_reducible exact UpdAt.tail (UpdAt.tail (UpdAt.tail (UpdAt.tail (UpdAt.tail (UpdAt.head))))) | with_reducible exact UpdAt.tail (UpdAt.tail (UpdAt.tail (UpdAt.tail (UpdAt.tail (UpdAt.tail (UpdAt.head)))))) | with_reducible exact UpdAt.tail (UpdAt.tail (UpdAt.tail (UpdAt.tail (UpdAt.tail (UpdAt.tail (UpdAt.tail (UpdAt.head))))))) | with_reducible exact UpdAt.tail (UpdAt.tail (UpdAt.tail (UpdAt.tail (UpdAt.tail (UpdAt.tail (UpdAt.tail (UpdAt.tail (UpdAt.head)))))))) | with_reducible exact UpdAt.tail (UpdAt.tail (UpdAt.tail (UpdAt.tail (UpdAt.tail (UpdAt.tail (UpdAt.tail (UpdAt.tail (UpdAt.tail (UpdAt.head))))))))) | with_reducible exact UpdAt.tail (UpdAt.tail (UpdAt.tail (UpdAt.tail (UpdAt.tail (UpdAt.tail (UpdAt.tail (UpdAt.tail (UpdAt.tail (UpdAt.tail (UpdAt.head)))))))))) | with_reducible exact UpdAt.tail (UpdAt.tail (UpdAt.tail (UpdAt.tail (UpdAt.tail (UpdAt.tail (UpdAt.tail (UpdAt.tail (UpdAt.tail (UpdAt.tail (UpdAt.tail (UpdAt.head))))))))))))
local macro_rules | `(tactic| walk_at "size") => `(tactic| first | omega | (simp only [List.length_cons, List.length_nil, List.length_append, List.length_map]; omega) | (simp; omega))
local macro_rules | `(tactic| walk_at "m2") => `(tactic| fail "no step")
local macro_rules | `(tactic| walk_at "hh") => `(tactic| (first | with_reducible assumption | (rename Around.handled _ = none => hh; with_unfolding_all exact hh)))
local macro_rules | `(tactic| walk_at "ints") => `(tactic| (first | with_reducible assumption | exact sp_ints (by with_reducible assumption) _ _))

local macro_rules | `(tactic| walk_at "depth") => `(tactic| first | omega | (show Around.depth _ + 1 < _; omega))
local macro_rules | `(tactic| walk_at "mul") => `(tactic| first | exact IntMulOk.of_left (intBits_le_64 (by omega) (by omega)) | exact IntMulOk.of_right (intBits_le_64 (by omega) (by omega)))
local macro_rules | `(tactic| walk_at "mem") => `(tactic| ((repeat (first | with_reducible exact List.mem_cons_self | with_reducible assumption | with_reducible refine List.mem_cons_of_mem _ ?_)); done))
local macro_rules | `(tactic| walk_at "c") => `(tactic| first
  | ((with_reducible show wpC _ _ (execs (_ :: _) _) _ _ _); with_reducible refine c_cons ?_)
  | ((with_reducible show wpC _ _ (execs [] _) _ _ _); refine wpC_pure ?_)
  | ((with_reducible show wpC _ _ (exec (Stmt.If _ _ _ _) _) _ _ _); with_reducible refine c_If ?_)
  | ((with_reducible show wpC _ _ (isTrue (Expr.Compare (Expr.Call (Expr.Name (Str.ofString "generate_generalized_integer") _) _ _ _) _ _ _) _ _) _ _ _); with_reducible refine c_isCmp ?_)
  | ((with_reducible show wpC _ _ (isTrue (Expr.Compare (Expr.Call (Expr.Name (Str.ofString "_law_written") _) _ _ _) _ _ _) _ _) _ _ _); with_reducible refine c_isCmp ?_)
  | ((with_reducible show wpC _ _ (isTrue (Expr.BoolOp BoolOp.Or (_ :: _) _) _ _) _ _ _); with_reducible refine c_isOr ?_)
  | ((with_reducible show wpC _ _ (eval (Expr.Call (Expr.Attribute (Expr.Call _ _ _ _) _ _) _ _ _) _) _ _ _); with_reducible refine c_mcallR ?_)
  | ((with_reducible show wpC _ _ (eval (Expr.Call (Expr.Name _ _) _ _ _) _) _ _ _); with_reducible refine c_CallN ?_)
  | ((with_reducible show wpC _ _ (callWith _ (Value.ref _) [] (backTo _ (starEach (_ :: _) _)) []) _ _ _); with_reducible refine c_callf (by with_reducible assumption) ?_)
  | ((with_reducible show Kp _ _ ∧ wpC _ _ (call _ _) _ _ _); (with_reducible rename Cx _ _ _ _ _ => C); refine ⟨Cx.keep C, ?_⟩)
  | ((with_reducible show wpAny _ _ (getMethod (Value.bytes _ _) (Str.ofString "upper") _) _ _ _); with_reducible refine r_getUpper ?_; dsimp only)
  | ((with_reducible show wpC _ _ (isTrue _ _ _) _ _ _); with_reducible refine wpC_of ?_)
  | ((with_reducible show wpC _ _ (exec (Stmt.Assign _ _ _) _) _ _ _); with_reducible refine wpC_of ?_)
  | ((with_reducible show wpC _ _ (exec (Stmt.AugAssign _ _ _ _) _) _ _ _); with_reducible refine wpC_of ?_)
  | ((with_reducible show wpC _ _ (exec (Stmt.Return _ _) _) _ _ _); with_reducible refine wpC_of ?_)
  | ((with_reducible show wpC _ _ (exec (Stmt.Expr _ _) _) _ _ _); with_reducible refine wpC_of ?_))
local macro_rules | `(tactic| walk_at "m2") => `(tactic| first
  | ((with_reducible show wpAny _ _ (eval (Expr.Name (Str.ofString "rows") _) _) _ _ _); (with_reducible rename Cx _ _ _ _ _ => C); with_reducible refine nm_c (c := _ + 1) C (by walk_at "mem") (by kernel_rfl) ?_)
  | ((with_reducible show wpAny _ _ (eval (Expr.Name (Str.ofString "cut") _) _) _ _ _); (with_reducible rename Cx _ _ _ _ _ => C); with_reducible refine nm_c (c := _ + 2) C (by walk_at "mem") (by kernel_rfl) ?_)
  | ((with_reducible show wpAny _ _ (exec (Stmt.Assign [Expr.Subscript _ _ _] _ _) _) _ _ _); with_reducible refine wpAny_Assign_Subscript ?_ (by kernel_rfl))
  | ((with_reducible show wpAny _ _ (compareOp CmpOp.Is (Value.ref _) Value.none) _ _ _); with_reducible refine r_isR ?_)
  | ((with_reducible show wpAny _ _ (eval (Expr.Name _ _) _) _ _ _); (with_reducible rename Cx _ _ _ _ _ => C); first | with_reducible refine nm_c C (by walk_at "mem") (by kernel_rfl) ?_ | with_reducible refine nm_f C (by walk_at "mem") (by kernel_rfl) ?_)
  | ((with_reducible show wpAny _ _ (loadName _ _) _ _ _); (with_reducible rename Cx _ _ _ _ _ => C); with_reducible refine ldn_c C (by walk_at "mem") (by kernel_rfl) ?_)
  | ((with_reducible show wpAny _ _ (call (Value.ref _) [Value.int _ _, Value.int _ _]) _ _ _); (with_reducible rename Cx _ _ _ _ _ => C); (with_reducible rename Gl _ _ _ => G); refine T_spec (Gl.kp G (Cx.keep C)) (Fn.kp (by with_reducible assumption) (Cx.keep C)) (by walk_at "depth") ?_; intro h t _ hk; replace C := Cx.grown C hk)
  | ((with_reducible show wpAny _ _ (binaryOp Operator.Add (Value.ref _) (Value.ref _)) _ _ _); (with_reducible rename Cx _ _ _ _ _ => C); with_reducible refine r_addL C (by walk_at "get") (by walk_at "get") (by walk_at "size") ?_; clear C; intro a h C)
  | walk_at "c")
local macro_rules | `(tactic| walk_at "w") => `(tactic| first
  | ((with_reducible show wpAny _ _ (storeName _ (Str.ofString "rows") _) _ _ _); (with_reducible rename Cx _ _ _ _ _ => C); with_reducible refine st_c C (by walk_at "upd") (by kernel_rfl) ?_; clear C; intro h C)
  | walk_at "m")

/-- both cuts -/
theorem cuts7 {prog : Program} {w : World} {A : Around} {h₀ h : Heap} {mg mb m : Str → Option Value} {L : Addr}
  {g : Array GenState} {d : Drawn} {t : Nat} {o : OsState} {Q : Flow → Shared → Prop} {aT aD aG aR aV a ra na sx : Addr} {cT cD cG cR cV cd : Value} {ob1 ob2 : Obj} {rv nv : List Value} {e e5 e6 : Nat} {bias : Int} {tb td t1 t2 : Tok} {ls : List (List Int)} {ns : List Int} {px : Pos} {body : List Stmt}
  (G : Gl mg mb h₀) (fT : FT mg h₀ aT cT) (fD : FD mg h₀ aD cD) (fG : FG mg h₀ aG cG) (fR : FR mg h₀ aR cR) (fV : FV mg h₀ aV cV) (nDg : mg (Str.ofString "digits") = some (.bytes LOWS td)) (hd : A.depth + 12 < recursionLimit) (hh : A.handled = none) (hu : A.units + 85 < cLine) (hg : A.guards = some [])
  (C : Cx h₀ L h m ((ra, lst rv e5) :: (na, lst nv e6) :: (L + 1, celO ob1 (some (.ref ra))) :: (L + 2, celO ob2 none) :: [(sx, lst [.int 1 t1, .int 2 t2] e)]))
  (hm : Has m [(Str.ofString "bias", .int bias tb), (Str.ofString "numbers", .ref na)])
  (hrv : RowsAre rv ls) (hnv : IntsAre nv ns) (hs : Gs bias ns ls) (hl : ls.length ≤ 100)
  (k : ∀ h' t', Kp h₀ h' → Q .next ⟨h', g, d, t', o⟩)
  (hb : body = cutB := by kernel_rfl) :
  LoopC (model prog w) A (envOfC (sName dW) (sScope dW) L a cd) (Str.ofString "cut") px body Q (.ref sx) ⟨h, g, d, t, o⟩ := by
  subst hb
  refine r_iterLCc (c := L + 2) (cob := ob2) C
    (fun i m news' => ∃ ra na rv nv e5 e6 ls ns vc, Has m [(Str.ofString "bias", .int bias tb), (Str.ofString "numbers", .ref na)] ∧ RowsAre rv ls ∧ IntsAre nv ns ∧ Gs bias ns ls ∧ ls.length ≤ 100 ∧
      news' = (ra, lst rv e5) :: (na, lst nv e6) :: (L + 1, celO ob1 (some (.ref ra))) :: (L + 2, celO ob2 vc) :: [(sx, lst [.int 1 t1, .int 2 t2] e)])
    (fun i v m news' => ∃ ra na rv nv e5 e6 ls ns, Has m [(Str.ofString "bias", .int bias tb), (Str.ofString "numbers", .ref na)] ∧ RowsAre rv ls ∧ IntsAre nv ns ∧ Gs bias ns ls ∧ ls.length ≤ 100 ∧
      news' = (ra, lst rv e5) :: (na, lst nv e6) :: (L + 1, celO ob1 (some (.ref ra))) :: (L + 2, celO ob2 (some v)) :: [(sx, lst [.int 1 t1, .int 2 t2] e)])
    (items := [.int 1 t1, .int 2 t2]) (lo := lst [.int 1 t1, .int 2 t2] e) rfl ⟨e, rfl⟩ hh ?_ ?_ ?_ ?_ ?_ (by kernel_rfl)
  · exact ⟨ra, na, rv, nv, e5, e6, ls, ns, none, hm, hrv, hnv, hs, hl, rfl⟩
  · rintro i h m news' C ⟨ra, na, rv, nv, e5, e6, ls, ns, vc, hm, hrv, hnv, hs, hl, rfl⟩
    exact C.get _ (.tail _ (.tail _ (.tail _ (.tail _ (.head _)))))
  · rintro i v m news' hv ⟨ra, na, rv, nv, e5, e6, ls, ns, vc, hm, hrv, hnv, hs, hl, rfl⟩
    exact ⟨vc, _, .tail (.tail (.tail .head)), ra, na, rv, nv, e5, e6, ls, ns, hm, hrv, hnv, hs, hl, rfl⟩
  · clear C hm hrv hnv hs hl
    rintro i v it io h t m news' hv C ⟨ra, na, rv, nv, e5, e6, ls, ns, hm, hrv, hnv, hs, hl, rfl⟩
    obtain ⟨c, tc, rfl⟩ : ∃ (c : Nat) (tc : Tok), v = .int (c : Int) tc := by
      match i, hv with
      | 0, hv => simp at hv; subst hv; exact ⟨1, t1, rfl⟩
      | 1, hv => simp at hv; subst hv; exact ⟨2, t2, rfl⟩
      | i + 2, hv => simp at hv
    rename Gl _ _ _ => G
    refine cut7 (news := (it, io) :: [(sx, lst [.int 1 t1, .int 2 t2] e)]) G fT fD fG fR fV nDg hd hh hu hg (C.perm (List.perm_middle (l₁ := [_, _, _, _])).symm) hm hrv hnv hs hl ?_
    intro m' h' t' ra' na' rv' nv' e5' e6' ls' ns' C' hm' hrv' hnv' hs' hl'
    exact TurnF.go (C'.perm (List.perm_middle (l₁ := [_, _, _, _]))) ⟨ra', na', rv', nv', e5', e6', ls', ns', _, hm', hrv', hnv', hs', by omega, rfl⟩
  · clear C
    rintro h t m news' C _
    exact k _ _ C.keep
end Mine

namespace Mine
open PySem PySem.W PyProof.Rows PySem.Calls PyProof.Rows.TI
set_option maxRecDepth 100000
set_option linter.unusedVariables false
set_option maxHeartbeats 4000000
local macro_rules | `(tactic| walk_at "m") => `(tactic| first
  | ((with_reducible show wpAny _ _ (execs (_ :: _) _) _ _ _); with_reducible refine wpAny_execs_cons ?_)
  | ((with_reducible show wpAny _ _ (exec (Stmt.Assign [Expr.Name _ _] _ _) _) _ _ _); with_reducible refine wpAny_Assign_Name ?_ (by kernel_rfl))
  | ((with_reducible show wpAny _ _ (exec (Stmt.AugAssign (Expr.Name _ _) _ _ _) _) _ _ _); with_reducible refine wpAny_AugAssign_Name ?_)
  | ((with_reducible show wpAny _ _ (exec (Stmt.If _ _ _ _) _) _ _ _); with_reducible refine wpAny_If ?_)
  | ((with_reducible show wpAny _ _ (exec (Stmt.Return (some _) _) _) _ _ _); with_reducible refine wpAny_Return_some ?_)
  | ((with_reducible show wpAny _ _ (eval (Expr.Name _ _) _) _ _ _); (with_reducible rename Cx _ _ _ _ _ => C); first | with_reducible refine nm_l C (by with_unfolding_all exact rfl) ?_ | (with_reducible rename Gl _ _ _ => G); first | with_reducible refine nm_g C G (by with_reducible assumption) ?_ | with_reducible refine nm_b C G (Gl.nob G _ (by decide +kernel)) (by with_reducible first | exact bb_len | exact bb_sum | exact bb_range | exact bb_ord | exact bb_chr | exact bb_bytes | exact bb_bytearray | exact bb_min | exact bb_max | exact bb_sorted | exact bb_isinstance | exact bb_bool | exact bb_divmod | exact bb_abs | exact bb_list | exact bb_zip | exact bb_str | exact bb_IndexError | exact bb_UDE) ?_)
  | ((with_reducible show wpAny _ _ (loadName _ _) _ _ _); (with_reducible rename Cx _ _ _ _ _ => C); with_reducible refine ldn_l C (by with_unfolding_all exact rfl) ?_)
  | ((with_reducible show wpAny _ _ (storeName _ _ _) _ _ _); (with_reducible rename Cx _ _ _ _ _ => C); with_reducible refine st_l C ?_; clear C; intro h t C)
  | ((with_reducible show wpAny _ _ (eval (Expr.Constant (Const.int _) _ _) _) _ _ _); with_reducible refine r_int ?_; intro _ _)
  | ((with_reducible show wpAny _ _ (eval (Expr.Constant (Const.str _) _ _) _) _ _ _); with_reducible refine r_str ?_; intro _ _)
  | ((with_reducible show wpAny _ _ (eval (Expr.Constant (Const.bytes _) _ _) _) _ _ _); with_reducible refine r_bytes ?_; intro _ _)
  | ((with_reducible show wpAny _ _ (eval (Expr.Constant Const.none _ _) _) _ _ _); with_reducible refine r_none ?_)
  | ((with_reducible show wpAny _ _ (eval (Expr.Constant (Const.bool _) _ _) _) _ _ _); with_reducible refine r_bool ?_)
  | ((with_reducible show wpAny _ _ (eval (Expr.BinOp _ _ _ _) _) _ _ _); with_reducible refine wpAny_BinOp ?_)
  | ((with_reducible show wpAny _ _ (eval (Expr.Compare _ [_] [_] _) _) _ _ _); with_reducible refine wpAny_Compare1 ?_ (by kernel_rfl))
  | ((with_reducible show wpAny _ _ (isTrue (Expr.Compare _ [_] [_] _) _ _) _ _ _); with_reducible refine wpAny_isTrue_Compare1 ?_ (by kernel_rfl))
  | ((with_reducible show wpAny _ _ (truthy (Value.bool _)) _ _ _); with_reducible refine wpAny_truthy_bool ?_)
  | ((with_reducible show wpAny _ _ (truthy (Value.int _ _)) _ _ _); with_reducible refine r_tint ?_)
  | ((with_reducible show wpAny _ _ (binaryOp Operator.Add (Value.int _ _) (Value.int _ _)) _ _ _); with_reducible refine r_add ?_; intro _ _)
  | ((with_reducible show wpAny _ _ (binaryOp Operator.Sub (Value.int _ _) (Value.int _ _)) _ _ _); with_reducible refine r_sub ?_; intro _ _)
  | ((with_reducible show wpAny _ _ (binaryOp Operator.Mult (Value.int _ _) (Value.int _ _)) _ _ _); with_reducible refine r_mul (by first | exact IntMulOk.of_left (by decide) | exact IntMulOk.of_right (by decide) | walk_at "mul") ?_; intro _ _)
  | ((with_reducible show wpAny _ _ (binaryOp Operator.FloorDiv (Value.int _ _) (Value.int _ _)) _ _ _); with_reducible refine r_div (by omega) (by omega) ?_; intro _ _)
  | ((with_reducible show wpAny _ _ (binaryOp Operator.Mod (Value.int _ _) (Value.int _ _)) _ _ _); with_reducible refine r_mod (by omega) (by omega) ?_; intro _ _)
  | ((with_reducible show wpAny _ _ (inplaceOp Operator.Add (Value.int _ _) (Value.int _ _)) _ _ _); with_reducible refine r_iadd ?_; intro _ _)
  | ((with_reducible show wpAny _ _ (inplaceOp Operator.Mult (Value.int _ _) (Value.int _ _)) _ _ _); with_reducible refine r_imul (by first | exact IntMulOk.of_left (by decide) | exact IntMulOk.of_right (by decide) | walk_at "mul") ?_; intro _ _)
  | ((with_reducible show wpAny _ _ (compareOp CmpOp.Eq (Value.int _ _) (Value.int _ _)) _ _ _); with_reducible refine r_eq ?_)
  | ((with_reducible show wpAny _ _ (compareOp CmpOp.NotEq (Value.int _ _) (Value.int _ _)) _ _ _); with_reducible refine r_ne ?_)
  | ((with_reducible show wpAny _ _ (compareOp CmpOp.Lt (Value.int _ _) (Value.int _ _)) _ _ _); with_reducible refine r_lt ?_)
  | ((with_reducible show wpAny _ _ (compareOp CmpOp.LtE (Value.int _ _) (Value.int _ _)) _ _ _); with_reducible refine r_le ?_)
  | ((with_reducible show wpAny _ _ (compareOp CmpOp.Gt (Value.int _ _) (Value.int _ _)) _ _ _); with_reducible refine r_gt ?_)
  | ((with_reducible show wpAny _ _ (compareOp CmpOp.GtE (Value.int _ _) (Value.int _ _)) _ _ _); with_reducible refine r_ge ?_)
  | ((with_reducible show wpAny _ _ (execs [] _) _ _ _); refine wpAny_pure ?_)
  | ((with_reducible show wpAny _ _ (exec (Stmt.Try _ (_ :: _) _ [] _) _) _ _ _); with_reducible refine wpAny_Try_except ?_)
  | ((with_reducible show wpAny _ _ (isTrue (Expr.Compare _ (_ :: _ :: _) (_ :: _ :: _) _) _ _) _ _ _); with_reducible refine isTrue_chain ?_ (by kernel_rfl))
  | ((with_reducible show wpAny _ _ (testChain _ _ (_ :: _ :: _) (_ :: _ :: _)) _ _ _); with_reducible refine test_link ?_)
  | ((with_reducible show wpAny _ _ (testChain _ _ [_] _) _ _ _); with_reducible refine t_last ?_)
  | ((with_reducible show wpAny _ _ (isTrue (Expr.BoolOp BoolOp.And (_ :: _) _) _ _) _ _ _); with_reducible refine isTrue_and ?_)
  | ((with_reducible show wpAny _ _ (isTrue (Expr.BoolOp BoolOp.And [] _) _ _) _ _ _); with_reducible refine isTrue_and_nil ?_)
  | ((with_reducible show wpAny _ _ (isTrue (Expr.BoolOp BoolOp.Or (_ :: _) _) _ _) _ _ _); with_reducible refine isTrue_or ?_)
  | ((with_reducible show wpAny _ _ (isTrue (Expr.BoolOp BoolOp.Or [] _) _ _) _ _ _); with_reducible refine isTrue_or_nil ?_)
  | ((with_reducible show wpAny _ _ (isTrue (Expr.UnaryOp UnaryOp.Not _ _) _ _) _ _ _); with_reducible refine isTrue_not ?_)
  | ((with_reducible show wpAny _ _ (isTrue (Expr.Constant _ _ _) _ _) _ _ _); with_reducible refine isTrue_plain ?_ (by kernel_rfl))
  | ((with_reducible show wpAny _ _ (isTrue (Expr.Call _ _ _ _) _ _) _ _ _); with_reducible refine isTrue_plain ?_ (by kernel_rfl))
  | ((with_reducible show wpAny _ _ (isTrue (Expr.Name _ _) _ _) _ _ _); with_reducible refine isTrue_plain ?_ (by kernel_rfl))
  | ((with_reducible show wpAny _ _ (eval (Expr.IfExp _ _ _ _) _) _ _ _); with_reducible refine IfExp_ ?_)
  | ((with_reducible show wpAny _ _ (eval (Expr.Tuple _ _ _) _) _ _ _); with_reducible refine Tuple_ ?_)
  | ((with_reducible show wpAny _ _ (eval (Expr.List _ _) _) _ _ _); with_reducible refine List_ ?_)
  | ((with_reducible show wpAny _ _ (eval (Expr.Subscript _ (Expr.Slice _ _ none _) _) _) _ _ _); walk_at "slice")
  | ((with_reducible show wpAny _ _ (eval (Expr.Subscript _ _ _) _) _ _ _); with_reducible refine Subscript_ ?_)
  | ((with_reducible show wpAny _ _ (evalPart none _) _ _ _); with_reducible refine evalPart_none_step ?_)
  | ((with_reducible show wpAny _ _ (evalPart (some _) _) _ _ _); with_reducible refine evalPart_some_step ?_)
  | ((with_reducible show SliceOn _ _ _ _ _ (Value.ref _) _ _ _ _ _); (with_reducible rename Cx _ _ _ _ _ => C); with_reducible refine r_slice C (by walk_at "get") (by first | exact IsPart.none | exact IsPart.int _ _) (by first | exact IsPart.none | exact IsPart.int _ _) (by walk_at "size") ?_; clear C; intro a h C)
  | ((with_reducible show wpAny _ _ (eval (Expr.Call (Expr.Name _ _) _ [] _) _) _ _ _); with_reducible refine Call_ ?_ (by kernel_rfl))
  | ((with_reducible show wpAny _ _ (callWith _ (Value.ref _) [] (backTo _ (starEach (_ :: _) _)) []) _ _ _); with_reducible refine r_callf (by with_reducible assumption) ?_)
  | ((with_reducible show wpAny _ _ (callWith _ (Value.builtin _) [] (backTo _ (starEach (_ :: _) _)) []) _ _ _); with_reducible refine callWith_builtin1 ?_ (by kernel_rfl) (by kernel_rfl))
  | ((with_reducible show wpAny _ _ (callWith _ (Value.type _) [] (backTo _ (starEach (_ :: _) _)) []) _ _ _); with_reducible refine PyProof.Rows.callWith_type1 ?_ (by kernel_rfl) (by kernel_rfl))
  | ((with_reducible show wpAny _ _ (spliced (backTo _ (starEach (_ :: _) _))) _ _ _); with_reducible refine args_cons ?_ (by kernel_rfl))
  | ((with_reducible show wpAny _ _ (spliced (backTo _ (starEach [] _))) _ _ _); with_reducible refine args_nil ?_)
  | ((with_reducible show Kp _ _ ∧ wpAny _ _ (call _ _) _ _ _); (with_reducible rename Cx _ _ _ _ _ => C); refine ⟨Cx.keep C, ?_⟩)
  | ((with_reducible show wpAny _ _ (newTuple _) _ _ _); (with_reducible rename Cx _ _ _ _ _ => C); with_reducible refine r_newTuple C (by size_fits) ?_; clear C; intro a h C)
  | ((with_reducible show wpAny _ _ (newList _) _ _ _); (with_reducible rename Cx _ _ _ _ _ => C); with_reducible refine r_newList C (by size_fits) ?_; clear C; intro a h C)
  | ((with_reducible show if true = true then _ else _); with_reducible refine ite_t ?_)
  | ((with_reducible show if false = true then _ else _); with_reducible refine ite_f ?_)
  | ((with_reducible show if decide _ = true then _ else _); first | with_reducible refine ite_yes (by first | assumption | omega | decide) ?_ | with_reducible refine ite_no (by first | assumption | omega | decide) ?_)
  | ((with_reducible show wpAny _ _ (exec (Stmt.Expr _ _) _) _ _ _); with_reducible refine wpAny_Expr ?_ (by kernel_rfl) (by kernel_rfl))
  | ((with_reducible show wpAny _ _ (eval (Expr.Call (Expr.Attribute _ _ _) _ [] _) _) _ _ _); with_reducible refine r_mcall ?_)
  | ((with_reducible show wpAny _ _ (getMethod (Value.ref _) (Str.ofString "append") _) _ _ _); with_reducible refine r_getAppend (by walk_at "get") ?_; dsimp only)
  | ((with_reducible show wpAny _ _ (callWith _ (Value.builtin _) [_] (backTo _ (starEach (_ :: _) _)) []) _ _ _); with_reducible refine r_method1 ?_)
  | ((with_reducible show wpAny _ _ (callWith _ (Value.builtin _) [_] (backTo _ (starEach [] _)) []) _ _ _); with_reducible refine callWith_method0 ?_)
  | ((with_reducible show wpAny _ _ (call _ (_ ++ _)) _ _ _); simp only [List.cons_append, List.nil_append])
  | ((with_reducible show wpAny _ _ (call (Value.builtin "list.append") [Value.ref _, _]) _ _ _); (with_reducible rename Cx _ _ _ _ _ => C); with_reducible refine r_append C (by walk_at "upd") (by walk_at "size") ?_; clear C; intro h C)
  | ((with_reducible show wpAny _ _ (call (Value.builtin "len") [Value.ref _]) _ _ _); with_reducible refine r_len (by walk_at "get") (by walk_at "size") ?_; intro _ _)
  | ((with_reducible show wpAny _ _ (call (Value.builtin "len") [Value.bytes _ _]) _ _ _); with_reducible refine r_lenB (by walk_at "size") ?_; intro _ _)
  | ((with_reducible show wpAny _ _ (call (Value.builtin "isinstance") [Value.int _ _, Value.type "bool"]) _ _ _); with_reducible refine r_isiI ?_; intro _)
  | ((with_reducible show wpAny _ _ (call (Value.builtin "isinstance") [Value.none, Value.type "bool"]) _ _ _); with_reducible refine r_isiN ?_; intro _)
  | ((with_reducible show wpAny _ _ (eval (Expr.UnaryOp _ _ _) _) _ _ _); with_reducible refine UnaryOp_ ?_)
  | ((with_reducible show wpAny _ _ (unaryOp UnaryOp.USub (Value.int _ _)) _ _ _); with_reducible refine r_neg ?_; intro _ _)
  | ((with_reducible show wpAny _ _ (call (Value.type "range") [Value.int _ _]) _ _ _); (with_reducible rename Cx _ _ _ _ _ => C); with_reducible refine r_range1 C ?_; clear C; intro a h _ _ _ _ C)
  | ((with_reducible show wpAny _ _ (call (Value.type "range") [Value.int _ _, Value.int _ _]) _ _ _); (with_reducible rename Cx _ _ _ _ _ => C); with_reducible refine r_range2 C ?_; clear C; intro a h _ _ _ _ C)
  | ((with_reducible show wpAny _ _ (subscriptTail _ _ (Value.str (Str.ofString "ABCDEFGHIJKLMNOPQRSTUVWXYZ0123456789") _) (Value.int _ _)) _ _ _); with_reducible refine r_sgn (by omega) (by omega) ?_; intro _ _)
  | ((with_reducible show wpAny _ _ (call (Value.builtin "ord") [Value.str (Str.mk #[Int.toNat (sgn _)]) _]) _ _ _); with_reducible refine r_ordS (by omega) (by omega) ?_; intro _ _)
  | ((with_reducible show wpAny _ _ (call (Value.builtin "sum") [Value.ref _]) _ _ _); (with_reducible rename Cx _ _ _ _ _ => C); with_reducible refine r_sum C (by walk_at "hh") (by walk_at "get") (by walk_at "ints") ?_; clear C; intro h _ _ C)
  | ((with_reducible show wpAny _ _ (compareOp CmpOp.Eq (Value.str _ _) (Value.str _ _)) _ _ _); first | with_reducible refine r_eqSF (by with_reducible assumption) ?_ | with_reducible refine r_eqST (by first | with_reducible assumption | rfl) ?_)
  | ((with_reducible show wpAny _ _ (exec (Stmt.Assign [Expr.Tuple _ _ _] _ _) _) _ _ _); with_reducible refine PyProof.Rows.Assign_Tuple ?_ (by kernel_rfl) (by kernel_rfl))
  | ((with_reducible show wpAny _ _ (assign (Expr.Tuple [Expr.Name _ _, Expr.Name _ _] _ _) _ (Value.ref _)) _ _ _); (with_reducible rename Cx _ _ _ _ _ => C); with_reducible refine r_unpack2 C (by walk_at "get") (by walk_at "hh") ?_; clear C; intro h C)
  | ((with_reducible show wpAny _ _ (getMethod (Value.str _ _) (Str.ofString "find") _) _ _ _); with_reducible refine r_getFind ?_; dsimp only)
  | ((with_reducible show wpAny _ _ (call (Value.builtin "str.find") [Value.str _ _, Value.str (Str.mk #[Int.toNat _]) _]) _ _ _); with_reducible refine r_find (by omega) (by omega) ?_; intro _ _)
  | ((with_reducible show wpAny _ _ (call (Value.builtin "chr") [Value.int _ _]) _ _ _); with_reducible refine r_chr (by omega) (by omega) ?_; intro _ _)
  | ((with_reducible show wpAny _ _ (call (Value.builtin "divmod") [Value.int _ _, Value.int _ _]) _ _ _); (with_reducible rename Cx _ _ _ _ _ => C); with_reducible refine r_divmod C (by omega) (by omega) ?_; clear C; intro _ h _ _ _ C)
  | ((with_reducible show wpAny _ _ (compareOp CmpOp.Is (Value.int _ _) Value.none) _ _ _); with_reducible refine r_isI ?_)
  | ((with_reducible show wpAny _ _ (compareOp CmpOp.Is Value.none Value.none) _ _ _); with_reducible refine r_isNN ?_)
  | ((with_reducible show wpAny _ _ (compareOp CmpOp.IsNot (Value.int _ _) Value.none) _ _ _); with_reducible refine r_isNotI ?_)
  | ((with_reducible show wpAny _ _ (compareOp CmpOp.IsNot Value.none Value.none) _ _ _); with_reducible refine r_isNotN ?_)
  | ((with_reducible show wpAny _ _ (subscriptTail _ _ (Value.ref _) (Value.int _ _)) _ _ _); with_reducible refine r_tit (by walk_at "get") (by decide) (by with_unfolding_all exact rfl) (by walk_at "size") ?_)
  | ((with_reducible show wpAny _ _ (call (Value.type "range") [Value.int _ _, Value.int _ _, Value.int _ _]) _ _ _); (with_reducible rename Cx _ _ _ _ _ => C); with_reducible refine r_range3 C (by decide) (by decide) ?_; clear C; intro a h _ _ _ _ C)
  | walk_at "m2")
local macro_rules | `(tactic| walk_at "slice") => `(tactic| with_reducible refine r_subslice ?_)
local macro_rules | `(tactic| walk_at "get") => `(tactic| ((with_reducible rename Cx _ _ _ _ _ => C); first | exact Cx.old C (by with_reducible assumption) | exact Cx.at C (by walk_at "mem")))
local macro_rules | `(tactic| walk_at "mem") => `(tactic| ((repeat (first | with_reducible exact List.mem_cons_self | with_reducible refine List.mem_cons_of_mem _ ?_)); done))
local macro_rules | `(tactic| walk_at "upd") => `(tactic| first | with_reducible exact UpdAt.head | with_reducible exact UpdAt.tail (UpdAt.head) | with_reducible exact UpdAt.tail (UpdAt.tail (UpdAt.head)) | with_reducible exact UpdAt.tail (UpdAt.tail (UpdAt.tail (UpdAt.head))) | with_reducible exact UpdAt.tail (UpdAt.tail (UpdAt.tail (UpdAt.tail (UpdAt.head)))) | with_reducible exact UpdAt.tail (UpdAt.tail (UpdAt.tail (UpdAt.tail (UpdAt.tail (UpdAt.head))))) | with_reducible exact UpdAt.tail (UpdAt.tail (UpdAt.tail (UpdAt.tail (UpdAt.tail (UpdAt.tail (UpdAt.head)))))) | with_reducible exact UpdAt.tail (UpdAt.tail (UpdAt.tail (UpdAt.tail (UpdAt.tail (UpdAt.tail (UpdAt.tail (UpdAt.head))))))) | with_reducible exact UpdAt.tail (UpdAt.tail (UpdAt.tail (UpdAt.tail (UpdAt.tail (UpdAt.tail (UpdAt.tail (UpdAt.tail (UpdAt.head)))))))) | with_reducible exact UpdAt.tail (UpdAt.tail (UpdAt.tail (UpdAt.tail (UpdAt.tail (UpdAt.tail (UpdAt.tail (UpdAt.tail (UpdAt.tail (UpdAt.head))))))))) | with_reducible exact UpdAt.tail (UpdAt.tail (UpdAt.tail (UpdAt.tail (UpdAt.tail (UpdAt.tail (UpdAt.tail (UpdAt.tail (UpdAt.tail (UpdAt.tail (UpdAt.head)))))))))) | with_reducible exact UpdAt.tail (UpdAt.tail (UpdAt.tail (UpdAt.tail (UpdAt.tail (UpdAt.tail (UpdAt.tail (UpdAt.tail (UpdAt.tail (UpdAt.tail (UpdAt.tail (UpdAt.head))))))))))))
local macro_rules | `(tactic| walk_at "size") => `(tactic| first | omega | (simp only [List.length_cons, List.length_nil, List.length_append, List.length_map]; omega) | (simp; omega))
local macro_rules | `(tactic| walk_at "m2") => `(tactic| fail "no step")
local macro_rules | `(tactic| walk_at "hh") => `(tactic| (first | with_reducible assumption | (rename Around.handled _ = none => hh; with_unfolding_all exact hh)))
local macro_rules | `(tactic| walk_at "ints") => `(tactic| (first | with_reducible assumption | exact sp_ints (by with_reducible assumption) _ _))

local macro_rules | `(tactic| walk_at "depth") => `(tactic| first | omega | (show Around.depth _ + 1 < _; omega))
local macro_rules | `(tactic| walk_at "mul") => `(tactic| first | exact IntMulOk.of_left (intBits_le_64 (by omega) (by omega)) | exact IntMulOk.of_right (intBits_le_64 (by omega) (by omega)))
local macro_rules | `(tactic| walk_at "mem") => `(tactic| ((repeat (first | with_reducible exact List.mem_cons_self | with_reducible assumption | with_reducible refine List.mem_cons_of_mem _ ?_)); done))
local macro_rules | `(tactic| walk_at "c") => `(tactic| first
  | ((with_reducible show wpC _ _ (execs (_ :: _) _) _ _ _); with_reducible refine c_cons ?_)
  | ((with_reducible show wpC _ _ (execs [] _) _ _ _); refine wpC_pure ?_)
  | ((with_reducible show wpC _ _ (exec (Stmt.If _ _ _ _) _) _ _ _); with_reducible refine c_If ?_)
  | ((with_reducible show wpC _ _ (isTrue (Expr.Compare (Expr.Call (Expr.Name (Str.ofString "generate_generalized_integer") _) _ _ _) _ _ _) _ _) _ _ _); with_reducible refine c_isCmp ?_)
  | ((with_reducible show wpC _ _ (isTrue (Expr.Compare (Expr.Call (Expr.Name (Str.ofString "_law_written") _) _ _ _) _ _ _) _ _) _ _ _); with_reducible refine c_isCmp ?_)
  | ((with_reducible show wpC _ _ (isTrue (Expr.BoolOp BoolOp.Or (_ :: _) _) _ _) _ _ _); with_reducible refine c_isOr ?_)
  | ((with_reducible show wpC _ _ (eval (Expr.Call (Expr.Attribute (Expr.Call _ _ _ _) _ _) _ _ _) _) _ _ _); with_reducible refine c_mcallR ?_)
  | ((with_reducible show wpC _ _ (eval (Expr.Call (Expr.Name _ _) _ _ _) _) _ _ _); with_reducible refine c_CallN ?_)
  | ((with_reducible show wpC _ _ (callWith _ (Value.ref _) [] (backTo _ (starEach (_ :: _) _)) []) _ _ _); with_reducible refine c_callf (by with_reducible assumption) ?_)
  | ((with_reducible show Kp _ _ ∧ wpC _ _ (call _ _) _ _ _); (with_reducible rename Cx _ _ _ _ _ => C); refine ⟨Cx.keep C, ?_⟩)
  | ((with_reducible show wpAny _ _ (getMethod (Value.bytes _ _) (Str.ofString "upper") _) _ _ _); with_reducible refine r_getUpper ?_; dsimp only)
  | ((with_reducible show wpC _ _ (isTrue _ _ _) _ _ _); with_reducible refine wpC_of ?_)
  | ((with_reducible show wpC _ _ (exec (Stmt.Assign _ _ _) _) _ _ _); with_reducible refine wpC_of ?_)
  | ((with_reducible show wpC _ _ (exec (Stmt.AugAssign _ _ _ _) _) _ _ _); with_reducible refine wpC_of ?_)
  | ((with_reducible show wpC _ _ (exec (Stmt.Return _ _) _) _ _ _); with_reducible refine wpC_of ?_)
  | ((with_reducible show wpC _ _ (exec (Stmt.Expr _ _) _) _ _ _); with_reducible refine wpC_of ?_))
local macro_rules | `(tactic| walk_at "m2") => `(tactic| first
  | ((with_reducible show wpAny _ _ (eval (Expr.Name (Str.ofString "rows") _) _) _ _ _); (with_reducible rename Cx _ _ _ _ _ => C); with_reducible refine nm_c (c := _ + 1) C (by walk_at "mem") (by kernel_rfl) ?_)
  | ((with_reducible show wpAny _ _ (eval (Expr.Name (Str.ofString "cut") _) _) _ _ _); (with_reducible rename Cx _ _ _ _ _ => C); with_reducible refine nm_c (c := _ + 2) C (by walk_at "mem") (by kernel_rfl) ?_)
  | ((with_reducible show wpAny _ _ (exec (Stmt.Assign [Expr.Subscript _ _ _] _ _) _) _ _ _); with_reducible refine wpAny_Assign_Subscript ?_ (by kernel_rfl))
  | ((with_reducible show wpAny _ _ (compareOp CmpOp.Is (Value.ref _) Value.none) _ _ _); with_reducible refine r_isR ?_)
  | ((with_reducible show wpAny _ _ (eval (Expr.Name _ _) _) _ _ _); (with_reducible rename Cx _ _ _ _ _ => C); first | with_reducible refine nm_c C (by walk_at "mem") (by kernel_rfl) ?_ | with_reducible refine nm_f C (by walk_at "mem") (by kernel_rfl) ?_)
  | ((with_reducible show wpAny _ _ (loadName _ _) _ _ _); (with_reducible rename Cx _ _ _ _ _ => C); with_reducible refine ldn_c C (by walk_at "mem") (by kernel_rfl) ?_)
  | ((with_reducible show wpAny _ _ (call (Value.ref _) [Value.int _ _, Value.int _ _]) _ _ _); (with_reducible rename Cx _ _ _ _ _ => C); (with_reducible rename Gl _ _ _ => G); refine T_spec (Gl.kp G (Cx.keep C)) (Fn.kp (by with_reducible assumption) (Cx.keep C)) (by walk_at "depth") ?_; intro h t _ hk; replace C := Cx.grown C hk)
  | ((with_reducible show wpAny _ _ (binaryOp Operator.Add (Value.ref _) (Value.ref _)) _ _ _); (with_reducible rename Cx _ _ _ _ _ => C); with_reducible refine r_addL C (by walk_at "get") (by walk_at "get") (by walk_at "size") ?_; clear C; intro a h C)
  | walk_at "c")
local macro_rules | `(tactic| walk_at "w") => `(tactic| first
  | ((with_reducible show wpAny _ _ (storeName _ (Str.ofString "rows") _) _ _ _); (with_reducible rename Cx _ _ _ _ _ => C); with_reducible refine st_c C (by walk_at "upd") (by kernel_rfl) ?_; clear C; intro h C)
  | walk_at "m")

theorem paired_map {f : Int → Int} {vs ys : List Value} {ns : List Int} (hi : IntsAre vs ns) (hp : Paired (fun v y => ∃ x t t', v = Value.int x t ∧ y = Value.int (f x) t') vs ys) : IntsAre ys (ns.map f) := by
  induction hi generalizing ys with
  | nil => cases hp; exact .nil
  | cons n t _ ih =>
    cases hp with
    | cons h1 h2 =>
      obtain ⟨x, t1, t2, e1, rfl⟩ := h1
      cases e1
      exact .cons _ _ (ih h2)
/-- behind the numbers -/
theorem rest7 {prog : Program} {w : World} {A : Around} {h₀ h : Heap} {mg mb m : Str → Option Value} {L : Addr}
  {g : Array GenState} {d : Drawn} {t : Nat} {o : OsState} {Q : Flow → Shared → Prop} {aT aD aG aR aV a na : Addr} {cT cD cG cR cV cd : Value} {ob1 ob2 : Obj} {nv : List Value} {e6 : Nat} {bias : Int} {tb td : Tok} {ls : List (List Int)} {ns : List Int} {body : List Stmt}
  (G : Gl mg mb h₀) (fT : FT mg h₀ aT cT) (fD : FD mg h₀ aD cD) (fG : FG mg h₀ aG cG) (fR : FR mg h₀ aR cR) (fV : FV mg h₀ aV cV) (nDg : mg (Str.ofString "digits") = some (.bytes LOWS td)) (hd : A.depth + 12 < recursionLimit) (hh : A.handled = none) (hu : A.units + 85 < cLine) (hg : A.guards = some [])
  (C : Cx h₀ L h m [(na, lst nv e6), (L + 1, celO ob1 none), (L + 2, celO ob2 none)])
  (hm : Has m [(Str.ofString "bias", .int bias tb), (Str.ofString "numbers", .ref na)])
  (hnv : IntsAre nv ns) (hs : Gs bias ns ls) (hl : ls.length ≤ 100)
  (k : ∀ h' t', Kp h₀ h' → Q (.ret (.bool true)) ⟨h', g, d, t', o⟩)
  (hb : body = (sBody dW).drop 2 := by kernel_rfl) :
  wpC (model prog w) A (execs body (envOfC (sName dW) (sScope dW) L a cd)) Q (fun _ _ => False) ⟨h, g, d, t, o⟩ := by
  subst hb
  have nR : mg (Str.ofString "_law_read") = some (.ref aR) := fR.nm
  have nV : mg (Str.ofString "_law_written") = some (.ref aV) := fV.nm
  have hnl := hnv.length
  have hsl := hs.len
  rw [hm.eq] at C
  clear hm
  conv in (execs _ _) => arg 1; whnf
  refine c_cons (c_Assign ?_)
  repeat walk_at "w"
  rename Cx _ _ _ _ _ => C
  rename Gl _ _ _ => G
  refine written_spec (G.kp C.keep) (fT.kp C.keep) (fG.kp C.keep) (fV.kp C.keep) nDg (by omega) hh (by omega) hg (C.at (by walk_at "mem")) hnv hs (by omega) ?_
  intro ra h3 t3 rv e5 hk3 hn3 hg3 hrv
  replace C := C.add hk3 hn3 hg3
  clear hk3 hn3 hg3
  repeat walk_at "w"
  rename Cx _ _ _ _ _ => C
  rename Gl _ _ _ => G
  refine read_spec (G.kp C.keep) (fT.kp C.keep) (fD.kp C.keep) (fR.kp C.keep) (by omega) hh (by omega) (C.at (by walk_at "mem")) hrv hs (by omega) ?_
  intro x1 h3 t3 ys e3 hk3 hn3 hg3 hys
  replace C := C.add hk3 hn3 hg3
  clear hk3 hn3 hg3
  repeat walk_at "w"
  rename Cx _ _ _ _ _ => C
  refine r_neL_same (C.at (by walk_at "mem")) (C.at (by walk_at "mem")) hys hnv (by omega) ?_
  repeat walk_at "w"
  refine r_forC ?_
  repeat walk_at "w"
  rename Cx _ _ _ _ _ => C
  rename Gl _ _ _ => G
  refine cuts7 G fT fD fG fR fV nDg hd hh hu hg ((C.sub (.cons_cons _ (.cons _ (.refl _)))).perm (List.perm_middle (l₁ := [_, _, _, _]) (l₂ := [])).symm) ⟨rfl, rfl, trivial⟩ hrv hnv hs hl ?_
  intro h' t' hk
  repeat walk_at "w"
  exact k _ _ hk
theorem law_spec {prog : Program} {w : World} {A : Around} {E : Value → Shared → Prop} {h : Heap} {mg mb : Str → Option Value}
  {g : Array GenState} {d : Drawn} {t : Nat} {o : OsState} {Q : Value → Shared → Prop} {aT aD aG aR aV a l : Addr} {cT cD cG cR cV cd : Value} {vs : List Value} {n : Nat} {xs : List Int} {td : Tok}
  (G : Gl mg mb h) (fT : FT mg h aT cT) (fD : FD mg h aD cD) (fG : FG mg h aG cG) (fR : FR mg h aR cR) (fV : FV mg h aV cV) (f : FW mg h a cd) (nDg : mg (Str.ofString "digits") = some (.bytes LOWS td)) (hd : A.depth + 20 < recursionLimit) (hh : A.handled = none) (hu : A.units + 100 < cLine) (hg : A.guards = some [])
  (hx : h.get? l = some (lst vs n)) (hi : IntsAre vs xs) (hz : xs.length ≤ 63)
  (k : ∀ h' t', Kp h h' → Q (.bool true) ⟨h', g, d, t', o⟩) :
  wpC (model prog w) A (call (.ref a) [.ref l]) Q E ⟨h, g, d, t, o⟩ := by
  have nR : mg (Str.ofString "_law_read") = some (.ref aR) := fR.nm
  have nV : mg (Str.ofString "_law_written") = some (.ref aV) := fV.nm
  have hlen := hi.length
  refine call_fn2C (x := Str.ofString "rows") (y := Str.ofString "cut") (binds := [(Str.ofString "script", .ref l)]) (lb := [(Str.ofString "script", .ref l)]) G f (by omega) (fun ob1 ob2 h1 t C => ?_) ?_ ?_ ?_ ?_ ?_ ?_ ?_ rfl rfl rfl
  · conv in (execs _ _) => arg 1; whnf
    show wpC _ _ (execs (_ :: _ :: List.drop 2 (sBody dW)) _) _ _ _
    repeat walk_at "w"
    rename Cx _ _ _ _ _ => C
    refine r_compL (cl := []) (g := g) (d := d) (o := o) C (fun v y => ∃ x t t', v = Value.int x t ∧ y = Value.int ((x.natAbs : Int) % 1679616) t') hh (by kernel_rfl) (by decide +kernel) (by decide +kernel) ?_
    repeat walk_at "w"
    rename Cx _ _ _ _ _ => C
    have hits := sp_ints hi (some 1) (some 13)
    have hitl := hits.length
    have hpl := pick_len xs (some 1) (some 13)
    refine ⟨_, _, _, _, _, _, rfl, rfl, C, C.at (.head _), by omega, ?_, ?_⟩
    · clear C
      intro C' v h3 g3 d3 t3 o3 m3 E' hv hk C
      obtain ⟨y, ty, rfl, hy⟩ := ints_mem hits hv
      repeat walk_at "w"
      refine r_abs ?_
      intro _ _
      repeat walk_at "w"
      exact ⟨⟨y, _, _, rfl, rfl⟩, _, _, rfl, fun _ _ e => e⟩
    · clear C
      intro z h' t' zs e' C hk hp
      have hzs := paired_map (f := fun x => (x.natAbs : Int) % 1679616) hits hp
      have hzl := hzs.length
      rw [List.length_map] at hzl
      clear hk
      repeat walk_at "w"
      rename Cx _ _ _ _ _ => C
      rename Gl _ _ _ => G
      obtain ⟨ls, hs⟩ := Gs.ex (72 + (pick xs none (some 1)).sum + (pick xs (some 13) none).sum) ([1000, 54321] ++ List.map (fun x => (x.natAbs : Int) % 1679616) (pick xs (some 1) (some 13))) (by
        intro y hy
        rcases List.mem_append.mp hy with hy | hy
        · rcases List.mem_cons.mp hy with rfl | hy
          · decide
          · rw [List.mem_singleton.mp hy]; decide
        · obtain ⟨x, _, rfl⟩ := List.mem_map.mp hy
          have h0 := Int.emod_nonneg (x.natAbs : Int) (show (1679616 : Int) ≠ 0 by decide)
          have h1 := Int.emod_lt_of_pos (x.natAbs : Int) (show (0 : Int) < 1679616 by decide)
          exact ⟨h0, Int.lt_trans h1 (by decide)⟩)
      have hsl := hs.len
      rw [List.length_append, List.length_map] at hsl
      have hl2 : ([1000, 54321] : List Int).length = 2 := rfl
      dsimp only
      refine rest7 (A := A.deeper _) G fT fD fG fR fV nDg (by show A.depth + 1 + 12 < _; omega) hh (by show A.units + 3 + 85 < _; omega) hg (C.sub (.cons_cons _ (.cons _ (.cons _ (.cons _ (.cons _ (.cons _ (.refl _)))))))) ⟨rfl, rfl, trivial⟩ (ints_app (.cons _ _ (.cons _ _ .nil)) hzs) hs (by omega) ?_
      intro h' t' hk
      exact k _ _ hk
  · intro pm doc; rfl
  · intro n; rfl
  · simp only [List.forall_mem_cons]; exact ⟨rfl, fun _ h => nomatch h⟩
  · intro L a cd; rfl
  · rfl
  · intro L a cd; rfl
  · intro L a cd; rfl
end Mine

namespace Mine
open PySem PySem.W PyProof.Rows PySem.Calls
set_option maxRecDepth 100000
set_option maxHeartbeats 8000000
theorem dig_of {p : Program} {mg : Str → Option Value} {h : Heap} (W : TopW p mg h) (e : (Str.ofString "digits", WData.bytes LOWS.toList) ∈ wlitsOf p) : ∃ td, mg (Str.ofString "digits") = some (.bytes LOWS td) := by
  obtain ⟨v, h1, h2⟩ := W.lits _ e
  have h3 : ReadsW _ _ h v (WData.bytes LOWS.toList) [] := h2
  generalize hl : LOWS.toList = l at h3
  cases h3 with
  | bytes b t =>
    have : b = LOWS := Array.toList_inj.mp hl.symm
    subst this
    exact ⟨t, h1⟩
theorem main7 : PySem.Challenge.rw_dm0102_07.Holds := Mine.H.hd7 (by
  intro w s₀ s₁ mg mb G Y fa ob pm cd doc dV kV ho hd hcd hD hmg hg args vals as hpre hlay hrd hwl hlo
  have T := G.T
  have G1 : Gl mg mb s₁.heap := gl_of T (by decide +kernel)
  obtain ⟨aT, cT, fT⟩ := fn_of T 0 (dAt P 1) (by kernel_rfl)
  obtain ⟨aG, cG, fG⟩ := fn_of T 1 (dAt P 3) (by kernel_rfl)
  obtain ⟨aD, cD, fD⟩ := fn_of T 2 (dAt P 4) (by kernel_rfl)
  obtain ⟨aR, cR, fR⟩ := fn_of T 3 (dAt P 6) (by kernel_rfl)
  obtain ⟨aV, cV, fV⟩ := fn_of T 4 (dAt P 7) (by kernel_rfl)
  obtain ⟨aW, cW, fW⟩ := fn_of T 5 (dAt P 8) (by kernel_rfl)
  obtain ⟨td, nDg⟩ := dig_of G.W (by decide +kernel)
  wrow_args hpre hlay hrd hwl hlo
  rename Well _ _ (Value.ref _) _ => W1
  rename IntsAre _ _ => hI
  rename ¬ _ < _ => hc
  rename Heap.IsList _ _ _ => hL
  have e : fa = aW := by
    have q := fW.nm
    rw [show sName (dAt P 8) = Str.ofString "law" from by kernel_rfl] at q
    have := hmg.symm.trans q
    simpa using this
  subst e
  have hx := well_list W1 hL
  obtain ⟨h1, g1, d1, t1, o1⟩ := s₁
  refine law_spec G1 fT fD fG fR fV fW nDg (by decide) rfl (by decide) rfl hx hI (by omega) ?_
  intro h' t' hk
  exact good_true hk hg (raisesW_false (by intro _ h; cases h)) (postW_of (X := true) (by kernel_rfl) (by kernel_rfl) rfl))
end Mine
set_option maxRecDepth 100000 in
theorem PySem.Challenge.cw_dm0102_07_holds : PySem.Challenge.rw_dm0102_07.Holds :=
  Mine.main7
