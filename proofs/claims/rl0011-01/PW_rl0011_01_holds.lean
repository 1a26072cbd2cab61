import PyProof.Rows.All
import Wide.All
import OpenK.AllK
import Wide.FinOn
import Lean
import PySem.Challenge.RW_rl0011_01
open PySem PySem.W PySem.W.X PyProof.Rows
set_option Elab.async false
set_option linter.unusedVariables false
namespace Mine
local macro_rules | `(tactic| o_head (kHook $K $as $e)) => `(tactic| o_head (kmHook $K $as $e [77, 84]))
set_option maxRecDepth 100000 in
set_option maxHeartbeats 8000000 in
open_top hd for PySem.Challenge.rw_rl0011_01
end Mine
namespace Mine
noncomputable section
abbrev prg : Program := PySem.Challenge.rw_rl0011_01.row.prog
abbrev mo (w : World) : Model := model prg w
abbrev KK (w : World) : Frag := hd.heap_39 w.params
/-- a place of the run that has room -/
abbrev A0 (fr : List Env) (gd : Option (List Code)) : Around := { handled := none, depth := 600, frames := some fr, guards := gd, units := 6000 }
/-- the places that we walk in -/
structure Ok (n : Nat) (A : Around) : Prop where
  hh : A.handled = none
  fr : ∃ fr, A.frames = some fr
  dp : A.depth + n ≤ 600
  un : A.units + 10 * n ≤ 6000
theorem in_weak {Γ : Ctx} {A B : Around} (h : Γ.In A) (h1 : A.handled = B.handled) (h2 : A.depth ≤ B.depth) (h3 : A.frames = B.frames) (h4 : A.guards = B.guards) (h5 : A.units ≤ B.units) : Γ.In B := by
  obtain ⟨a, b, c, d, e⟩ := h
  exact ⟨a.trans h1, Nat.le_trans b h2, fun l hl => c l (h3.trans hl), fun g hg => d g (h4.trans hg), Nat.le_trans e h5⟩
theorem wp_weak {α : Type} {M : Model} {A B : Around} {t : Sem α} {Q : α → Shared → Prop} {E : Value → Shared → Prop} {s : Shared} (h : wpAny M B t Q E s) (h1 : A.handled = B.handled) (h2 : A.depth ≤ B.depth) (h3 : A.frames = B.frames) (h4 : A.guards = B.guards) (h5 : A.units ≤ B.units) :
    wpAny M A t Q E s := fun Γ p hΓ => h Γ p (in_weak hΓ h1 h2 h3 h4 h5)
theorem wp_at0 {α : Type} {M : Model} {A : Around} {n : Nat} {t : Sem α} {Q : α → Shared → Prop} {E : Value → Shared → Prop} {s : Shared} (ok : Ok n A) (h : ∀ fr gd, wpAny M (A0 fr gd) t Q E s) : wpAny M A t Q E s := by
  obtain ⟨fr, hfr⟩ := ok.fr
  exact wp_weak (h fr A.guards) ok.hh (Nat.le_trans (Nat.le_add_right _ _) ok.dp) hfr rfl (Nat.le_trans (Nat.le_add_right _ _) ok.un)
theorem Ok.deeper {n : Nat} {A : Around} (ok : Ok (n + 1) A) (env : Env) : Ok n (A.deeper env) := by
  obtain ⟨a, ⟨fr, b⟩, c, d⟩ := ok
  refine ⟨a, ⟨env :: fr, by simp [Around.deeper, b]⟩, ?_, ?_⟩
  · show A.depth + 1 + n ≤ 600; omega
  · show A.units + 3 + 10 * n ≤ 6000; omega
theorem Ok.in1 {n : Nat} {A : Around} (ok : Ok (n + 1) A) : Ok n A.in1 := by
  obtain ⟨a, b, c, d⟩ := ok
  refine ⟨a, b, ?_, ?_⟩
  · show A.depth + n ≤ 600; omega
  · show A.units + 1 + 10 * n ≤ 6000; omega
theorem Ok.le {n m : Nat} {A : Around} (ok : Ok n A) (h : m ≤ n) : Ok m A := ⟨ok.hh, ok.fr, by have := ok.dp; omega, by have := ok.un; omega⟩
theorem Ok.room {n : Nat} {A : Around} (ok : Ok n A) : A.depth < recursionLimit := by have := ok.dp; unfold recursionLimit; omega
/-- what is kept, but for some places -/
def Kp (W : List Addr) (h h' : Heap) : Prop := ∀ b o, b ∉ W → h.get? b = some o → h'.get? b = some o
theorem Kp.refl (W : List Addr) (h : Heap) : Kp W h h := fun _ _ _ e => e
theorem Kp.trans {W : List Addr} {a b c : Heap} (x : Kp W a b) (y : Kp W b c) : Kp W a c := fun p o hp e => y p o hp (x p o hp e)
theorem Kp.mono {W V : List Addr} {a b : Heap} (x : Kp W a b) (h : ∀ p ∈ W, p ∈ V) : Kp V a b := fun p o hp e => x p o (fun m => hp (h p m)) e
theorem Kp.nil {a b : Heap} (x : Kp [] a b) (W : List Addr) : Kp W a b := x.mono fun _ h => nomatch h
theorem Kp.of {a b : Heap} (x : ∀ p o, a.get? p = some o → b.get? p = some o) : Kp [] a b := fun p o _ e => x p o e
theorem Kp.all {a b : Heap} (x : Kp [] a b) : ∀ p o, a.get? p = some o → b.get? p = some o := fun p o e => x p o (fun h => nomatch h) e
theorem Kp.mem {h h' : Heap} {news : List (Addr × Obj)} (D : Mem h h' [] news) : Kp [] h h' := fun b o _ e => D.keep b o e (by simp [away])
theorem Kp.same {a : Addr} {h h' : Heap} (x : Heap.SameBut a h h') : Kp [a] h h' := fun b o hb e => (x.2 b (fun e => hb (by simp [e]))).trans e
theorem Kp.push (h : Heap) (o : Obj) : Kp [] h (h.push o) := fun _ _ _ e => Heap.get?_push_of_some _ e
theorem Kp.upd (h : Heap) (a : Addr) (f : Obj → Obj) : Kp [a] h (h.update a f) := .same (Heap.SameBut.update ..)
theorem notin1 {a b : Nat} (h : a ≠ b) : (a : Addr) ∉ ([b] : List Addr) := fun e => h (List.mem_singleton.mp e)
theorem ltOf {h : Heap} {a : Nat} {o : Obj} (e : h.get? a = some o) : a < h.objs.size := Heap.lt_size e
theorem new_of {h : Heap} {a : Nat} (e : h.objs.size ≤ a) : h.get? a = none := by
  cases q : h.get? a with
  | none => rfl
  | some o => exact absurd (Heap.lt_size q) (Nat.not_lt.mpr e)
theorem ne_of {h : Heap} {a b : Nat} {o : Obj} (e : h.get? a = some o) (n : h.get? b = none) : a ≠ b := by
  rintro rfl
  rw [e] at n; cases n
/-- the names that the machine brings -/
def BI (h : Heap) : Prop := ∃ mb, h.Ns 0 mb ∧ ∀ x : Str, x ≠ "__name__" → mb x = bootBuiltins x
/-- the written part, and these names -/
structure HX (K : Frag) (h : Heap) : Prop where
  x : K.In h
  b : BI h
theorem nomem {α : Type} {a : α} : a ∉ ([] : List α) := fun h => nomatch h
end
end Mine
namespace Mine
theorem noLimit_of {P : Params} {h : Heap} (X : HX (hd.heap_39 P) h) : h.NoLimit := by
  refine ⟨fun _ => none, ⟨_, #[], 0, X.x 2 _ rfl, rfl, ?_, fun _ => rfl⟩, rfl⟩
  intro e he; simp at he
/-- no place of the written part, nor of the machine's names -/
def NK (a : Addr) : Prop := (∀ P, a ∉ (hd.heap_39 P).map (·.1)) ∧ a ≠ 0
theorem keys_eq (P P' : Params) : (hd.heap_39 P).map (·.1) = (hd.heap_39 P').map (·.1) := by kernel_rfl
theorem lookup_keys {a : Addr} {o : Obj} : ∀ {l : List (Addr × Obj)}, l.lookup a = some o → a ∈ l.map (·.1)
  | [], e => by cases e
  | (b, o') :: r, e => by
    rw [List.lookup_cons] at e
    split at e
    · rename_i hb
      rw [beq_iff_eq.mp hb]
      exact .head _
    · exact .tail _ (lookup_keys e)
theorem keys_lookup {a : Addr} : ∀ {l : List (Addr × Obj)}, a ∈ l.map (·.1) → ∃ o, l.lookup a = some o
  | [], e => nomatch e
  | (b, o') :: r, e => by
    rw [List.lookup_cons]
    by_cases hb : (a == b) = true
    · exact ⟨o', by rw [hb]⟩
    · rcases List.mem_cons.mp e with e | e
      · exact absurd (beq_iff_eq.mpr e) hb
      · obtain ⟨o, q⟩ := keys_lookup e
        have : (a == b) = false := by simpa using hb
        exact ⟨o, by rw [this]; exact q⟩
theorem NK.of_none {P : Params} {h : Heap} {a : Addr} (X : HX (hd.heap_39 P) h) (e : h.get? a = none) : NK a := by
  refine ⟨fun P' hm => ?_, fun q => ?_⟩
  · rw [keys_eq P' P] at hm
    obtain ⟨o, q⟩ := keys_lookup hm
    rw [X.x _ _ q] at e; cases e
  · obtain ⟨_, ⟨_, _, _, q', _⟩, _⟩ := X.b
    rw [q] at e; rw [e] at q'; cases q'
theorem NK.size {P : Params} {h : Heap} (X : HX (hd.heap_39 P) h) : NK h.objs.size := NK.of_none X (new_of (Nat.le_refl _))
theorem in_keep {P : Params} {h h' : Heap} {W : List Addr} (X : HX (hd.heap_39 P) h) (k : Kp W h h') (hW : ∀ a ∈ W, NK a) : HX (hd.heap_39 P) h' := by
  refine ⟨fun a o e => k a o (fun hm => (hW a hm).1 P (lookup_keys e)) (X.x a o e), ?_⟩
  obtain ⟨mb, nb, hb⟩ := X.b
  exact ⟨mb, nb.at' fun o e => k _ o (fun hm => (hW 0 hm).2 rfl) e, hb⟩
theorem NK.ne {P : Params} {h : Heap} {a b : Addr} {o : Obj} (n : NK a) (e : (hd.heap_39 P).lookup b = some o) : a ≠ b := by
  rintro rfl
  exact n.1 P (lookup_keys e)
theorem NK.one {a : Addr} (n : NK a) : ∀ b ∈ [a], NK b := fun b hb => by rw [List.mem_singleton.mp hb]; exact n
theorem NK.nil : ∀ b ∈ ([] : List Addr), NK b := fun _ h => nomatch h
/-- a call of one of the text's plain defs -/
theorem call_def {w : World} {A : Around} {n : Nat} {h : Heap} {g : Array GenState} {dr : Drawn} {t : Nat} {os : OsState} {f : Addr} {oc : Value} {od : Option Addr} {osl : Array (Option Value)} {fd : FuncData} {body : List Stmt} {args : List Value} (binds : List (Str × Value)) {Q E : Value → Shared → Prop}
    (ok : Ok n A) (X : HX (hd.heap_39 w.params) h) (ho : (hd.heap_39 w.params).lookup f = some ⟨oc, od, .func fd, osl⟩) (hbody : fd.body = .stmts body) (hcd : codeIn (hd.heap_39 w.params) fd.code fd.qualname = true)
    (hbind : BindsTo ⟨h, g, dr, t, os⟩ fd ⟨args, []⟩ binds) (hcell : ∀ x ∈ fd.scope.names, x.2 ≠ .cell) (hloc : ∀ x ∈ binds, fd.scope.names.lookup x.1 = some .local)
    (hco : fd.scope.isCoroutine = false) (hgen : fd.scope.isGenerator = false) (hk : fd.scope.kind = .function)
    (hq : ∀ h₀, h₀.Ns h.objs.size (fun x => binds.reverse.lookup x) → Kp [] h h₀ →
      wpAny (model PySem.Challenge.rw_rl0011_01.row.prog w) (A.deeper (callEnv fd h.objs.size f)) (execs body (callEnv fd h.objs.size f)) (fun fl s' => Q (match fl with | .ret v => v | _ => .none) s') (fun _ _ => False) ⟨h₀, g, dr, t + binds.length, os⟩) :
    wpAny (model PySem.Challenge.rw_rl0011_01.row.prog w) A (call (.ref f) args) Q E ⟨h, g, dr, t, os⟩ := by
  refine wpAny_call (codeAny_call_def (s := ⟨h, g, dr, t, os⟩) (binds := binds) ok.room (X.x _ _ ho) rfl (noLimit_of X) (codeRec_of X.x hcd) hbody hbind hcell hloc (fun h₀ hn hk => ?_) hco hgen hk)
  exact wpAny_mono (hq h₀ hn (Kp.of hk)) (fun _ _ z => z) fun _ _ z => z.elim
/-- the stack: its list's items -/
abbrev accO (d : Addr) (items : Array Value) (k : Nat) : Obj := ⟨.ref 115, some d, .seq items k, #[]⟩
abbrev accD (hs : Int) (tk tv : Tok) (n : Nat) : Obj := ⟨.type "dict", none, .dict #[⟨hs, .str "_initial_size" tk, .int 0 tv⟩] n, #[]⟩
structure IsAcc (h : Heap) (stk d : Addr) (items : Array Value) : Prop where
  nk : NK stk
  ne : stk ≠ d
  obj : ∃ k, h.get? stk = some (accO d items k)
  dict : ∃ hs tk tv n, h.get? d = some (accD hs tk tv n)
theorem IsAcc.lt {h : Heap} {stk d : Addr} {items : Array Value} (I : IsAcc h stk d items) : Nat.lt stk h.objs.size ∧ Nat.lt d h.objs.size := by
  obtain ⟨l, ne, ⟨a, b⟩, ⟨c, e, f, g, i⟩⟩ := I
  exact ⟨Heap.lt_size b, Heap.lt_size i⟩
theorem IsAcc.kp {h h' : Heap} {stk d : Addr} {items : Array Value} {W : List Addr} (I : IsAcc h stk d items) (k : Kp W h h') (h1 : stk ∉ W) (h2 : d ∉ W) : IsAcc h' stk d items := by
  obtain ⟨l, ne, ⟨a, b⟩, ⟨c, e, f, g, i⟩⟩ := I
  exact ⟨l, ne, ⟨a, k _ _ h1 b⟩, ⟨c, e, f, g, k _ _ h2 i⟩⟩
theorem IsAcc.inst {h : Heap} {stk d : Addr} {items : Array Value} (I : IsAcc h stk d items) : ∃ ox od, InstAt h stk ox 115 (some od) ∧ ox.dict = some d ∧ (∃ k, ox = accO d items k) ∧ ∀ name : Str, (name == ("_initial_size" : Str)) = false → shadowIn (some od) name = some false := by
  obtain ⟨l, ne, ⟨a, b⟩, ⟨c, e, f, g, i⟩⟩ := I
  refine ⟨_, _, ⟨b, rfl, rfl, i⟩, rfl, ⟨_, rfl⟩, fun name hn => ?_⟩
  unfold shadowIn lookIn
  have : (Value.str ("_initial_size" : Str) e).isStr name = false := by
    show (("_initial_size" : Str) == name) = false
    rw [Bool.beq_comm]; exact hn
  simp [this, DictEntry.refKey]
section
variable {w : World} {A : Around} {s : Shared} {Q E : Value → Shared → Prop}
theorem method_any {K : Frag} {x C : Addr} {ox : Obj} {od : Option Obj} {pl : Sem Bool} {Q : Value × List Value → Shared → Prop} {name : Str} {ga : String} {f : Value} {T : String} {prog : Program} (X : K.In s.heap) (I : InstAt s.heap x ox C od) (hga : findIn K (.ref C) "__getattribute__" = some (some (.builtin ga))) (hcan : (Manifest.canonical ga != "object.__getattribute__") = false) (hk : findIn K (.ref C) "__getattr__" = some none)
    (hf : findIn K (.ref C) name = some (some f)) (ht : typeIn K f = some (.type T)) (hT : (Value.type T != .type "function" && Value.type T != .type "method_descriptor" && Value.type T != .type "wrapper_descriptor") = false) (hs : shadowIn od name = some false) (h : Q (f, [.ref x]) s) :
    wpAny (model prog w) A (getMethod (.ref x) name pl) Q E s := by
  unfold getMethod specialOf
  refine wpAny_bind (wpAny_bind (I.type.here ((looks_findIn X hga).here ?_)))
  dsimp only
  rw [hcan, if_neg (by decide)]
  refine wpAny_bind (wpAny_bind (I.type.here ((looks_findIn X hk).here ?_)))
  refine wpAny_bind (wpAny_bind (I.type.here ((looks_findIn X hf).here (wpAny_bind ((looks_typeIn X ht).here ?_)))))
  rw [hT, if_neg (by decide)]
  refine wpAny_bind (wpAny_loadPart I.at_ ?_)
  have hd := I.dict
  cases e : ox.dict with
  | none => exact wpAny_bind (wpAny_rule (wpAny_pure h))
  | some dx =>
    cases od with
    | none => rw [e] at hd; exact hd.elim
    | some o =>
      rw [e] at hd
      obtain ⟨r, a, b⟩ := Option.map_eq_some_iff.mp hs
      refine wpAny_bind (wpAny_bind (wpAny_loadPart hd ?_))
      rw [nsLook_of a]
      refine wpAny_pure ?_
      rw [b]
      exact wpAny_bind (wpAny_rule (wpAny_pure h))
theorem check_any {M : Model} {i owner n : String} {self : Value} {rest : List Value} {Q : Unit → Shared → Prop}
    (hk : builtinKind i = some .method ∨ builtinKind i = some .slot) (hs : splitId i = some (owner, n)) (hi : Looks M s.heap (isInstance self (.type owner)) true) (ha : argsOk i ⟨self :: rest, []⟩) (q : Q () s) :
    wpAny M A (checkBuiltinCall i ⟨self :: rest, []⟩) Q E s := by
  rcases hk with hk | hk
  · simp only [checkBuiltinCall, hk, hs]
    refine wpAny_bind (hi.here ?_)
    simp only [Bool.not_true, Bool.false_eq_true, if_false]
    cases hsig : Manifest.signature? i with
    | none => exact wpAny_pure q
    | some sig =>
      simp only [argsOk, hsig] at ha
      have h2 : Bind.checkArgs i sig ⟨self :: rest, []⟩ = pure () := ha
      show wpAny M A (Bind.checkArgs i sig ⟨self :: rest, []⟩) Q E s
      rw [h2]; exact wpAny_pure q
  · exact check_slot hk hs hi ha q
theorem call_bi {prog : Program} {id owner n : String} {b : Builtin} {self : Value} {rest : List Value} (hq : plainId id = true) (hb : entryFor table id = some b) (hk : builtinKind id = some .method ∨ builtinKind id = some .slot) (hs : splitId id = some (owner, n))
    (hi : Looks (model prog w) s.heap (isInstance self (.type owner)) true) (ha : argsOk id ⟨self :: rest, []⟩)
    (h : wpAny (model prog w) A.in1 (b ⟨self :: rest, []⟩) (fun fin s' => ∃ v, fin = .done (.ret v) ∧ Q v s') E s) : wpAny (model prog w) A (call (.builtin id) (self :: rest)) Q E s := by
  refine wpAny_call (codeAny_call_builtin hq hb (check_any hk hs hi ha ?_))
  refine wpAny_mono h (fun fin s' z => ?_) fun _ _ z => z
  obtain ⟨v, rfl, z⟩ := z
  exact z
end
theorem acc_isList {w : World} {h : Heap} {stk d : Addr} {items : Array Value} (X : HX (hd.heap_39 w.params) h) (I : IsAcc h stk d items) : Looks (model PySem.Challenge.rw_rl0011_01.row.prog w) h (isInstance (.ref stk) (.type "list")) true := by
  obtain ⟨ox, od, J, _⟩ := I.inst
  exact J.type.andThen (looks_mroIn X.x (by rfl))
theorem update_acc {h : Heap} {stk d : Addr} {items : Array Value} (I : IsAcc h stk d items) (f : Array Value → Array Value) : IsAcc (h.update stk (Obj.mapSeq f)) stk d (f items) ∧ Kp [stk] h (h.update stk (Obj.mapSeq f)) := by
  obtain ⟨l, ne, ⟨a, b⟩, ⟨c, e, i, k, j⟩⟩ := I
  refine ⟨⟨l, ne, ?_, ?_⟩, Kp.upd h stk _⟩
  · have := Heap.get?_update_self (Obj.mapSeq f) b rfl
    exact ⟨_, this⟩
  · exact ⟨c, e, i, k, (Heap.get?_update_other h (Obj.mapSeq f) ne).trans j⟩
theorem append_acc {w : World} {A : Around} {h : Heap} {g : Array GenState} {dr : Drawn} {t : Nat} {os : OsState} {stk d : Addr} {items : Array Value} {x : Value} {Q E : Value → Shared → Prop} (X : HX (hd.heap_39 w.params) h) (I : IsAcc h stk d items) (hz : items.size ≤ 1000)
    (hq : ∀ h', IsAcc h' stk d (items.push x) → Kp [stk] h h' → Q .none ⟨h', g, dr, t, os⟩) : wpAny (model PySem.Challenge.rw_rl0011_01.row.prog w) A (call (.builtin "list.append") [.ref stk, x]) Q E ⟨h, g, dr, t, os⟩ := by
  refine call_bi F.slot_list_append.plain entry_list_append (.inl (by decide +kernel)) (owner := "list") (n := "append") (by decide +kernel) (acc_isList X I) (args_list_append _ _) ?_
  obtain ⟨u1, u2⟩ := update_acc I (·.push x)
  obtain ⟨l, ne, ⟨a, b⟩, ⟨c, e, f, k, i⟩⟩ := I
  unfold Builtin.«list.append» selfAndOne
  refine wpAny_bind (wpAny_of_eq (a := (Value.ref stk, x)) rfl ?_)
  dsimp only
  refine wpAny_bind (listUpdate_at b rfl ?_ (by rw [sizeLine_eq]; omega) (by rw [sizeLine_eq, Array.size_push]; omega))
  exact wpAny_pure ⟨_, rfl, hq _ u1 u2⟩
theorem Heap.Ns.kp {h h' : Heap} {L : Addr} {m : Str → Option Value} {W : List Addr} (n : h.Ns L m) (k : Kp W h h') (hL : L ∉ W) : h'.Ns L m := n.at' fun o e => k _ o hL e
abbrev tupO (vs : List Value) : Obj := { cls := .type "tuple", data := .seq vs.toArray }
set_option maxRecDepth 100000 in
set_option maxHeartbeats 0 in
theorem push_acc : ∀ {w : World} {A : Around} {n : Nat} {h : Heap} {g : Array GenState} {dr : Drawn} {t : Nat} {os : OsState} {stk d : Addr} {items : Array Value} {fws str : Value} {Q E : Value → Shared → Prop},
    Ok (n + 1) A → HX (hd.heap_39 w.params) h → IsAcc h stk d items → items.size ≤ 1000 →
    (∀ h' t' tp, IsAcc h' stk d (items.push (.ref tp)) → Kp [stk] h h' → h.get? tp = none → h'.get? tp = some (tupO [fws, str]) → Q .none ⟨h', g, dr, t', os⟩) →
    wpAny (model PySem.Challenge.rw_rl0011_01.row.prog w) A (call (.ref 59) [.ref stk, fws, str]) Q E ⟨h, g, dr, t, os⟩ := by
  k_fill
  intro w A n h g dr t os stk d items fws str Q E ok X I hz hq
  refine' call_def [("self", .ref stk), ("fws", fws), ("string", str)] ok X ?ho ?hb ?hcd ?hbi ?hce ?hlo ?hco ?hge ?hk ?_
  case ho => k_is
  case hb => exact rfl
  case hcd => k_is
  case hbi => exact BindsTo.of_eq rfl
  case hce => decide
  case hlo => exact locs rfl
  case hco => exact rfl
  case hge => exact rfl
  case hk => exact rfl
  intro h₀ hn hk
  have X₀ := in_keep X hk (fun _ h => nomatch h)
  have I₀ := I.kp hk (fun h => nomatch h) (fun h => nomatch h)
  have hL : ∀ (fd : FuncData) f, (callEnv fd h.objs.size f).locals = h.objs.size := fun _ _ => rfl
  obtain ⟨ox, od, J, _, _, sh⟩ := I₀.inst
  refine wpAny_execs_cons (wpAny_Expr ?_)
  refine MethodCall_ ?_
  refine wpAny_Name (wpAny_loadName_local rfl rfl hn rfl ?_)
  refine' method_any X₀.x J ?a ?b ?c ?d ?e ?f ?g ?_
  case a => k_is
  case b => decide +kernel
  case c => k_is
  case d => k_is
  case e => k_is
  case f => decide +kernel
  case g => exact sh _ (by decide)
  refine callWith_method1 (wpAny_items_cons (wpAny_Tuple (wpAny_items_cons (wpAny_Name (wpAny_loadName_local rfl rfl hn rfl (wpAny_items_cons (wpAny_Name (wpAny_loadName_local rfl rfl hn rfl (wpAny_items_nil ⟨by size_fits, wpAny_items_nil ?_⟩)))))))))
  have k1 : Kp [] h₀ (h₀.push (tupO [fws, str])) := Kp.push _ _
  have X₁ := in_keep X₀ k1 (fun _ h => nomatch h)
  have I₁ := I₀.kp k1 (fun h => nomatch h) (fun h => nomatch h)
  refine append_acc X₁ I₁ hz fun h' I' k' => ?_
  refine wpAny_execs_nil (hq h' _ h₀.objs.size I' ?_ ?_ ?_)
  · exact ((hk.trans k1).nil _).trans k'
  · refine new_of (Nat.le_of_lt ?_)
    obtain ⟨_, _, _, q, _⟩ := hn
    exact Heap.lt_size q
  · refine k' _ _ ?_ (Heap.get?_push_size _ rfl)
    obtain ⟨_, _, ⟨_, q⟩, _⟩ := I₀
    intro e
    have := Heap.lt_size q
    rw [List.mem_singleton.mp e] at this
    exact absurd this (Nat.lt_irrefl _)
end Mine
namespace Mine
section
variable {w : World} {A : Around} {s : Shared} {E : Value → Shared → Prop}
theorem special_bi {prog : Program} {K : Frag} {x C : Addr} {ox : Obj} {od : Option Obj} {name : Str} {T id : String} {args : List Value} {Q : Option Value → Shared → Prop} (X : K.In s.heap) (I : InstAt s.heap x ox C od)
    (hs : findIn K (.ref C) name = some (some (.builtin id))) (S : Slot T name id) (h : wpAny (model prog w) A (call (.builtin id) (.ref x :: args)) (fun v => Q (some v)) E s) :
    wpAny (model prog w) A (callSpecial? (.ref x) name args) Q E s := by
  unfold callSpecial?
  refine wpAny_bind (wpAny_bind (I.type.here ((looks_findIn X hs).here ?_)))
  simp only [S.bind]
  exact wpAny_holding (wpAny_bind (wpAny_pure (wpAny_bind (wpAny_mono h (fun _ _ z => wpAny_pure z) fun _ _ z => z))))
theorem getItem_inst {prog : Program} {K : Frag} {x C : Addr} {ox : Obj} {od : Option Obj} {T id : String} {v : Value} {Q : Value → Shared → Prop} (X : K.In s.heap) (I : InstAt s.heap x ox C od) (hq : noSeq K C = true)
    (hs : findIn K (.ref C) "__getitem__" = some (some (.builtin id))) (S : Slot T "__getitem__" id) (h : wpAny (model prog w) A (call (.builtin id) [.ref x, v]) Q E s) : wpAny (model prog w) A (getItem (.ref x) v) Q E s := by
  unfold getItem sequenceKey
  refine wpAny_holding (wpAny_bind (wpAny_bind (I.type.here ?_)))
  refine wpAny_bind ((anyM_none X hq).here ?_)
  rw [if_pos (show (!false) = true from rfl)]
  exact wpAny_pure (wpAny_bind (special_bi X I hs S (wpAny_mono h (fun _ _ z => wpAny_pure z) fun _ _ z => z)))
theorem setItem_inst {prog : Program} {K : Frag} {x C : Addr} {ox : Obj} {od : Option Obj} {T id : String} {v u : Value} {Q : Unit → Shared → Prop} (X : K.In s.heap) (I : InstAt s.heap x ox C od) (hq : noSeq K C = true)
    (hs : findIn K (.ref C) "__setitem__" = some (some (.builtin id))) (S : Slot T "__setitem__" id) (h : wpAny (model prog w) A (call (.builtin id) [.ref x, v, u]) (fun _ => Q ()) E s) : wpAny (model prog w) A (setItem (.ref x) v u) Q E s := by
  unfold setItem sequenceKey
  refine wpAny_holding (wpAny_bind (wpAny_bind (I.type.here ?_)))
  refine wpAny_bind ((anyM_none X hq).here ?_)
  rw [if_pos (show (!false) = true from rfl)]
  exact wpAny_pure (wpAny_bind (special_bi X I hs S (wpAny_mono h (fun _ _ z => wpAny_pure z) fun _ _ z => z)))
/-- an item of the stack, a cut of it: the tail of a subscript -/
theorem tail_inst {prog : Program} {K : Frag} {x C : Addr} {ox : Obj} {od : Option Obj} {id : String} {value slice : Expr} {v : Value} {Q : Value → Shared → Prop} (X : K.In s.heap) (I : InstAt s.heap x ox C od)
    (hs : findIn K (.ref C) "__getitem__" = some (some (.builtin id))) (h : wpAny (model prog w) A (getItem (.ref x) v) Q E s)
    (hsl : (∃ vs, subscripted slice false (.ref x) v = operate vs (getItem (.ref x) v))) (ht : ∀ r, letTemporaryGo value (.ref x) r = pure ()) :
    wpAny (model prog w) A (subscriptTail value slice (.ref x) v) Q E s := by
  unfold subscriptTail getitemInPython specialOf
  refine wpAny_bind (wpAny_bind (wpAny_bind (I.type.here ((looks_findIn X hs).here (wpAny_pure ?_)))))
  obtain ⟨vs, hsl⟩ := hsl
  rw [hsl]
  refine wpAny_bind (wpAny_operating (wpAny_mono h (fun r s' z => ?_) fun _ _ z => z))
  rw [ht]
  exact wpAny_bind (wpAny_pure (wpAny_pure z))
end
section
variable {w : World} {A : Around} {h : Heap} {g : Array GenState} {dr : Drawn} {t : Nat} {os : OsState} {E : Value → Shared → Prop} {stk d : Addr} {items : Array Value}
theorem item_acc {k : Int} {tk : Tok} {x : Value} {Q : Value → Shared → Prop} (X : HX (hd.heap_39 w.params) h) (I : IsAcc h stk d items) (h0 : 0 ≤ k) (hf : k < 2 ^ 63) (hx : items[k.toNat]? = some x) (hq : Q x ⟨h, g, dr, t, os⟩) :
    wpAny (model PySem.Challenge.rw_rl0011_01.row.prog w) A (call (.builtin "list.__getitem__") [.ref stk, .int k tk]) Q E ⟨h, g, dr, t, os⟩ := by
  refine call_bi slot_list_getitem.plain entry_list_getitem (.inl (by decide +kernel)) (owner := "list") (n := "__getitem__") (by decide +kernel) (acc_isList X I) (args_list_getitem _ _) ?_
  obtain ⟨l, ne, ⟨a, ho⟩, _⟩ := I
  show wpAny _ _ (Builtin.List.listSubscript? (.int k tk) >>= _) _ _ _
  refine wpAny_bind (wpAny_listSubscript_int (fitsIndex_of h0 hf) ?_)
  clear hf
  obtain ⟨j, rfl⟩ := Int.eq_ofNat_of_zero_le h0
  have hx' : items[j]? = some x := hx
  show wpAny _ _ ((seqItemAt stk j >>= fun r => pure (r.map (j, ·))) >>= _) _ _ _
  refine wpAny_bind (wpAny_bind (wpAny_seqItemAt ho rfl (wpAny_pure ?_)))
  rw [hx']
  exact wpAny_pure ⟨x, rfl, hq⟩
theorem cut_acc {sl : Addr} {vl vu vs : Value} {lo hi st : Option Int} {Q : Value → Shared → Prop} (X : HX (hd.heap_39 w.params) h) (I : IsAcc h stk d items) (hsl : h.IsSliceOf sl vl vu vs) (pl : IsPart vl lo) (pu : IsPart vu hi) (ps : IsPart vs st) (h0 : st ≠ some 0) (hsz : items.size ≤ 1000)
    (hq : Q (.ref h.objs.size) ⟨h.push { cls := .type "list", data := .seq (slicePick items lo hi st) }, g, dr, t, os⟩) :
    wpAny (model PySem.Challenge.rw_rl0011_01.row.prog w) A (call (.builtin "list.__getitem__") [.ref stk, .ref sl]) Q E ⟨h, g, dr, t, os⟩ := by
  refine call_bi slot_list_getitem.plain entry_list_getitem (.inl (by decide +kernel)) (owner := "list") (n := "__getitem__") (by decide +kernel) (acc_isList X I) (args_list_getitem _ _) ?_
  obtain ⟨l, ne, ⟨a, ho⟩, _⟩ := I
  obtain ⟨oq, hos, hcs, hds⟩ := id hsl
  have hTs : (⟨h, g, dr, t, os⟩ : Shared).TypeIs (.ref sl) "slice" := ⟨oq, hos, hcs⟩
  show wpAny _ _ (Builtin.List.listSubscript? (.ref sl) >>= _) _ _ _
  refine wpAny_bind ?_
  unfold Builtin.List.listSubscript?
  refine wpAny_bind (wpAny_specialOf hTs slice_no_index ?_)
  simp only [Option.isNone_none, if_true]
  refine wpAny_pure ?_
  show wpAny _ _ (typeOf (.ref sl) >>= _) _ _ _
  refine wpAny_bind (wpAny_typeOf hTs ?_)
  rw [if_neg (by decide)]
  rw [listSliceParts_eq]
  have hstep : ¬ ((rawPart st == rawInt 0) = true) := by
    cases st with
    | none => exact Bool.false_ne_true
    | some c =>
      intro hh
      have : c = 0 := by simpa [rawPart, rawInt] using hh
      exact h0 (by rw [this])
  refine wpAny_bind (wpAny_bind (wpAny_field hos hds (x := vs) rfl (wpAny_bind (wpAny_listPart ps ?_))))
  rw [if_neg hstep]
  refine wpAny_bind (wpAny_field hos hds (x := vl) rfl (wpAny_bind (wpAny_listPart pl ?_)))
  refine wpAny_bind (wpAny_field hos hds (x := vu) rfl (wpAny_bind (wpAny_listPart pu (wpAny_pure ?_))))
  refine wpAny_bind (listItems_at ho rfl ?_)
  refine wpAny_bind (wpAny_of_eq (sliceIndices_raw lo hi st items.size h0) ?_)
  exact wpAny_bind (wpAny_newObj_type (wpAny_pure ⟨_, rfl, hq⟩) (Nat.le_trans (slicePick_size_le items lo hi st) (by rw [sizeLine_eq]; omega)))
/-- stack[i:] = [] -/
theorem strike_acc {sl l2 : Addr} {k : Nat} {tk : Tok} {Q : Value → Shared → Prop} (X : HX (hd.heap_39 w.params) h) (I : IsAcc h stk d items) (hsl : h.IsSliceOf sl (.int k tk) .none .none) (hl : h.IsList l2 #[]) (hne : stk ≠ l2) (hk : k ≤ items.size) (hsz : items.size ≤ 1000)
    (hq : ∀ h', IsAcc h' stk d (items.toList.take k).toArray → Kp [stk] h h' → Q .none ⟨h', g, dr, t, os⟩) :
    wpAny (model PySem.Challenge.rw_rl0011_01.row.prog w) A (call (.builtin "list.__setitem__") [.ref stk, .ref sl, .ref l2]) Q E ⟨h, g, dr, t, os⟩ := by
  refine call_bi slot_list_setitem.plain entry_list_setitem (.inr (by decide +kernel)) (owner := "list") (n := "__setitem__") (by decide +kernel) (acc_isList X I) (args_list_setitem _ _ _) ?_
  have I' := I
  obtain ⟨l, ne, ⟨a, ho⟩, _⟩ := I
  obtain ⟨oq, hos, hcs, hds⟩ := id hsl
  obtain ⟨ol, hol, hcl, nl, hdl⟩ := id hl
  have hTs : (⟨h, g, dr, t, os⟩ : Shared).TypeIs (.ref sl) "slice" := ⟨oq, hos, hcs⟩
  have hTl : (⟨h, g, dr, t, os⟩ : Shared).TypeIs (.ref l2) "list" := ⟨ol, hol, hcl⟩
  show wpAny _ _ (Builtin.List.listSubscript? (.ref sl) >>= _) _ _ _
  refine wpAny_bind ?_
  unfold Builtin.List.listSubscript?
  refine wpAny_bind (wpAny_specialOf hTs slice_no_index ?_)
  simp only [Option.isNone_none, if_true]
  refine wpAny_pure ?_
  show wpAny _ _ (typeOf (.ref sl) >>= _) _ _ _
  refine wpAny_bind (wpAny_typeOf hTs ?_)
  rw [if_neg (by decide)]
  rw [listSliceParts_eq]
  refine wpAny_bind (wpAny_bind (wpAny_field hos hds (x := .none) rfl (wpAny_bind (wpAny_listPart .none ?_))))
  rw [if_neg (show ¬ ((rawPart none == rawInt 0) = true) from Bool.false_ne_true)]
  refine wpAny_bind (wpAny_field hos hds (x := .int k tk) rfl (wpAny_bind (wpAny_listPart (.int k tk) ?_)))
  refine wpAny_bind (wpAny_field hos hds (x := .none) rfl (wpAny_bind (wpAny_listPart .none (wpAny_pure ?_))))
  have hsame : Builtin.List.listSameRef (.ref stk) (.ref l2) = false := by
    show (stk == l2) = false
    simp [hne]
  dsimp only
  rw [hsame, if_neg Bool.false_ne_true]
  unfold Builtin.List.listAllItems
  refine wpAny_bind (wpAny_bind (wpAny_typeOf hTl ?_))
  rw [if_pos (by decide)]
  refine listItems_at hol hdl ?_
  refine wpAny_bind (listItems_at ho rfl ?_)
  refine wpAny_bind (wpAny_of_eq (sliceIndices_raw (some (k : Int)) none none items.size (by simp)) ?_)
  have hb : sliceBounds (some (k : Int)) none none items.size = ((k : Int), (items.size : Int), 1) := by
    unfold sliceBounds
    simp only [Option.getD_none]
    have : ¬ ((k : Int) < 0) := by omega
    simp only [this, if_false, show (1 : Int) > 0 from by decide, if_true, Prod.mk.injEq, and_true]
    omega
  rw [hb]
  dsimp only
  rw [if_pos (by decide)]
  refine wpAny_bind (wpAny_rule ?_)
  rw [if_neg (by unfold Builtin.List.listTooLong; rw [sizeLine_eq]; simp; omega)]
  have he : ∀ xs : Array Value, xs.size = items.size → (xs.extract 0 (k : Int).toNat ++ ([] : List Value).toArray ++ xs.extract (max (k : Int) (items.size : Int)).toNat xs.size) = (xs.toList.take k).toArray := by
    intro xs hx
    apply Array.ext'
    have : (max (k : Int) (items.size : Int)).toNat = xs.size := by omega
    rw [this]
    simp [Array.toList_extract]
  refine wpAny_bind (listUpdate_at ho rfl ?_ (by rw [sizeLine_eq]; omega) (by rw [he _ rfl, sizeLine_eq, List.size_toArray, List.length_take]; have := hsz; have : items.toList.length = items.size := rfl; omega))
  obtain ⟨u1, u2⟩ := update_acc I' (fun xs => xs.extract 0 (k : Int).toNat ++ ([] : List Value).toArray ++ xs.extract (max (k : Int) (items.size : Int)).toNat xs.size)
  rw [he _ rfl] at u1
  exact wpAny_bind (wpAny_letGo (wpAny_pure ⟨_, rfl, hq _ u1 u2⟩))
end
set_option maxRecDepth 100000 in
set_option maxHeartbeats 0 in
theorem pop_from_acc : ∀ {w : World} {A : Around} {n : Nat} {h : Heap} {g : Array GenState} {dr : Drawn} {t : Nat} {os : OsState} {stk d : Addr} {items : Array Value} {k : Nat} {tk : Tok} {Q E : Value → Shared → Prop},
    Ok (n + 1) A → HX (hd.heap_39 w.params) h → IsAcc h stk d items → items.size ≤ 1000 → k ≤ items.size →
    (∀ h' t' l, IsAcc h' stk d (items.toList.take k).toArray → Kp [stk] h h' → h.get? l = none → h'.get? l = some { cls := .type "list", data := .seq (items.toList.drop k).toArray } → Q (.ref l) ⟨h', g, dr, t', os⟩) →
    wpAny (model PySem.Challenge.rw_rl0011_01.row.prog w) A (call (.ref 67) [.ref stk, .int k tk]) Q E ⟨h, g, dr, t, os⟩ := by
  k_fill
  intro w A n h g dr t os stk d items k tk Q E ok X I hz hkz hq
  refine' call_def [("self", .ref stk), ("i", .int k tk)] ok X ?ho ?hb ?hcd ?hbi ?hce ?hlo ?hco ?hge ?hk ?_
  case ho => k_is
  case hb => exact rfl
  case hcd => k_is
  case hbi => exact BindsTo.of_defaults rfl (X.x 60 _ rfl) rfl rfl rfl
  case hce => decide
  case hlo => exact locs rfl
  case hco => exact rfl
  case hge => exact rfl
  case hk => exact rfl
  intro h₀ hn hk
  have X₀ := in_keep X hk (fun _ h => nomatch h)
  have I₀ := I.kp hk (fun h => nomatch h) (fun h => nomatch h)
  have hLl : h.objs.size < h₀.objs.size := hn.lt
  refine wpAny_execs_cons (wpAny_Assign_Name ?_)
  refine Subscript_ (wpAny_Name (wpAny_loadName_local rfl rfl hn rfl (wpAny_Slice (wpAny_evalPart_some (wpAny_Name (wpAny_loadName_local rfl rfl hn rfl (wpAny_evalPart_none (wpAny_evalPart_none ?_))))))))
  have k1 : Kp [] h₀ (h₀.push { cls := .type "slice", data := .fields #[.int k tk, .none, .none] }) := Kp.push _ _
  have s1 : (h₀.push { cls := .type "slice", data := .fields #[.int k tk, .none, .none] }).IsSliceOf h₀.objs.size (.int k tk) .none .none := Heap.IsSliceOf.new ..
  have z1 : (h₀.push { cls := .type "slice", data := .fields #[.int k tk, .none, .none] }).objs.size = h₀.objs.size + 1 := Heap.size_push ..
  generalize h₀.push { cls := .type "slice", data := .fields #[.int k tk, .none, .none] } = h₁ at k1 s1 z1 ⊢
  have X₁ := in_keep X₀ k1 (fun _ h => nomatch h)
  have I₁ := I₀.kp k1 (fun h => nomatch h) (fun h => nomatch h)
  obtain ⟨ox, od, J, _, _, sh⟩ := I₁.inst
  refine' tail_inst X₁.x J ?a ?_ ⟨_, rfl⟩ (fun _ => rfl)
  case a => k_is
  refine' getItem_inst X₁.x J ?a ?b slot_list_getitem ?_
  case a => k_is
  case b => k_is
  refine cut_acc X₁ I₁ s1 (.int k tk) .none .none (by simp) hz ?_
  rw [slicePick_from items k hkz]
  have k2 : Kp [] h₁ (h₁.push { cls := .type "list", data := .seq (items.toList.drop k).toArray }) := Kp.push _ _
  have p2 : (h₁.push { cls := .type "list", data := .seq (items.toList.drop k).toArray }).get? h₁.objs.size = some { cls := .type "list", data := .seq (items.toList.drop k).toArray } := Heap.get?_push_size _ rfl
  have z2 : (h₁.push { cls := .type "list", data := .seq (items.toList.drop k).toArray }).objs.size = h₁.objs.size + 1 := Heap.size_push ..
  generalize h₁.push { cls := .type "list", data := .seq (items.toList.drop k).toArray } = h₂ at k2 p2 z2 ⊢
  have n2 := (hn.keeps k1.all).keeps k2.all
  have lts := I.lt
  obtain ⟨lt2, lt3⟩ := lts
  simp only [Nat.lt_eq] at lt2 lt3
  have ne1 : stk ∉ [h.objs.size] := notin1 (by omega)
  have ne2 : d ∉ [h.objs.size] := notin1 (by omega)
  have X₂ := in_keep X₁ k2 (fun _ h => nomatch h)
  have I₂ := I₁.kp k2 (fun h => nomatch h) (fun h => nomatch h)
  refine wpAny_storeName_local rfl n2 (fun h₃ n3 sb3 => ?_) rfl
  change Heap.SameBut h.objs.size h₂ h₃ at sb3
  change h₃.Ns h.objs.size _ at n3
  have k3 := Kp.same sb3
  have p3 := k3 _ _ (notin1 (by omega)) p2
  have X₃ := in_keep X₂ k3 (NK.size X).one
  have I₃ := I₂.kp k3 ne1 ne2
  have z3 : h₃.objs.size = h₂.objs.size := sb3.1
  refine wpAny_execs_cons (wpAny_Assign_Subscript ?_)
  refine wpAny_List (wpAny_items_nil ⟨by size_fits, ?_⟩)
  have k4 : Kp [] h₃ (h₃.push { cls := .type "list", data := .seq ([] : List Value).toArray }) := Kp.push _ _
  have p4 : (h₃.push { cls := .type "list", data := .seq ([] : List Value).toArray }).IsList h₃.objs.size #[] := ⟨_, Heap.get?_push_size _ rfl, rfl, _, rfl⟩
  have z4 : (h₃.push { cls := .type "list", data := .seq ([] : List Value).toArray }).objs.size = h₃.objs.size + 1 := Heap.size_push ..
  generalize h₃.push { cls := .type "list", data := .seq ([] : List Value).toArray } = h₄ at k4 p4 z4 ⊢
  have n4 := n3.keeps k4.all
  refine wpAny_Name (wpAny_loadName_local rfl rfl n4 rfl (wpAny_Slice (wpAny_evalPart_some (wpAny_Name (wpAny_loadName_local rfl rfl n4 rfl (wpAny_evalPart_none (wpAny_evalPart_none ?_)))))))
  have k5 : Kp [] h₄ (h₄.push { cls := .type "slice", data := .fields #[.int k tk, .none, .none] }) := Kp.push _ _
  have s5 : (h₄.push { cls := .type "slice", data := .fields #[.int k tk, .none, .none] }).IsSliceOf h₄.objs.size (.int k tk) .none .none := Heap.IsSliceOf.new ..
  generalize h₄.push { cls := .type "slice", data := .fields #[.int k tk, .none, .none] } = h₅ at k5 s5 ⊢
  have k35 := k4.trans k5
  have X₅ := in_keep X₃ k35 (fun _ h => nomatch h)
  have I₅ := I₃.kp k35 (fun h => nomatch h) (fun h => nomatch h)
  have p5 := k35 _ _ (fun h => nomatch h) p3
  have n5 := n4.keeps k5.all
  have q5 : h₅.IsList h₃.objs.size #[] := p4.at fun o e => k5 _ o (fun h => nomatch h) e
  obtain ⟨ox', od', J', _, _, sh'⟩ := I₅.inst
  refine' setItem_inst X₅.x J' ?a ?b slot_list_setitem ?_
  case a => k_is
  case b => k_is
  refine strike_acc X₅ I₅ s5 q5 (neN (by dsimp only; omega)) hkz hz fun h₆ I₆ k6 => ?_
  have n6 : h₆.Ns h.objs.size _ := n5.at' fun o e => k6 _ o (notin1 (by omega)) e
  have p6 := k6 _ _ (notin1 (by omega)) p5
  refine wpAny_execs_cons (wpAny_Return_some (wpAny_Name (wpAny_loadName_local rfl rfl n6 rfl ?_)))
  refine hq h₆ _ h₁.objs.size I₆ ?_ (new_of (by omega)) p6
  intro b o hb e
  have hbl := ltOf e
  exact k6 b o hb (k35 b o (fun h => nomatch h) (k3 b o (notin1 (by omega)) (k2 b o (fun h => nomatch h) (k1 b o (fun h => nomatch h) (hk b o (fun h => nomatch h) e)))))
end Mine
namespace Mine
local macro_rules | `(tactic| x_close) => `(tactic| ((rename Mem _ _ _ _ => D); (rename (∀ _, _) => hq); exact hq _ _ _ (Kp.mem D) (D.nw _ (.head _)).2 (D.nw _ (.head _)).1))
set_option maxRecDepth 100000 in
set_option maxHeartbeats 0 in
theorem get_len : ∀ {w : World} {h : Heap} {g : Array GenState} {dr : Drawn} {t : Nat} {os : OsState} {stk d : Addr} {items : Array Value} {n : Nat} {fr : List Env} {gd : Option (List Code)} {Q E : Value → Shared → Prop},
    HX (hd.heap_39 w.params) h → h.get? stk = some ⟨.ref 115, some d, .seq items n, #[]⟩ →
    (∀ h' a tk', Kp [] h h' → h.get? a = none → h'.get? a = some ⟨.type "method-wrapper", none, .fields #[.builtin "list.__len__", .ref stk], #[]⟩ → Q (.ref a) ⟨h', g, dr, tk', os⟩) →
    wpAny (model PySem.Challenge.rw_rl0011_01.row.prog w) (A0 fr gd) (call (.builtin "wrapper_descriptor.__get__") [.builtin "list.__len__", .ref stk, .ref 115]) Q E ⟨h, g, dr, t, os⟩ := by
  k_fill
  intro w h g dr t os stk d items n fr gd Q E KX hs hq
  have KX1 := KX.x
  revert hq
  intro hq
  x_run
set_option maxRecDepth 100000 in
set_option maxHeartbeats 0 in
theorem get_init : ∀ {w : World} {h : Heap} {g : Array GenState} {dr : Drawn} {t : Nat} {os : OsState} {stk d : Addr} {items : Array Value} {n : Nat} {fr : List Env} {gd : Option (List Code)} {Q E : Value → Shared → Prop},
    HX (hd.heap_39 w.params) h → h.get? stk = some ⟨.ref 115, some d, .seq items n, #[]⟩ →
    (∀ h' a tk', Kp [] h h' → h.get? a = none → h'.get? a = some ⟨.type "method-wrapper", none, .fields #[.builtin "list.__init__", .ref stk], #[]⟩ → Q (.ref a) ⟨h', g, dr, tk', os⟩) →
    wpAny (model PySem.Challenge.rw_rl0011_01.row.prog w) (A0 fr gd) (call (.builtin "wrapper_descriptor.__get__") [.builtin "list.__init__", .ref stk, .ref 115]) Q E ⟨h, g, dr, t, os⟩ := by
  k_fill
  intro w h g dr t os stk d items n fr gd Q E KX hs hq
  have KX1 := KX.x
  revert hq
  intro hq
  x_run
set_option maxRecDepth 100000 in
set_option maxHeartbeats 0 in
theorem get_pop : ∀ {w : World} {h : Heap} {g : Array GenState} {dr : Drawn} {t : Nat} {os : OsState} {stk d : Addr} {items : Array Value} {n : Nat} {fr : List Env} {gd : Option (List Code)} {Q E : Value → Shared → Prop},
    HX (hd.heap_39 w.params) h → h.get? stk = some ⟨.ref 115, some d, .seq items n, #[]⟩ →
    (∀ h' a tk', Kp [] h h' → h.get? a = none → h'.get? a = some ⟨.type "builtin_function_or_method", none, .fields #[.builtin "list.pop", .ref stk], #[]⟩ → Q (.ref a) ⟨h', g, dr, tk', os⟩) →
    wpAny (model PySem.Challenge.rw_rl0011_01.row.prog w) (A0 fr gd) (call (.builtin "method_descriptor.__get__") [.builtin "list.pop", .ref stk, .ref 115]) Q E ⟨h, g, dr, t, os⟩ := by
  k_fill
  intro w h g dr t os stk d items n fr gd Q E KX hs hq
  have KX1 := KX.x
  revert hq
  intro hq
  x_run
local macro_rules | `(tactic| x_close) => `(tactic| ((rename Mem _ _ _ _ => D); (rename (∀ _, _) => hq); exact hq _ _ _ (Kp.mem D)))
local macro_rules | `(tactic| x_close) => `(tactic| ((rename (∀ _, _) => hq); exact hq _ _ _ (Kp.refl _ _)))
set_option maxRecDepth 100000 in
set_option maxHeartbeats 0 in
theorem call_len : ∀ {w : World} {h : Heap} {g : Array GenState} {dr : Drawn} {t : Nat} {os : OsState} {stk d a : Addr} {items : Array Value} {n : Nat} {fr : List Env} {gd : Option (List Code)} {Q E : Value → Shared → Prop},
    HX (hd.heap_39 w.params) h → h.get? stk = some ⟨.ref 115, some d, .seq items n, #[]⟩ → h.get? a = some ⟨.type "method-wrapper", none, .fields #[.builtin "list.__len__", .ref stk], #[]⟩ →
    (∀ h' tk tk', Kp [] h h' → Q (.int items.size tk) ⟨h', g, dr, tk', os⟩) →
    wpAny (model PySem.Challenge.rw_rl0011_01.row.prog w) (A0 fr gd) (call (.ref a) []) Q E ⟨h, g, dr, t, os⟩ := by
  k_fill
  intro w h g dr t os stk d a items n fr gd Q E KX hs ha hq
  have KX1 := KX.x
  revert hq
  intro hq
  x_run

/-- the text's own names, the built-in ones -/
noncomputable def nsEs (P : Params) (a : Addr) : Array DictEntry := match (hd.heap_39 P).lookup a with
  | some ⟨_, _, .dict es _, _⟩ => es
  | _ => #[]
theorem ns_of {P : Params} {h : Heap} (X : HX (hd.heap_39 P) h) {a : Addr} {c : Value} {d : Option Addr} {es : Array DictEntry} {n : Nat} {sl : Array (Option Value)} (e : (hd.heap_39 P).lookup a = some ⟨c, d, .dict es n, sl⟩) (hk : (es.toList.all fun e => match e.key with | .str _ _ => true | _ => false) = true) :
    h.Ns a (nsFind (nsEs P a)) := by
  have : nsEs P a = es := by unfold nsEs; rw [e]
  rw [this]
  refine ⟨_, es, n, X.x _ _ e, rfl, fun x hx => ?_, fun _ => rfl⟩
  have := List.all_eq_true.mp hk x (Array.mem_toList_iff.mpr hx)
  cases q : x.key <;> rw [q] at this <;> first | exact ⟨_, _, rfl⟩ | cases this
theorem globals_of {P : Params} {h : Heap} (X : HX (hd.heap_39 P) h) : h.Ns 3 (nsFind (nsEs P 3)) := ns_of X rfl (by kernel_rfl)
theorem glob_bi {x : Str} {v : Value} {env : Env} {P : Params} {M : Model} {A : Around} {h : Heap} {g : Array GenState} {dr : Drawn} {t : Nat} {os : OsState} {Q E : Value → Shared → Prop} (X : HX (hd.heap_39 P) h) (hg : env.globals = 3) (hb : env.builtins = 0) (e1 : nsFind (nsEs P 3) x = none) (e2 : bootBuiltins x = some v) (hn : x ≠ "__name__") (hq : Q v ⟨h, g, dr, t, os⟩) :
    wpAny M A (loadGlobal env x) Q E ⟨h, g, dr, t, os⟩ := by
  obtain ⟨mb, nb, hbb⟩ := X.b
  refine Calls.loadGlobal_builtin (mg := nsFind (nsEs P 3)) (mb := mb) ?_ e1 ?_ ((hbb x hn).trans e2) hq
  · rw [hg]; exact globals_of X
  · rw [hb]; exact nb
section
variable {w : World} {A : Around} {h : Heap} {g : Array GenState} {dr : Drawn} {t : Nat} {os : OsState} {E : Value → Shared → Prop} {so stk : Addr} {name : Str} {id gid T : String}
theorem super_ga {tk : Tok} {Q : Value → Shared → Prop} (X : HX (hd.heap_39 w.params) h) (hso : h.get? so = some { cls := .type "super", dict := none, data := .fields #[.ref 115, .ref stk, .ref 115], slots := #[] }) (hne : stk ≠ 115)
    (hf : alongIn (hd.heap_39 w.params) name [.type "list", .type "object"] = some (some (.builtin id))) (ht : typeOf (.builtin id) = pure (.type T)) (hg : typeLookup (.type T) "__get__" = pure (some (.builtin gid))) (hn : (name == ("__class__" : Str)) = false)
    (hq : wpAny (model PySem.Challenge.rw_rl0011_01.row.prog w) A (call (.builtin gid) [.builtin id, .ref stk, .ref 115]) Q E ⟨h, g, dr, t, os⟩) :
    wpAny (model PySem.Challenge.rw_rl0011_01.row.prog w) A (Builtin.«super.__getattribute__» ⟨[.ref so, .str name tk], []⟩) (fun fin s' => ∃ v, fin = .done (.ret v) ∧ Q v s') E ⟨h, g, dr, t, os⟩ := by
  have hneq : (Value.ref stk == Value.ref 115) = false := by simp [hne]
  have hdt : ({ cls := .type "super", dict := none, data := .fields #[.ref 115, .ref stk, .ref 115], slots := #[] } : Obj).data = .fields #[.ref 115, .ref stk, .ref 115] := rfl
  have f0 : (#[.ref 115, .ref stk, .ref 115] : Array Value)[0]? = some (.ref 115) := rfl
  have f1 : (#[.ref 115, .ref stk, .ref 115] : Array Value)[1]? = some (.ref stk) := rfl
  have f2 : (#[.ref 115, .ref stk, .ref 115] : Array Value)[2]? = some (.ref 115) := rfl
  have hno : Looks (model PySem.Challenge.rw_rl0011_01.row.prog w) h (opaqueClassAbove (.ref 115)) none := looks_opaque X.x (by kernel_rfl)
  have hC : Looks (model PySem.Challenge.rw_rl0011_01.row.prog w) h (mroOf (.ref 115)) [.ref 115, .type "list", .type "object"] := (looks_clsIn X.x (C := 115) (by rfl)).andThen .now
  have hl : (([.ref 115, .type "list", .type "object"] : List Value).dropWhile (· != .ref 115)).drop 1 = [.type "list", .type "object"] := by decide +kernel
  unfold Builtin.«super.__getattribute__»
  repeat (first
    | (with_reducible refine wpAny_field hso hdt f0 ?_) | (with_reducible refine wpAny_field hso hdt f1 ?_) | (with_reducible refine wpAny_field hso hdt f2 ?_)
    | (with_reducible refine ks_wpAny_notOpaque hno ?_)
    | (with_reducible refine Looks.at hC ?_; rw [hl])
    | (refine ks_forIn_along X.x (fun _ _ => rfl) rfl ?_ hf)
    | (with_reducible refine wpAny_mono hq (fun v s' z => ?_) fun _ _ z => z)
    | (with_reducible refine ⟨_, rfl, ?_⟩)
    | (simp only [hn, hneq, Bool.or_false, Bool.false_eq_true, if_false])
    | wp_step
    | dsimp only)
  all_goals assumption
theorem super_method {pl : Sem Bool} {Q : Value × List Value → Shared → Prop} (X : HX (hd.heap_39 w.params) h) (hso : h.get? so = some { cls := .type "super", dict := none, data := .fields #[.ref 115, .ref stk, .ref 115], slots := #[] }) (hne : stk ≠ 115)
    (hf : alongIn (hd.heap_39 w.params) name [.type "list", .type "object"] = some (some (.builtin id))) (ht : typeOf (.builtin id) = pure (.type T)) (hg : typeLookup (.type T) "__get__" = pure (some (.builtin gid))) (hn : (name == ("__class__" : Str)) = false)
    (hq : wpAny (model PySem.Challenge.rw_rl0011_01.row.prog w) A.in1 (call (.builtin gid) [.builtin id, .ref stk, .ref 115]) (fun v s' => ∃ a h' t', v = .ref a ∧ s' = ⟨h', g, dr, t', os⟩ ∧ Q (.ref a, []) s') (fun _ _ => False) ⟨h, g, dr, t + 1, os⟩) :
    wpAny (model PySem.Challenge.rw_rl0011_01.row.prog w) A (getMethod (.ref so) name pl) Q E ⟨h, g, dr, t, os⟩ := by
  have hlk := F.ks_slot_super_ga.lookup
  have hcan := F.ks_canon_super_ga
  have hT : ∀ t', (⟨h, g, dr, t', os⟩ : Shared).TypeIs (.ref so) "super" := fun _ => ⟨_, hso, rfl⟩
  unfold getMethod
  refine wpAny_bind (wpAny_specialOf (hT _) hlk ?_)
  show wpAny _ _ (if (Manifest.canonical "super.__getattribute__" != "object.__getattribute__") = true then _ else _) _ _ _
  rw [if_pos hcan]
  unfold getAttr getAttrBy
  refine wpAny_bind (wpAny_bind (wpAny_mkText (wpAny_holding (wpAny_bind (wpAny_typeOf (hT _) (wpAny_bind (wpAny_of_eq hlk ?_)))))))
  show wpAny _ _ (getAttrByItsOwn (.ref so) (.str name t) (.type "super") (.builtin "super.__getattribute__") true false) _ _ _
  unfold getAttrByItsOwn hookBefore callGetattribute boundAndCalled
  refine wpAny_bind (wpAny_of_eq (show (if onTheHeap (.type "super") then typeLookup (.type "super") "__getattr__" else pure none) = pure none from rfl) ?_)
  refine wpAny_bind (wpAny_attempt (wpAny_holding ?_))
  show wpAny _ _ (bindSpecial (.builtin "super.__getattribute__") (.ref so) >>= _) _ _ _
  refine wpAny_bind (wpAny_of_eq (F.ks_slot_super_ga.bind _) ?_)
  refine wpAny_mono (E := fun _ _ => False) (wpAny_call_entry F.ks_slot_super_ga (hT _) F.ks_entry_super_ga (super_ga X hso hne hf ht hg hn hq) (F.ks_gaArgs_super _ _)) (fun v s' hv => ?_) fun _ _ z => z.elim
  obtain ⟨a, h', t', rfl, rfl, hv⟩ := hv
  exact wpAny_pure (wpAny_pure hv)
end
/-- a call of one of the text's defs that names super() -/
theorem call_defAt {w : World} {A : Around} {n : Nat} {h : Heap} {g : Array GenState} {dr : Drawn} {t : Nat} {os : OsState} {f : Addr} {oc : Value} {od : Option Addr} {osl : Array (Option Value)} {fd : FuncData} {body : List Stmt} {args : List Value} (binds : List (Str × Value)) {R : Result → Shared → Prop}
    (ok : Ok n A) (X : HX (hd.heap_39 w.params) h) (ho : (hd.heap_39 w.params).lookup f = some ⟨oc, od, .func fd, osl⟩) (hbody : fd.body = .stmts body) (hcd : codeIn (hd.heap_39 w.params) fd.code fd.qualname = true)
    (hbind : BindsTo ⟨h, g, dr, t, os⟩ fd ⟨args, []⟩ binds) (hcell : ∀ x ∈ fd.scope.names, x.2 ≠ .cell) (hloc : ∀ x ∈ binds, fd.scope.names.lookup x.1 = some .local)
    (hco : fd.scope.isCoroutine = false) (hgen : fd.scope.isGenerator = false) (hk : fd.scope.kind = .function)
    (hq : ∀ h₀, h₀.Ns h.objs.size (fun x => binds.reverse.lookup x) → Kp [] h h₀ →
      _root_.PySem.wpAt (model PySem.Challenge.rw_rl0011_01.row.prog w) (A.deeper (callEnv fd h.objs.size f)) (.func body (callEnv fd h.objs.size f)) (execs body (callEnv fd h.objs.size f)) (fun fl s' => R (.ok (.ret (match fl with | .ret v => v | _ => .none))) s') (fun _ _ => False) ⟨h₀, g, dr, t + binds.length, os⟩) :
    codeAny (model PySem.Challenge.rw_rl0011_01.row.prog w) A (.call (.ref f) ⟨args, []⟩) R ⟨h, g, dr, t, os⟩ := by
  refine ks_codeAny_call_defAt (s := ⟨h, g, dr, t, os⟩) (binds := binds) ok.room (X.x _ _ ho) rfl (noLimit_of X) (codeRec_of X.x hcd) hbody hbind hcell hloc (fun h₀ hn hk => ?_) hco hgen hk
  exact ks_wpAt_mono (hq h₀ hn (Kp.of hk)) (fun _ _ z => z) fun _ _ z => z.elim
theorem callWith_mach {M : Model} {A : Around} {s : Shared} {env : Env} {pos : Pos} {first : List Value} {a : Addr} {T : String} {vs : Array Value} {sl : Array (Option Value)} {dd : Option Addr} {Q E : Value → Shared → Prop} (ha : s.heap.get? a = some ⟨.type T, dd, .fields vs, sl⟩) (hT : T = "builtin_function_or_method" ∨ T = "method-wrapper")
    (h : wpAny M A (call (.ref a) (first ++ [])) Q E s) : wpAny M A (callWith pos (.ref a) first (backTo pos (starEach [] env)) []) Q E s := by
  refine callWith_of (P := fun h => h.get? a = some ⟨.type T, dd, .fields vs, sl⟩) rfl (fun h X => ⟨.machine, .inr (.inl rfl), (Looks.ld (part := none) X).andThen ?_⟩) (evalArgs_nil3 ⟨ha, h⟩)
  rcases hT with rfl | rfl <;> exact .now
theorem type_list_len : typeOf (.builtin "list.__len__") = pure (.type "wrapper_descriptor") := by show builtinType _ = _; rw [builtinType_eq_fast]; kernel_rfl
theorem type_list_init : typeOf (.builtin "list.__init__") = pure (.type "wrapper_descriptor") := by show builtinType _ = _; rw [builtinType_eq_fast]; kernel_rfl
theorem type_list_pop : typeOf (.builtin "list.pop") = pure (.type "method_descriptor") := by show builtinType _ = _; rw [builtinType_eq_fast]; kernel_rfl
theorem get_wrapper : typeLookup (.type "wrapper_descriptor") "__get__" = pure (some (.builtin "wrapper_descriptor.__get__")) := by rw [typeLookup_type, builtinLookup_eq_fast]; kernel_rfl
theorem get_method : typeLookup (.type "method_descriptor") "__get__" = pure (some (.builtin "method_descriptor.__get__")) := by rw [typeLookup_type, builtinLookup_eq_fast]; kernel_rfl
set_option maxRecDepth 100000 in
set_option maxHeartbeats 0 in
theorem part_count_acc : ∀ {w : World} {A : Around} {n : Nat} {h : Heap} {g : Array GenState} {dr : Drawn} {t : Nat} {os : OsState} {stk d : Addr} {items : Array Value} {Q E : Value → Shared → Prop},
    Ok (n + 2) A → HX (hd.heap_39 w.params) h → IsAcc h stk d items →
    (∀ h' t' tk, Kp [] h h' → Q (.int items.size tk) ⟨h', g, dr, t', os⟩) →
    wpAny (model PySem.Challenge.rw_rl0011_01.row.prog w) A (call (.ref 112) [.ref stk]) Q E ⟨h, g, dr, t, os⟩ := by
  k_fill
  intro w A n h g dr t os stk d items Q E ok X I hq
  refine wpAny_call ?_
  refine' call_defAt [("self", .ref stk)] ok X ?ho ?hb ?hcd ?hbi ?hce ?hlo ?hco ?hge ?hk ?_
  case ho => k_is
  case hb => exact rfl
  case hcd => k_is
  case hbi => exact BindsTo.of_eq rfl
  case hce => decide
  case hlo => exact locs rfl
  case hco => exact rfl
  case hge => exact rfl
  case hk => exact rfl
  intro h₀ hn hk
  have X₀ := in_keep X hk (fun _ h => nomatch h)
  have I₀ := I.kp hk nomem nomem
  have hne : stk ≠ 115 := I.nk.ne (P := w.params) (h := h) (b := 115) rfl
  obtain ⟨_, _, ⟨k0, b0⟩, _⟩ := id I₀
  refine ks_wpAt_execs_cons (ks_wpAt_Return_some (ks_wpAt_MethodCall (ks_wpAt_super_base rfl rfl (by decide) rfl (X₀.x 112 _ rfl) rfl rfl rfl (X₀.x 111 _ rfl) rfl rfl (by decide +kernel) (by decide +kernel) ?_)))
  refine ks_loadName_global rfl rfl (glob_bi X₀ rfl rfl (by kernel_rfl) PyProof.Rows.Boot.super (by decide) ⟨rfl, ?_⟩)
  refine wpAny_loadName_free rfl rfl rfl ⟨_, X₀.x 39 _ rfl, rfl⟩ ?_
  refine wpAny_loadName_local rfl rfl hn rfl ?_
  refine ks_wpAny_isType_cls (X₀.x 115 _ rfl) rfl ⟨rfl, ?_⟩
  refine ks_wpAny_call_super (X₀.x 115 _ rfl) rfl b0 rfl (fun _ e => nomatch e) (looks_mroIn X₀.x (by rfl)) fun h₁ e1 k1 => ?_
  have k1 := Kp.of k1
  have X₁ := in_keep X₀ k1 (fun _ h => nomatch h)
  have b1 := k1 _ _ nomem b0
  refine super_method X₁ e1 hne (by kernel_rfl) type_list_len get_wrapper (by decide) ?_
  refine wp_at0 (ok.deeper _).in1 fun fr gd => get_len X₁ b1 fun h₂ a t2 k2 na pa => ⟨a, h₂, t2, rfl, rfl, ?_⟩
  have X₂ := in_keep X₁ k2 (fun _ h => nomatch h)
  have b2 := k2 _ _ nomem b1
  refine callWith_mach (T := "method-wrapper") pa (.inr rfl) ?_
  refine wp_at0 (ok.deeper _) fun fr gd => call_len X₂ b2 pa fun h₃ tk tk' k3 => ?_
  exact hq _ _ _ (((hk.trans k1).trans k2).trans k3)
end Mine
namespace Mine
theorem erase_last {α : Type} (xs : Array α) (h : 0 < xs.size) : xs.eraseIdxIfInBounds (xs.size - 1) = xs.pop := by
  unfold Array.eraseIdxIfInBounds
  rw [dif_pos (by omega)]
  apply Array.ext'
  rw [Array.toList_eraseIdx, Array.toList_pop]
  have : ∀ (l : List α), l.eraseIdx (l.length - 1) = l.dropLast := by
    intro l
    induction l with
    | nil => rfl
    | cons a r ih =>
      cases r with
      | nil => rfl
      | cons b r =>
        have : (a :: b :: r).length - 1 = ((b :: r).length - 1) + 1 := by simp
        rw [this, List.eraseIdx_cons_succ, ih]; rfl
  exact this xs.toList
section
variable {w : World} {A : Around} {h : Heap} {g : Array GenState} {dr : Drawn} {t : Nat} {os : OsState} {E : Value → Shared → Prop} {stk d : Addr} {items : Array Value}
theorem pop_run {x : Value} {Q : Fin → Shared → Prop} (I : IsAcc h stk d items) (hsz : items.size ≤ 1000) (hx : items.toList.getLast? = some x)
    (hq : ∀ h', IsAcc h' stk d items.pop → Kp [stk] h h' → Q (.done (.ret x)) ⟨h', g, dr, t, os⟩) : wpAny (model PySem.Challenge.rw_rl0011_01.row.prog w) A (Builtin.«list.pop» ⟨[.ref stk], []⟩) Q E ⟨h, g, dr, t, os⟩ := by
  have I' := I
  obtain ⟨l, ne, ⟨a, ho⟩, _⟩ := I
  have hpos : 0 < items.size := by
    cases q : items.size with
    | zero =>
      have : items = #[] := Array.eq_empty_of_size_eq_zero q
      rw [this] at hx; cases hx
    | succ n => omega
  unfold Builtin.«list.pop»
  refine wpAny_bind (wpAny_of_eq (a := (Value.ref stk, [])) rfl ?_)
  dsimp only
  refine wpAny_bind (wpAny_pure ?_)
  rw [if_neg (by decide)]
  refine wpAny_bind (listItems_at ho rfl ?_)
  rw [if_neg (by simp [Array.isEmpty]; intro e; rw [e] at hpos; exact absurd hpos (by decide))]
  have hi : (seqIndex? (-1) items.size) = some (items.size - 1) := by
    unfold seqIndex?
    have h1 : ((-1 : Int) + items.size) = ((items.size - 1 : Nat) : Int) := by omega
    simp only [show (-1 : Int) < 0 from by decide, if_true, h1]
    simp; omega
  have hl : items[items.size - 1]? = some x := by
    have : items.toList[items.toList.length - 1]? = some x := by rw [← List.getLast?_eq_getElem?]; exact hx
    simpa using this
  rw [hi]
  simp only [Option.bind_some, hl, Option.map_some]
  have he : ∀ xs : Array Value, xs.size = items.size → xs.eraseIdxIfInBounds (items.size - 1) = xs.pop := by
    intro xs hxs
    rw [← hxs]
    exact erase_last xs (by omega)
  refine wpAny_bind (listUpdate_at ho rfl ?_ (by rw [sizeLine_eq]; omega) (by rw [he _ rfl, sizeLine_eq, Array.size_pop]; omega))
  obtain ⟨u1, u2⟩ := update_acc I' (fun xs => xs.eraseIdxIfInBounds (items.size - 1))
  rw [he _ rfl] at u1
  exact wpAny_pure (hq _ u1 u2)
theorem sig_pop : ∃ sig, Manifest.signature? "list.pop" = some sig ∧ ∀ (self : Value), Bind.checkArgs "list.pop" { sig with full := s!"{(("_Accumulator" : Str)).toString}.{Bind.lastOf "list.pop"}" } ⟨[self], []⟩ = pure () := by
  rw [signature?_of (id := "list.pop") (n := ['p', 'o', 'p']) (o := ['t', 's', 'i', 'l']) (by kernel_rfl) F.owner_list]
  exact ⟨_, by rfl, fun self => by kernel_rfl⟩
theorem kind_pop : builtinKind "list.pop" = some .method := by decide +kernel
theorem pop_bound {a : Addr} {x : Value} {Q : Value → Shared → Prop} (X : HX (hd.heap_39 w.params) h) (I : IsAcc h stk d items) (hsz : items.size ≤ 1000) (hx : items.toList.getLast? = some x) (ha : h.get? a = some ⟨.type "builtin_function_or_method", none, .fields #[.builtin "list.pop", .ref stk], #[]⟩)
    (hq : ∀ h', IsAcc h' stk d items.pop → Kp [stk] h h' → Q x ⟨h', g, dr, t, os⟩) : wpAny (model PySem.Challenge.rw_rl0011_01.row.prog w) A (call (.ref a) []) Q E ⟨h, g, dr, t, os⟩ := by
  refine wpAny_call (codeAny_of_tree ?_)
  show wpAny _ A.in1 (callAny (.ref a) _) _ _ _
  unfold callAny
  refine wpAny_bind (wpAny_load ha ?_)
  obtain ⟨ox, od, J, _, ⟨k0, rfl⟩, sh⟩ := I.inst
  have hno : (accO d items k0).data = .seq items k0 := rfl
  have L1 : Looks (model PySem.Challenge.rw_rl0011_01.row.prog w) h (isInstance (.ref stk) (.type "module")) false := J.type.andThen (looks_mroIn X.x (by rfl))
  have L2 : Looks (model PySem.Challenge.rw_rl0011_01.row.prog w) h (isType (.ref stk)) false := fun A Q E s k q => wpAny_bind (wpAny_loadPart (k _ _ J.at_) (wpAny_pure q))
  have L3 := J.type (M := model PySem.Challenge.rw_rl0011_01.row.prog w)
  have L4 : Looks (model PySem.Challenge.rw_rl0011_01.row.prog w) h (typeOf (.ref 115)) (.type "type") := looks_typeIn X.x (by rfl)
  obtain ⟨cd, hcd, hqn⟩ : ∃ cd, Looks (model PySem.Challenge.rw_rl0011_01.row.prog w) h (classData 115) cd ∧ cd.qualname = "_Accumulator" := ⟨_, looks_clsIn X.x (by rfl), by rfl⟩
  have hchk : Looks (model PySem.Challenge.rw_rl0011_01.row.prog w) h (checkBoundCall "list.pop" ⟨[.ref stk], []⟩) () := by
    unfold checkBoundCall
    obtain ⟨sig, hs, hc⟩ := sig_pop
    rw [hs, kind_pop]
    dsimp only
    rw [if_neg (by decide)]
    refine L1.andThen ?_
    have hv : (Manifest.varargsMethods.contains "list.pop" || false) = false := by decide +kernel
    rw [hv, if_neg (by decide)]
    refine L2.andThen ?_
    refine Looks.andThen L3 ?_
    dsimp only
    refine hcd.andThen (L4.andThen ?_)
    rw [if_pos (by decide)]
    rw [hqn]
    exact Looks.of_pure (hc _)
  dsimp only
  rw [if_pos (by decide)]
  show wpAny _ _ (checkBoundCall "list.pop" ⟨[.ref stk], []⟩ >>= fun _ => again (.builtin "list.pop" ⟨[.ref stk], []⟩)) _ _ _
  refine wpAny_bind (hchk.here (wpAny_pure ⟨plainId_quiet (by decide +kernel) _, codeAny_builtin F.entry_list_pop ?_⟩))
  exact pop_run I hsz hx fun h' I' k' => hq h' I' k'
end
set_option maxRecDepth 100000 in
set_option maxHeartbeats 0 in
theorem pop_acc : ∀ {w : World} {A : Around} {n : Nat} {h : Heap} {g : Array GenState} {dr : Drawn} {t : Nat} {os : OsState} {stk d : Addr} {items : Array Value} {x : Value} {Q E : Value → Shared → Prop},
    Ok (n + 4) A → HX (hd.heap_39 w.params) h → IsAcc h stk d items → items.size ≤ 1000 → items.toList.getLast? = some x →
    (∀ h' t', IsAcc h' stk d items.pop → Kp [stk] h h' → Q x ⟨h', g, dr, t', os⟩) →
    wpAny (model PySem.Challenge.rw_rl0011_01.row.prog w) A (call (.ref 75) [.ref stk]) Q E ⟨h, g, dr, t, os⟩ := by
  k_fill
  intro w A n h g dr t os stk d items x Q E ok X I hsz hx hq
  refine wpAny_call ?_
  refine' call_defAt [("self", .ref stk)] ok X ?ho ?hb ?hcd ?hbi ?hce ?hlo ?hco ?hge ?hk ?_
  case ho => k_is
  case hb => exact rfl
  case hcd => k_is
  case hbi => exact BindsTo.of_eq rfl
  case hce => decide
  case hlo => exact locs rfl
  case hco => exact rfl
  case hge => exact rfl
  case hk => exact rfl
  intro h₀ hn hk
  have X₀ := in_keep X hk (fun _ h => nomatch h)
  have I₀ := I.kp hk nomem nomem
  have hne : stk ≠ 115 := I.nk.ne (P := w.params) (h := h) (b := 115) rfl
  obtain ⟨ox, od, J, _, _, sh⟩ := I₀.inst
  refine ks_wpAt_execs_cons (ks_wpAt_If (PySem.wpAt_of_wpAny (wpAny_isTrue_Compare1 (MethodCall_ (wpAny_Name (wpAny_loadName_local rfl rfl hn rfl ?_))))))
  refine' method_any X₀.x J ?a ?b ?c ?d ?e ?f ?g ?_
  case a => k_is
  case b => decide +kernel
  case c => k_is
  case d => k_is
  case e => k_is
  case f => decide +kernel
  case g => exact sh _ (by decide)
  refine callWith_K0 X₀.x (by rfl) (part_count_acc (n := n + 1) (ok.deeper _) X₀ I₀ fun h₁ t1 tk1 k1 => ?_)
  refine wpAny_Constant_int (wpAny_eq_int (wpAny_truthy_bool ?_))
  have hpos : items.size ≠ 0 := by
    intro q
    have : items = #[] := Array.eq_empty_of_size_eq_zero q
    rw [this] at hx; cases hx
  rw [if_neg (by simpa using hpos)]
  refine PySem.wpAt_of_wpAny (wpAny_execs_nil ?_)
  have X₁ := in_keep X₀ k1 (fun _ h => nomatch h)
  have I₁ := I₀.kp k1 nomem nomem
  have n1 := hn.keeps k1.all
  obtain ⟨_, _, ⟨k0, b1⟩, _⟩ := id I₁
  refine ks_wpAt_execs_cons (ks_wpAt_Return_some (ks_wpAt_MethodCall (ks_wpAt_super_base rfl rfl (by decide) rfl (X₁.x 75 _ rfl) rfl rfl rfl (X₁.x 74 _ rfl) rfl rfl (by decide +kernel) (by decide +kernel) ?_)))
  refine ks_loadName_global rfl rfl (glob_bi X₁ rfl rfl (by kernel_rfl) PyProof.Rows.Boot.super (by decide) ⟨rfl, ?_⟩)
  refine wpAny_loadName_free rfl rfl rfl ⟨_, X₁.x 39 _ rfl, rfl⟩ ?_
  refine wpAny_loadName_local rfl rfl n1 rfl ?_
  refine ks_wpAny_isType_cls (X₁.x 115 _ rfl) rfl ⟨rfl, ?_⟩
  refine ks_wpAny_call_super (X₁.x 115 _ rfl) rfl b1 rfl (fun _ e => nomatch e) (looks_mroIn X₁.x (by rfl)) fun h₂ e2 k2 => ?_
  have k2 := Kp.of k2
  have X₂ := in_keep X₁ k2 (fun _ h => nomatch h)
  have b2 := k2 _ _ nomem b1
  refine super_method X₂ e2 hne (by kernel_rfl) type_list_pop get_method (by decide) ?_
  refine wp_at0 (ok.deeper _).in1 fun fr gd => get_pop X₂ b2 fun h₃ a t3 k3 na pa => ⟨a, h₃, t3, rfl, rfl, ?_⟩
  have X₃ := in_keep X₂ k3 (fun _ h => nomatch h)
  have I₃ := (I₁.kp k2 nomem nomem).kp k3 nomem nomem
  refine callWith_mach (T := "builtin_function_or_method") pa (.inl rfl) (pop_bound X₃ I₃ hsz hx pa fun h₄ I₄ k4 => ?_)
  exact hq _ _ I₄ (((((hk.trans k1).trans k2).trans k3).nil _).trans k4)
end Mine
namespace Mine
open Builtin Builtin.ObjectAttr Builtin.Getset_descriptor
section
variable {w : World} {A : Around} {h : Heap} {g : Array GenState} {dr : Drawn} {t : Nat} {os : OsState} {E : Value → Shared → Prop} {stk d : Addr}
theorem refuse_acc (self : Value) : refuseLoop self "__setattr__" [.ref 115, .type "list", .type "object"] = pure () := by
  rw [refuseLoop_ref]
  kernel_rfl
theorem setattr_acc {k : Nat} {v : Value} {Q : Unit → Shared → Prop} (X : HX (hd.heap_39 w.params) h) (ne : stk ≠ d) (hs : h.get? stk = some (accO d #[] k)) (hd0 : h.get? d = some (dictOf [] 0))
    (hq : ∀ h' t' hs' tk', h'.get? stk = some (accO d #[] k) → h'.get? d = some ⟨.type "dict", none, .dict #[⟨hs', .str "_initial_size" tk', v⟩] 1, #[]⟩ → Kp [d] h h' → Q () ⟨h', g, dr, t', os⟩) :
    wpAny (model PySem.Challenge.rw_rl0011_01.row.prog w) A (setAttr (.ref stk) "_initial_size" v) Q E ⟨h, g, dr, t, os⟩ := by
  have SF := PySem.F.store_object
  have I : InstAt h stk (accO d #[] k) 115 (some (dictOf [] 0)) := ⟨hs, rfl, rfl, hd0⟩
  refine set_plain X.x I (by kernel_rfl) ?_
  have sub : Looks (model PySem.Challenge.rw_rl0011_01.row.prog w) h (isInstance (.ref stk) (.type "object")) true := I.type.andThen (looks_mroIn X.x (by rfl))
  refine codeAny_call_builtin SF.slot.plain SF.entry (@check_slot (model PySem.Challenge.rw_rl0011_01.row.prog w) _ _ ⟨h, g, dr, t + 1, os⟩ "object.__setattr__" "object" "__setattr__" (.ref stk) [.str "_initial_size" t, v] [] _ SF.kind SF.split sub (SF.args (.ref stk) (.str "_initial_size" t) v) ?_)
  have hm : Looks (model PySem.Challenge.rw_rl0011_01.row.prog w) h (mroOf (.ref 115)) [.ref 115, .type "list", .type "object"] := (looks_clsIn X.x (C := 115) (by rfl)).andThen .now
  have ha : findIn (hd.heap_39 w.params) (.ref 115) "_initial_size" = some none := by kernel_rfl
  rw [osa_eq, refuse_eq]
  refine wpAny_bind (wpAny_bind (I.type.here (wpAny_bind (hm.here ?_))))
  rw [refuse_acc]
  refine wpAny_pure (wpAny_bind (I.type.here (wpAny_bind ((looks_findIn X.x ha).here (wpAny_bind (Looks.now.here ?_))))))
  obtain ⟨cd, hcd, hdict⟩ : ∃ cd, Looks (model PySem.Challenge.rw_rl0011_01.row.prog w) h (classData 115) cd ∧ cd.hasDict = true := ⟨_, looks_clsIn X.x (by rfl), by rfl⟩
  refine wpAny_bind (wpAny_pure (wpAny_bind (wpAny_bind (wpAny_loadPart hs (wpAny_bind (hcd.here ?_))))))
  rw [hdict]
  refine wpAny_pure (a := some d) (wpAny_bind (wpAny_pure (wpAny_bind ?_)))
  unfold nsSet
  refine wpAny_bind (wpAny_bind (wpAny_askSetting (wpAny_pure (wpAny_bind (wpAny_mkText (wpAny_bind (wpAny_loadPart hd0 ?_)))))))
  dsimp only
  rw [if_neg (show ¬ (aRefKeyMayBeTheName (Str.ofString "_initial_size") ([] : List DictEntry).toArray = true) from by rw [aRefKeyMayBeTheName_at]; simp)]
  refine wpAny_updatePart hd0 ?_
  generalize (if (Str.ofString "_initial_size").cps.isEmpty = true then (0 : Int) else reduceHash ((model PySem.Challenge.rw_rl0011_01.row.prog w).w.params.strHash (Str.ofString "_initial_size").cps)) = hsh
  have e1 := Heap.get?_update_self (Obj.putName (Str.ofString "_initial_size") hsh (.str "_initial_size" (t + 1)) v) hd0 (by rw [putName_dict]; rfl)
  rw [putName_dict] at e1
  have e2 : (h.update d (Obj.putName (Str.ofString "_initial_size") hsh (.str "_initial_size" (t + 1)) v)).get? stk = some (accO d #[] k) := (Heap.get?_update_other h _ (Ne.symm ne)).trans hs
  refine wpAny_bind (wpAny_lookBehind e1 (pastItsLine_dict (by rw [sizeLine_eq]; simp [putL])) (wpAny_pure ?_))
  exact hq _ _ _ _ e2 e1 (Kp.upd h d _)
theorem init_run {items : Array Value} {Q : Fin → Shared → Prop} (I : IsAcc h stk d items) (hsz : items.size ≤ 1000)
    (hq : ∀ h', IsAcc h' stk d #[] → Kp [stk] h h' → Q (.done (.ret .none)) ⟨h', g, dr, t, os⟩) : wpAny (model PySem.Challenge.rw_rl0011_01.row.prog w) A (Builtin.«list.__init__» ⟨[.ref stk], []⟩) Q E ⟨h, g, dr, t, os⟩ := by
  have I' := I
  obtain ⟨l, ne, ⟨a, ho⟩, _⟩ := I
  unfold Builtin.«list.__init__»
  dsimp only
  rw [if_neg (by decide), if_neg (by decide)]
  refine wpAny_bind (listItems_at ho rfl (wpAny_bind (listUpdate_at ho rfl ?_ (by rw [sizeLine_eq]; omega) (by simp))))
  obtain ⟨u1, u2⟩ := update_acc I' (fun _ => #[])
  exact wpAny_bind (wpAny_letGo (wpAny_pure (hq _ u1 u2)))
theorem sig_init : ∃ sig, Manifest.signature? "list.__init__" = some sig ∧ ∀ (self : Value), Bind.checkArgs "list.__init__" sig ⟨[self], []⟩ = pure () := by
  rw [signature?_of (id := "list.__init__") (n := ['_', '_', 't', 'i', 'n', 'i', '_', '_']) (o := ['t', 's', 'i', 'l']) (by kernel_rfl) F.owner_list]
  exact ⟨_, by rfl, fun self => by kernel_rfl⟩
theorem kind_init : builtinKind "list.__init__" = some .slot := by decide +kernel
theorem init_bound {items : Array Value} {a : Addr} {Q : Value → Shared → Prop} (I : IsAcc h stk d items) (hsz : items.size ≤ 1000) (ha : h.get? a = some ⟨.type "method-wrapper", none, .fields #[.builtin "list.__init__", .ref stk], #[]⟩)
    (hq : ∀ h', IsAcc h' stk d #[] → Kp [stk] h h' → Q .none ⟨h', g, dr, t, os⟩) : wpAny (model PySem.Challenge.rw_rl0011_01.row.prog w) A (call (.ref a) []) Q E ⟨h, g, dr, t, os⟩ := by
  refine wpAny_call (codeAny_of_tree ?_)
  show wpAny _ A.in1 (callAny (.ref a) _) _ _ _
  unfold callAny
  refine wpAny_bind (wpAny_load ha ?_)
  have hchk : checkBoundCall "list.__init__" ⟨[.ref stk], []⟩ = pure () := by
    unfold checkBoundCall
    obtain ⟨sig, hs, hc⟩ := sig_init
    rw [hs, kind_init]
    dsimp only
    rw [if_pos (by decide)]
    exact hc _
  dsimp only
  rw [if_pos (by decide)]
  show wpAny _ _ (checkBoundCall "list.__init__" ⟨[.ref stk], []⟩ >>= fun _ => again (.builtin "list.__init__" ⟨[.ref stk], []⟩)) _ _ _
  rw [hchk]
  refine wpAny_bind (wpAny_pure (wpAny_pure ⟨plainId_quiet (by decide +kernel) _, codeAny_builtin F.entry_list_init ?_⟩))
  exact init_run I hsz fun h' I' k' => hq h' I' k'
end
local macro_rules | `(tactic| x_close) => `(tactic| ((rename Mem _ _ _ _ => D); (rename (∀ _, _) => hq); exact hq _ _ _ _ (Kp.mem D) (D.nw _ (.head _)).2 (D.nw _ (.tail _ (.head _))).2 (D.nw _ (.head _)).1 (D.nw _ (.tail _ (.head _))).1))
set_option maxRecDepth 100000 in
set_option maxHeartbeats 0 in
theorem list_new : ∀ {w : World} {h : Heap} {g : Array GenState} {dr : Drawn} {t : Nat} {os : OsState} {fr : List Env} {gd : Option (List Code)} {Q E : Value → Shared → Prop},
    HX (hd.heap_39 w.params) h →
    (∀ h' stk d t', Kp [] h h' → h.get? stk = none → h.get? d = none → h'.get? stk = some ⟨.ref 115, some d, .seq #[] 0, #[]⟩ → h'.get? d = some ⟨.type "dict", none, .dict #[] 0, #[]⟩ → Q (.ref stk) ⟨h', g, dr, t', os⟩) →
    wpAny (model PySem.Challenge.rw_rl0011_01.row.prog w) (A0 fr gd) (call (.builtin "list.__new__") [.ref 115]) Q E ⟨h, g, dr, t, os⟩ := by
  k_fill
  intro w h g dr t os fr gd Q E KX hq
  have KX1 := KX.x
  revert hq
  intro hq
  x_run
set_option maxRecDepth 100000 in
set_option maxHeartbeats 0 in
theorem init_acc : ∀ {w : World} {A : Around} {n : Nat} {h : Heap} {g : Array GenState} {dr : Drawn} {t : Nat} {os : OsState} {stk d : Addr} {R : Result → Shared → Prop},
    Ok (n + 2) A → HX (hd.heap_39 w.params) h → NK stk → NK d → stk ≠ d → h.get? stk = some (accO d #[] 0) → h.get? d = some (dictOf [] 0) →
    (∀ h' t', IsAcc h' stk d #[] → Kp [stk, d] h h' → R (.ok (.ret .none)) ⟨h', g, dr, t', os⟩) →
    codeAny (model PySem.Challenge.rw_rl0011_01.row.prog w) A (.call (.ref 52) ⟨[.ref stk], []⟩) R ⟨h, g, dr, t, os⟩ := by
  k_fill
  intro w A n h g dr t os stk d R ok X lo lod ne hs hd0 hq
  have l1 := ltOf hs
  have l2 := ltOf hd0
  refine' call_defAt [("self", .ref stk), ("initial_size", .int 0 226)] ok X ?ho ?hb ?hcd ?hbi ?hce ?hlo ?hco ?hge ?hk ?_
  case ho => k_is
  case hb => exact rfl
  case hcd => k_is
  case hbi => exact BindsTo.of_defaults rfl (X.x 44 _ rfl) rfl rfl rfl
  case hce => decide
  case hlo => exact locs rfl
  case hco => exact rfl
  case hge => exact rfl
  case hk => exact rfl
  intro h₀ hn hk
  have X₀ := in_keep X hk (fun _ h => nomatch h)
  have s0 := hk _ _ nomem hs
  have d0 := hk _ _ nomem hd0
  refine ks_wpAt_execs_cons (ks_wpAt_Assign_Attr (PySem.wpAt_of_wpAny (wpAny_Name (wpAny_loadName_local rfl rfl hn rfl (wpAny_Name (wpAny_loadName_local rfl rfl hn rfl ?_))))))
  refine setattr_acc X₀ ne s0 d0 fun h₁ t1 hs1 tk1 s1 d1 k1 => ?_
  have X₁ := in_keep X₀ k1 lod.one
  have n1 : h₁.Ns h.objs.size _ := hn.at' fun o e => k1 _ o (notin1 (by omega)) e
  have I₁ : IsAcc h₁ stk d #[] := ⟨lo, ne, ⟨_, s1⟩, ⟨_, _, _, _, d1⟩⟩
  have hne : stk ≠ 115 := lo.ne (P := w.params) (h := h) (b := 115) rfl
  refine ks_wpAt_execs_cons (ks_wpAt_Expr_any (ks_wpAt_MethodCall (ks_wpAt_super_base rfl rfl (by decide) rfl (X₁.x 52 _ rfl) rfl rfl rfl (X₁.x 51 _ rfl) rfl rfl (by decide +kernel) (by decide +kernel) ?_)))
  refine ks_loadName_global rfl rfl (glob_bi X₁ rfl rfl (by kernel_rfl) PyProof.Rows.Boot.super (by decide) ⟨rfl, ?_⟩)
  refine wpAny_loadName_free rfl rfl rfl ⟨_, X₁.x 39 _ rfl, rfl⟩ ?_
  refine wpAny_loadName_local rfl rfl n1 rfl ?_
  refine ks_wpAny_isType_cls (X₁.x 115 _ rfl) rfl ⟨rfl, ?_⟩
  refine ks_wpAny_call_super (X₁.x 115 _ rfl) rfl s1 rfl (fun _ e => nomatch e) (looks_mroIn X₁.x (by rfl)) fun h₂ e2 k2 => ?_
  have k2 := Kp.of k2
  have X₂ := in_keep X₁ k2 (fun _ h => nomatch h)
  have s2 := k2 _ _ nomem s1
  refine super_method X₂ e2 hne (by kernel_rfl) type_list_init get_wrapper (by decide) ?_
  refine wp_at0 (ok.deeper _).in1 fun fr gd => get_init X₂ s2 fun h₃ a t3 k3 na pa => ⟨a, h₃, t3, rfl, rfl, ?_⟩
  have I₃ := (I₁.kp k2 nomem nomem).kp k3 nomem nomem
  refine callWith_mach (T := "method-wrapper") pa (.inr rfl) (init_bound I₃ (by decide) pa fun h₄ I₄ k4 => ?_)
  refine PySem.wpAt_of_wpAny (wpAny_execs_nil (hq _ _ I₄ ?_))
  intro b o hb e
  exact k4 b o (fun m => hb (List.mem_cons.mpr (.inl (List.mem_singleton.mp m)))) (k3 b o nomem (k2 b o nomem (k1 b o (fun m => hb (List.mem_cons_of_mem _ m)) (hk b o nomem e))))
end Mine
namespace Mine
theorem Ok.make {n : Nat} {A : Around} (ok : Ok (n + 1) A) : Ok n (A.under (.builtin "type.__call__" ⟨[.ref 115], []⟩)) := by
  obtain ⟨a, ⟨fr, b⟩, c, d⟩ := ok
  have h1 : (Code.builtin "type.__call__" ⟨[.ref 115], []⟩).weight = 1 := by decide +kernel
  have h2 : (Code.builtin "type.__call__" ⟨[.ref 115], []⟩).cUnits ≤ 3 := by decide +kernel
  refine ⟨a, ⟨fr, ?_⟩, ?_, ?_⟩
  · show pushEnvs (Code.builtin "type.__call__" ⟨[.ref 115], []⟩).envs A.frames = _
    have : (Code.builtin "type.__call__" ⟨[.ref 115], []⟩).envs = [] := by rfl
    rw [this]; exact b
  · show A.depth + (Code.builtin "type.__call__" ⟨[.ref 115], []⟩).weight + n ≤ 600
    rw [h1]; omega
  · show A.units + (Code.builtin "type.__call__" ⟨[.ref 115], []⟩).cUnits + 10 * n ≤ 6000
    omega
theorem create_acc {w : World} {A : Around} {n : Nat} {h : Heap} {g : Array GenState} {dr : Drawn} {t : Nat} {os : OsState} {Q E : Value → Shared → Prop} (ok : Ok (n + 4) A) (X : HX (hd.heap_39 w.params) h)
    (hq : ∀ h' t' stk d, IsAcc h' stk d #[] → h.get? stk = none → h.get? d = none → Kp [] h h' → Q (.ref stk) ⟨h', g, dr, t', os⟩) :
    wpAny (model PySem.Challenge.rw_rl0011_01.row.prog w) A (call (.ref 115) []) Q E ⟨h, g, dr, t, os⟩ := by
  have hC := X.x 115 _ rfl
  have call : Looks (model PySem.Challenge.rw_rl0011_01.row.prog w) h (specialOf (.ref 115) "__call__") (some (.builtin "type.__call__")) := looks_specialIn X.x (by kernel_rfl)
  have typ : Looks (model PySem.Challenge.rw_rl0011_01.row.prog w) h (isInstance (.ref 115) (.type "type")) true := looks_instIn X.x (by kernel_rfl)
  have hm : Looks (model PySem.Challenge.rw_rl0011_01.row.prog w) h (mroOf (.ref 115)) [.ref 115, .type "list", .type "object"] := (looks_clsIn X.x (C := 115) (by rfl)).andThen .now
  have made : Looks (model PySem.Challenge.rw_rl0011_01.row.prog w) h (Bind.madeBy (.ref 115)) (some "list.__new__") := by
    intro A Q E s k q
    unfold Bind.madeBy
    refine wpAny_bind (hm A _ E s k ?_)
    rw [List.forIn_cons]
    refine wpAny_bind (wpAny_bind (wpAny_bind (wpAny_bind (wpAny_loadPart (k _ _ hC) (wpAny_pure ?_)))))
    exact wpAny_pure (wpAny_pure (wpAny_pure q))
  refine wpAny_call (codeAny_of_tree ?_)
  show wpAny _ _ (callAny (.ref 115) _) _ _ _
  refine nd_load hC ?_
  show wpAny _ _ (callAny.viaDunder (.ref 115) _) _ _ _
  unfold callAny.viaDunder
  refine wpAny_bind (call.at ?_)
  dsimp only
  rw [tc_bind]
  refine wpAny_bind (wpAny_pure (wpAny_bind (wpAny_pure ?_)))
  refine wpAny_pure (a := Fin.again (.call (.builtin "type.__call__") ⟨[.ref 115], []⟩)) (And.intro rfl ?_)
  refine codeAny_call_builtin_at (Code.quiet_builtin _ (by decide +kernel)) entry_typeCall (check_slot tc_kind tc_split typ (tc_args _ _ _) ?_)
  unfold Builtin.«type.__call__»
  dsimp only
  rw [if_neg (by decide)]
  refine wpAny_bind (hm.here ?_)
  rw [if_neg (by decide)]
  refine wpAny_bind (made.here (wpAny_bind (wpAny_pure (wpAny_bind (wpAny_holding ?_)))))
  refine wp_at0 ok.make fun fr gd => list_new X fun h₁ stk d t1 k1 ns nd es ed => ?_
  have X₁ := in_keep X k1 (fun _ h => nomatch h)
  have ne : stk ≠ d := by rintro rfl; rw [es] at ed; cases ed
  have lo1 : NK stk := .of_none X ns
  have lo2 : NK d := .of_none X nd
  have hT : Looks (model PySem.Challenge.rw_rl0011_01.row.prog w) h₁ (typeOf (.ref stk)) (.ref 115) := (Looks.ld es).andThen .now
  have hI : Looks (model PySem.Challenge.rw_rl0011_01.row.prog w) h₁ (isInstance (.ref stk) (.ref 115)) true := hT.andThen (looks_mroIn X₁.x (by rfl))
  refine wpAny_bind (hI.here ?_)
  rw [if_neg (by decide)]
  unfold callSpecial? specialOf
  refine wpAny_bind (wpAny_holding (wpAny_bind (wpAny_bind (hT.here ((looks_findIn X₁.x (r := some (.ref 52)) (by kernel_rfl)).here ?_)))))
  refine wpAny_holding (wpAny_bind ((bind_fn X₁.x _ (by kernel_rfl)).here (wpAny_bind (wpAny_call ?_))))
  refine init_acc (n := n + 1) ok.make X₁ lo1 lo2 ne es ed fun h₂ t2 I₂ k2 => ?_
  refine wpAny_pure ?_
  dsimp only
  rw [if_neg (by decide)]
  refine wpAny_pure (hq _ _ _ _ I₂ ns nd ?_)
  intro b o _ e
  refine k2 b o ?_ (k1 b o nomem e)
  intro hm
  rcases List.mem_cons.mp hm with q | q
  · exact ne_of e ns q
  · exact ne_of e nd (List.mem_singleton.mp q)
end Mine
namespace Mine
/-- a loop over whatever is walked, by what holds between its turns -/
theorem forWalk {w : World} {A : Around} {h : Heap} {g : Array GenState} {dr : Drawn} {t : Nat} {os : OsState} {env : Env} {x : Str} {px : Pos} {body : List Stmt} {I : Addr} {fp wr : List Addr} {n : Nat} {P : Nat → Value → Prop} {St : Nat → Heap → Prop} {R : Result → Shared → Prop} {m : Str → Option Value}
    (W : Walks PySem.Challenge.rw_rl0011_01.row.prog w A I fp wr n P St) (hx : env.kindOf x = some .local) (hp : (env.scope.kind == .class || (env.scope.kind == .module && env.locals != env.globals)) = false) (hL : env.locals ∉ fp)
    (J : Nat → (Str → Option Value) → Heap → Prop) (stab : ∀ i m h h', Kp (env.locals :: wr) h h' → J i m h → J i m h')
    (h0 : J 0 m h) (st0 : St 0 h) (ns0 : h.Ns env.locals m)
    (turn : ∀ i v m h t, i < n → P i v → J i m h → h.Ns env.locals (fun y => if y = x then some v else m y) → St (i + 1) h →
      wpAny (model PySem.Challenge.rw_rl0011_01.row.prog w) A (execs body env) (fun f s₃ => (f = .next ∧ ∃ h' t' m' V, s₃ = ⟨h', g, dr, t', os⟩ ∧ h'.Ns env.locals m' ∧ J (i + 1) m' h' ∧ Kp V h h' ∧ (∀ b ∈ fp, b ∉ V)) ∨ (∃ v, f = .ret v ∧ R (.ok (.ret v)) s₃)) (fun _ _ => False) ⟨h, g, dr, t, os⟩)
    (done : ∀ m h t, J n m h → h.Ns env.locals m → R (.ok .next) ⟨h, g, dr, t, os⟩) :
    codeAny (model PySem.Challenge.rw_rl0011_01.row.prog w) A (.forLoop (.Name x px) (.ref I) body [] env) R ⟨h, g, dr, t, os⟩ := by
  have hLw : env.locals ∉ wr := fun hm => hL (W.sub _ hm)
  refine codeAny_forLoop (fun k s => ∃ h t m i, s = (⟨h, g, dr, t, os⟩ : Shared) ∧ i ≤ n ∧ k = n - i ∧ J i m h ∧ St i h ∧ h.Ns env.locals m) ?_ n ⟨h, t, m, 0, rfl, Nat.zero_le _, rfl, h0, st0, ns0⟩
  rintro k s ⟨h, t, m, i, rfl, hi, rfl, hJ, hst, hns⟩
  by_cases hlt : i < n
  · refine W.item i _ _ _ hlt hst fun v h' tk hP hst' hk => ?_
    have k1 : Kp wr h h' := fun b o hb e => hk b o hb e
    have ns1 : h'.Ns env.locals m := hns.at' fun o e => k1 _ o hLw e
    refine wpAny_assign_Name (wpAny_storeName_local hx ns1 (fun h₂ n2 sb2 => ?_) hp)
    have k2 := Kp.same sb2
    have k12 : Kp (env.locals :: wr) h h₂ := fun b o hb e => k2 b o (fun q => hb (List.mem_cons.mpr (.inl (List.mem_singleton.mp q)))) (k1 b o (fun q => hb (List.mem_cons_of_mem _ q)) e)
    have st2 : St (i + 1) h₂ := W.frame _ _ _ hst' fun b hb o e => k2 b o (fun q => hL (by rw [← List.mem_singleton.mp q]; exact hb)) e
    refine wpAny_mono (turn i v m h₂ (tk + 1) hlt hP (stab _ _ _ _ k12 hJ) n2 st2) (fun f s₃ z => ?_) fun _ _ z => z.elim
    rcases z with ⟨rfl, h₃, t₃, m₃, V, rfl, n3, hJ3, k3, hV⟩ | ⟨v, rfl, z⟩
    · exact ⟨n - (i + 1), by omega, h₃, t₃, m₃, i + 1, rfl, hlt, rfl, hJ3, W.frame _ _ _ st2 fun b hb o e => k3 b o (hV b hb) e, n3⟩
    · exact z
  · have : i = n := by omega
    subst this
    refine W.done _ _ _ hst fun h' tk hk => ?_
    have k1 : Kp wr h h' := fun b o hb e => hk b o hb e
    refine wpAny_execs_nil (done m h' tk (stab _ _ _ _ (k1.mono fun _ q => List.mem_cons_of_mem _ q) hJ) (hns.at' fun o e => k1 _ o hLw e))
/-- the pieces of a list: pairs of texts -/
inductive Pieces (h : Heap) : List Value → List (Str × Str) → Prop
  | nil : Pieces h [] []
  | cons {a : Addr} {t1 t2 : Tok} {l t : Str} {vs : List Value} {ps : List (Str × Str)} : h.get? a = some (tupO [.str l t1, .str t t2]) → Pieces h vs ps → Pieces h (.ref a :: vs) ((l, t) :: ps)
/-- no pair stands there -/
def NT (h : Heap) (a : Addr) : Prop := ∀ vs, h.get? a ≠ some (tupO vs)
theorem NT.ns {h : Heap} {L : Addr} {m : Str → Option Value} (n : h.Ns L m) : NT h L := by
  intro vs e
  obtain ⟨o, es, ep, ho, hd, _⟩ := n
  rw [e] at ho; cases ho; cases hd
theorem NT.acc {h : Heap} {stk d : Addr} {items : Array Value} (I : IsAcc h stk d items) : NT h stk := by
  intro vs e
  obtain ⟨_, _, ⟨_, ho⟩, _⟩ := I
  rw [e] at ho; cases ho
theorem NT.fields {h : Heap} {a : Addr} {c : Value} {d : Option Addr} {vs : Array Value} {sl : Array (Option Value)} (e : h.get? a = some ⟨c, d, .fields vs, sl⟩) : NT h a := by
  intro vs e'
  rw [e] at e'; cases e'
theorem NT.none {h : Heap} {a : Addr} (e : h.get? a = none) : NT h a := by
  intro vs e'
  rw [e] at e'; cases e'
theorem NT.one {h : Heap} {a : Addr} (n : NT h a) : ∀ b ∈ [a], NT h b := fun b hb => by rw [List.mem_singleton.mp hb]; exact n
theorem Pieces.length {h : Heap} {vs : List Value} {ps : List (Str × Str)} (x : Pieces h vs ps) : vs.length = ps.length := by
  induction x with
  | nil => rfl
  | cons _ _ ih => simp [ih]
theorem Pieces.kp {h h' : Heap} {vs : List Value} {ps : List (Str × Str)} {W : List Addr} (x : Pieces h vs ps) (k : Kp W h h') (hW : ∀ a ∈ W, NT h a) : Pieces h' vs ps := by
  induction x with
  | nil => exact .nil
  | cons e _ ih => exact .cons (k _ _ (fun hm => hW _ hm _ e) e) ih
theorem Pieces.off {h : Heap} {vs : List Value} {ps : List (Str × Str)} {b : Addr} (x : Pieces h vs ps) (n : NT h b) : Value.ref b ∉ vs := by
  induction x with
  | nil => exact nomem
  | cons e _ ih =>
    intro hm
    rcases List.mem_cons.mp hm with q | q
    · cases q; exact n _ e
    · exact ih q
theorem Pieces.kpo {h h' : Heap} {vs : List Value} {ps : List (Str × Str)} {W : List Addr} (x : Pieces h vs ps) (k : Kp W h h') (hW : ∀ a ∈ W, Value.ref a ∉ vs) : Pieces h' vs ps := by
  induction x with
  | nil => exact .nil
  | cons e _ ih => exact .cons (k _ _ (fun hm => hW _ hm (.head _)) e) (ih fun a ha q => hW a ha (.tail _ q))
theorem Pieces.get {h : Heap} {vs : List Value} {ps : List (Str × Str)} (x : Pieces h vs ps) : ∀ {i : Nat} {p : Str × Str}, ps[i]? = some p → ∃ a t1 t2, vs[i]? = some (.ref a) ∧ h.get? a = some (tupO [.str p.1 t1, .str p.2 t2]) := by
  induction x with
  | nil => intro i p e; simp at e
  | cons e _ ih =>
    intro i p q
    cases i with
    | zero => simp at q; subst q; exact ⟨_, _, _, rfl, e⟩
    | succ i => exact ih (by simpa using q)
theorem Pieces.drop {h : Heap} {vs : List Value} {ps : List (Str × Str)} (x : Pieces h vs ps) : ∀ n, Pieces h (vs.drop n) (ps.drop n) := by
  induction x with
  | nil => intro n; simpa using Pieces.nil
  | cons e y ih =>
    intro n
    cases n with
    | zero => exact .cons e y
    | succ n => exact ih n
theorem Pieces.take {h : Heap} {vs : List Value} {ps : List (Str × Str)} (x : Pieces h vs ps) : ∀ n, Pieces h (vs.take n) (ps.take n) := by
  induction x with
  | nil => intro n; simpa using Pieces.nil
  | cons e y ih =>
    intro n
    cases n with
    | zero => exact .nil
    | succ n => exact .cons e (ih n)
theorem Pieces.snoc {h : Heap} {vs : List Value} {ps : List (Str × Str)} {a : Addr} {t1 t2 : Tok} {l t : Str} (x : Pieces h vs ps) (e : h.get? a = some (tupO [.str l t1, .str t t2])) : Pieces h (vs ++ [.ref a]) (ps ++ [(l, t)]) := by
  induction x with
  | nil => exact .cons e .nil
  | cons e' _ ih => exact .cons e' ih
def numT (n : Nat) : Str := Str.ofString (toString (n : Int))
def nodeT (l : Str) (lv : Nat) (r : Str) : Str := Str.ofString "(" ++ l ++ numT lv ++ r ++ Str.ofString ")"
noncomputable def mergedT : List (Str × Str) → Str × Str
  | [] => (Str.empty, Str.empty)
  | [p] => p
  | p :: q :: r => (p.1, nodeT p.2 (mergedT (q :: r)).1.length (mergedT (q :: r)).2)
theorem numT_len (n : Nat) : (numT n).length ≤ n + 2 := by
  have := len_str_of_int (n : Int)
  unfold numT
  omega
theorem nodeT_len (l : Str) (n : Nat) (r : Str) : (nodeT l n r).length ≤ l.length + n + r.length + 4 := by
  unfold nodeT
  simp only [Str.length_append]
  have := numT_len n
  have h1 : (Str.ofString "(").length = 1 := by decide +kernel
  have h2 : (Str.ofString ")").length = 1 := by decide +kernel
  omega
theorem mergedT_len : ∀ (ps : List (Str × Str)), (∀ p ∈ ps, p.1.length ≤ 100 ∧ p.2.length ≤ 1000) → (mergedT ps).1.length ≤ 100 ∧ (mergedT ps).2.length ≤ 1200 * ps.length
  | [], _ => by simp [mergedT]; exact ⟨by decide, by decide⟩
  | [p], h => by
    have := h p (.head _)
    simp only [mergedT, List.length_cons, List.length_nil]
    omega
  | p :: q :: r, h => by
    have h1 := h p (.head _)
    have h2 := mergedT_len (q :: r) fun x hx => h x (.tail _ hx)
    refine ⟨h1.1, ?_⟩
    have := nodeT_len p.2 (mergedT (q :: r)).1.length (mergedT (q :: r)).2
    simp only [mergedT, List.length_cons] at this h2 ⊢
    omega
theorem mergedT_drop {ps : List (Str × Str)} {k : Nat} {p : Str × Str} (hp : ps[k]? = some p) (hk : k + 1 < ps.length) : mergedT (ps.drop k) = (p.1, nodeT p.2 (mergedT (ps.drop (k + 1))).1.length (mergedT (ps.drop (k + 1))).2) := by
  have h1 : ps.drop k = p :: ps.drop (k + 1) := by
    obtain ⟨hlt, rfl⟩ := List.getElem?_eq_some_iff.mp hp
    exact List.drop_eq_getElem_cons hlt
  obtain ⟨q, r, h2⟩ : ∃ q r, ps.drop (k + 1) = q :: r := ⟨_, _, List.drop_eq_getElem_cons hk⟩
  rw [h1, h2]
  rfl
section
variable {w : World} {A : Around} {h : Heap} {g : Array GenState} {dr : Drawn} {t : Nat} {os : OsState} {env : Env} {pos : Pos} {Q E : Value → Shared → Prop}
theorem bi_none (P : Params) : nsFind (nsEs P 3) "len" = none ∧ nsFind (nsEs P 3) "range" = none ∧ nsFind (nsEs P 3) "str" = none ∧ nsFind (nsEs P 3) "sum" = none := ⟨by kernel_rfl, by kernel_rfl, by kernel_rfl, by kernel_rfl⟩
theorem name_any {x : Str} {v : Value} (X : HX (hd.heap_39 w.params) h) (hk : env.scope.kind = .function) (hx : env.kindOf x = some .globalImplicit) (hg : env.globals = 3) (hb : env.builtins = 0) (hd : (x == ("__debug__" : Str)) = false) (hn : x ≠ "__name__") (e1 : nsFind (nsEs w.params 3) x = none) (e2 : bootBuiltins x = some v) (hq : Q v ⟨h, g, dr, t, os⟩) :
    wpAny (model PySem.Challenge.rw_rl0011_01.row.prog w) A (eval (.Name x pos) env) Q E ⟨h, g, dr, t, os⟩ := wpAny_Name (ks_loadName_global hk hx (glob_bi X hg hb e1 e2 hn hq)) hd
theorem name_len (X : HX (hd.heap_39 w.params) h) (hq : Q (.builtin "len") ⟨h, g, dr, t, os⟩) (hk : env.scope.kind = .function := by rfl) (hx : env.kindOf "len" = some .globalImplicit := by rfl) (hg : env.globals = 3 := by rfl) (hb : env.builtins = 0 := by rfl) :
    wpAny (model PySem.Challenge.rw_rl0011_01.row.prog w) A (eval (.Name "len" pos) env) Q E ⟨h, g, dr, t, os⟩ := name_any X hk hx hg hb (by decide) (by decide) (bi_none _).1 PyProof.Rows.Boot.len hq
theorem name_range (X : HX (hd.heap_39 w.params) h) (hq : Q (.type "range") ⟨h, g, dr, t, os⟩) (hk : env.scope.kind = .function := by rfl) (hx : env.kindOf "range" = some .globalImplicit := by rfl) (hg : env.globals = 3 := by rfl) (hb : env.builtins = 0 := by rfl) :
    wpAny (model PySem.Challenge.rw_rl0011_01.row.prog w) A (eval (.Name "range" pos) env) Q E ⟨h, g, dr, t, os⟩ := name_any X hk hx hg hb (by decide) (by decide) (bi_none _).2.1 PyProof.Rows.Boot.range hq
theorem name_str (X : HX (hd.heap_39 w.params) h) (hq : Q (.type "str") ⟨h, g, dr, t, os⟩) (hk : env.scope.kind = .function := by rfl) (hx : env.kindOf "str" = some .globalImplicit := by rfl) (hg : env.globals = 3 := by rfl) (hb : env.builtins = 0 := by rfl) :
    wpAny (model PySem.Challenge.rw_rl0011_01.row.prog w) A (eval (.Name "str" pos) env) Q E ⟨h, g, dr, t, os⟩ := name_any X hk hx hg hb (by decide) (by decide) (bi_none _).2.2.1 PyProof.Rows.Boot.str hq
theorem name_own {x : Str} {v : Value} (X : HX (hd.heap_39 w.params) h) (e1 : nsFind (nsEs w.params 3) x = some v) (hq : Q v ⟨h, g, dr, t, os⟩) (hd : (x == ("__debug__" : Str)) = false := by decide) (hk : env.scope.kind = .function := by rfl) (hx : env.kindOf x = some .globalImplicit := by rfl) (hg : env.globals = 3 := by rfl) :
    wpAny (model PySem.Challenge.rw_rl0011_01.row.prog w) A (eval (.Name x pos) env) Q E ⟨h, g, dr, t, os⟩ := by
  refine wpAny_Name (ks_loadName_global hk hx (Calls.loadGlobal_global (mg := nsFind (nsEs w.params 3)) ?_ e1 hq)) hd
  rw [hg]; exact globals_of X
end
section
variable {w : World} {A : Around} {h : Heap} {g : Array GenState} {dr : Drawn} {t : Nat} {os : OsState} {env : Env} {pos : Pos} {Q E : Value → Shared → Prop}
/-! the steps with the state in one form -/
def isStar : Expr → Bool
  | .Starred _ _ => true
  | _ => false
theorem star_cons {e : Expr} {rest : List Expr} {env : Env} (h : isStar e = false) : starEach (e :: rest) env = (false, eval e env) :: starEach rest env := by
  cases e <;> first | rfl | cases h
theorem star_any {pos : Pos} {env : Env} : ∀ {l : List Expr}, (l.all fun e => !isStar e) = true → (backTo pos (starEach l env)).any (·.1) = false
  | [], _ => rfl
  | e :: r, h => by
    rw [List.all_cons, Bool.and_eq_true] at h
    rw [star_cons (by simpa using h.1)]
    show (false || (backTo pos (starEach r env)).any (·.1)) = false
    rw [star_any h.2]; rfl
theorem n_type {T : String} {e : Expr} {rest : List Expr} (hq : wpAny (model PySem.Challenge.rw_rl0011_01.row.prog w) A (spliced (backTo pos (starEach (e :: rest) env))) (fun vs s₁ => wpAny (model PySem.Challenge.rw_rl0011_01.row.prog w) A (call (.type T) vs) Q E s₁) E ⟨h, g, dr, t, os⟩) (h1 : isStar e = false := by rfl) (h2 : (rest.all fun e => !isStar e) = true := by rfl) :
    wpAny (model PySem.Challenge.rw_rl0011_01.row.prog w) A (callWith pos (.type T) [] (backTo pos (starEach (e :: rest) env)) []) Q E ⟨h, g, dr, t, os⟩ := callWith_type1 hq (star_cons h1) (star_any h2)
theorem n_bi {id : String} {first : List Value} {e : Expr} {rest : List Expr} (hq : wpAny (model PySem.Challenge.rw_rl0011_01.row.prog w) A (spliced (backTo pos (starEach (e :: rest) env))) (fun vs s₁ => wpAny (model PySem.Challenge.rw_rl0011_01.row.prog w) A (call (.builtin id) (first ++ vs)) Q E s₁) E ⟨h, g, dr, t, os⟩) (h1 : isStar e = false := by rfl) (h2 : (rest.all fun e => !isStar e) = true := by rfl) :
    wpAny (model PySem.Challenge.rw_rl0011_01.row.prog w) A (callWith pos (.builtin id) first (backTo pos (starEach (e :: rest) env)) []) Q E ⟨h, g, dr, t, os⟩ := callWith_method1 hq (star_cons h1) (star_any h2)
theorem n_fn {f : Addr} {first : List Value} {e : Expr} {rest : List Expr} (hk : keepIn (hd.heap_39 w.params) (.ref f) = true) (X : HX (hd.heap_39 w.params) h) (hq : wpAny (model PySem.Challenge.rw_rl0011_01.row.prog w) A (spliced (backTo pos (starEach (e :: rest) env))) (fun vs s₁ => HX (hd.heap_39 w.params) s₁.heap ∧ wpAny (model PySem.Challenge.rw_rl0011_01.row.prog w) A (call (.ref f) (first ++ vs)) Q E s₁) E ⟨h, g, dr, t, os⟩) (h1 : isStar e = false := by rfl) (h2 : (rest.all fun e => !isStar e) = true := by rfl) :
    wpAny (model PySem.Challenge.rw_rl0011_01.row.prog w) A (callWith pos (.ref f) first (backTo pos (starEach (e :: rest) env)) []) Q E ⟨h, g, dr, t, os⟩ := callWith_K X.x hk (wpAny_mono hq (fun _ _ z => ⟨z.1.x, z.2⟩) fun _ _ z => z) (star_cons h1) (star_any h2)
theorem n_arg {e : Expr} {rest : List Expr} {Q : List Value → Shared → Prop} (hq : wpAny (model PySem.Challenge.rw_rl0011_01.row.prog w) A (eval e env) (fun v s₁ => wpAny (model PySem.Challenge.rw_rl0011_01.row.prog w) A (spliced (backTo pos (starEach rest env))) (fun vs s₂ => Q (v :: vs) s₂) E s₁) E ⟨h, g, dr, t, os⟩) (h1 : isStar e = false := by rfl) :
    wpAny (model PySem.Challenge.rw_rl0011_01.row.prog w) A (spliced (backTo pos (starEach (e :: rest) env))) Q E ⟨h, g, dr, t, os⟩ := wpAny_items_cons hq (star_cons h1)
theorem n_int {i : Int} {k : Nat} (hq : ∀ tk t', Q (.int i tk) ⟨h, g, dr, t', os⟩) : wpAny (model PySem.Challenge.rw_rl0011_01.row.prog w) A (eval (.Constant (.int i) k pos) env) Q E ⟨h, g, dr, t, os⟩ := wpAny_Constant_int (hq _ _)
theorem n_str {x : Str} {k : Nat} (hq : ∀ tk t', Q (.str x tk) ⟨h, g, dr, t', os⟩) : wpAny (model PySem.Challenge.rw_rl0011_01.row.prog w) A (eval (.Constant (.str x) k pos) env) Q E ⟨h, g, dr, t, os⟩ := wpAny_Constant_str (hq _ _)
theorem n_local {x : Str} {v : Value} {L : Addr} {m : Str → Option Value} (hn : h.Ns L m) (hv : m x = some v) (hq : Q v ⟨h, g, dr, t, os⟩) (hk : env.scope.kind = .function := by rfl) (hl : env.kindOf x = some .local := by rfl) (hL : env.locals = L := by rfl) (hd : (x == ("__debug__" : Str)) = false := by decide) :
    wpAny (model PySem.Challenge.rw_rl0011_01.row.prog w) A (eval (.Name x pos) env) Q E ⟨h, g, dr, t, os⟩ := wpAny_Name (wpAny_loadName_local hk hl (by rw [hL]; exact hn) hv hq) hd
theorem n_store {x : Str} {v : Value} {L : Addr} {m : Str → Option Value} {Q : Unit → Shared → Prop} (hn : h.Ns L m) (hq : ∀ h' t', h'.Ns L (fun y => if y = x then some v else m y) → Kp [L] h h' → Q () ⟨h', g, dr, t', os⟩) (hl : env.kindOf x = some .local := by rfl) (hL : env.locals = L := by rfl) (hp : (env.scope.kind == .class || (env.scope.kind == .module && env.locals != env.globals)) = false := by rfl) :
    wpAny (model PySem.Challenge.rw_rl0011_01.row.prog w) A (storeName env x v) Q E ⟨h, g, dr, t, os⟩ := by
  subst hL
  exact wpAny_storeName_local hl hn (fun h' n' s' => hq h' _ n' (Kp.same s')) hp
theorem n_neg {a : Int} {u : Tok} (hq : ∀ tk t', Q (.int (-a) tk) ⟨h, g, dr, t', os⟩) : wpAny (model PySem.Challenge.rw_rl0011_01.row.prog w) A (unaryOp .USub (.int a u)) Q E ⟨h, g, dr, t, os⟩ := neg_int (hq _ _)
theorem n_sub {a b : Int} {u v : Tok} (hq : ∀ tk t', Q (.int (a - b) tk) ⟨h, g, dr, t', os⟩) : wpAny (model PySem.Challenge.rw_rl0011_01.row.prog w) A (binaryOp .Sub (.int a u) (.int b v)) Q E ⟨h, g, dr, t, os⟩ := sub_int (hq _ _)
theorem n_add {a b : Int} {u v : Tok} (hq : ∀ tk t', Q (.int (a + b) tk) ⟨h, g, dr, t', os⟩) : wpAny (model PySem.Challenge.rw_rl0011_01.row.prog w) A (binaryOp .Add (.int a u) (.int b v)) Q E ⟨h, g, dr, t, os⟩ := wpAny_add_int (hq _ _)
theorem n_adds {x y : Str} {u v : Tok} (hz : x.length + y.length ≤ 1000000) (hq : ∀ tk t', Q (.str (x ++ y) tk) ⟨h, g, dr, t', os⟩) : wpAny (model PySem.Challenge.rw_rl0011_01.row.prog w) A (binaryOp .Add (.str x u) (.str y v)) Q E ⟨h, g, dr, t, os⟩ := PyProof.Rows.add_str (fun _ _ => hq _ _) (by rw [sizeLine_eq]; omega)
theorem n_lens {x : Str} {u : Tok} (hz : x.length ≤ 1000000) (hq : ∀ tk t', Q (.int x.length tk) ⟨h, g, dr, t', os⟩) : wpAny (model PySem.Challenge.rw_rl0011_01.row.prog w) A (call (.builtin "len") [.str x u]) Q E ⟨h, g, dr, t, os⟩ := PyProof.Rows.len_str (by omega) (hq _ _)
theorem n_lenl {l : Addr} {items : Array Value} (hl : h.IsList l items) (hz : items.size ≤ 1000000) (hq : ∀ tk t', Q (.int items.size tk) ⟨h, g, dr, t', os⟩) : wpAny (model PySem.Challenge.rw_rl0011_01.row.prog w) A (call (.builtin "len") [.ref l]) Q E ⟨h, g, dr, t, os⟩ := len_list hl (by omega) (hq _ _)
theorem n_strn {n : Nat} {u : Tok} (hz : n ≤ 1000000) (hq : ∀ tk t', Q (.str (numT n) tk) ⟨h, g, dr, t', os⟩) : wpAny (model PySem.Challenge.rw_rl0011_01.row.prog w) A (call (.type "str") [.int (n : Int) u]) Q E ⟨h, g, dr, t, os⟩ := by
  refine P.str_of_int ?_ (hq _ _)
  by_cases h0 : n = 0
  · subst h0; decide +kernel
  · have : (n : Int).natAbs.log2 < 20 := by
      rw [Int.natAbs_natCast, Nat.log2_lt h0]
      omega
    omega
theorem range_small {a b c : Int} (ha : -1000000 ≤ a ∧ a ≤ 1000000) (hb : -1000000 ≤ b ∧ b ≤ 1000000) (hc : c = 1 ∨ c = -1) {n : Nat} (hn : Builtin.Range.rangeSize a b c = n) (hz : n ≤ 1000000) : Builtin.Range.small a b c = true := by
  unfold Builtin.Range.small Builtin.Range.rangeFitsLong
  rw [hn]
  rcases hc with rfl | rfl <;> simp <;> omega
theorem n_range3 {a b c : Int} {u1 u2 u3 : Tok} {n : Nat} {Q : Value → Shared → Prop} (ha : -1000000 ≤ a ∧ a ≤ 1000000) (hb : -1000000 ≤ b ∧ b ≤ 1000000) (hc : c = 1 ∨ c = -1) (hn : Builtin.Range.rangeSize a b c = n) (hz : n ≤ 1000000)
    (hq : ∀ h' t' I, Kp [] h h' → h.get? I = none → IsRangeIter h' I a n c → Q (.ref I) ⟨h', g, dr, t', os⟩) :
    wpAny (model PySem.Challenge.rw_rl0011_01.row.prog w) A (call (.type "range") [.int a u1, .int b u2, .int c u3]) (fun x s₁ => wpAny (model PySem.Challenge.rw_rl0011_01.row.prog w) A (pyIter x) Q E s₁) E ⟨h, g, dr, t, os⟩ := by
  refine call_range_3 (by rcases hc with rfl | rfl <;> decide) ?_ (.inl (PyProof.noPylong_small (by rcases hc with rfl | rfl <;> decide)))
  refine wpAny_pyIter_range (Heap.get?_push_size _ rfl) (range_small ha hb hc hn hz) ?_
  rw [hn]
  refine hq _ _ _ ((Kp.push _ _).trans (Kp.push _ _)) (new_of ?_) (Heap.get?_push_size _ rfl)
  show h.objs.size ≤ (h.push _).objs.size
  rw [Heap.size_push]; omega
theorem n_range2 {a b : Int} {u1 u2 : Tok} {n : Nat} {Q : Value → Shared → Prop} (ha : -1000000 ≤ a ∧ a ≤ 1000000) (hb : -1000000 ≤ b ∧ b ≤ 1000000) (hn : Builtin.Range.rangeSize a b 1 = n) (hz : n ≤ 1000000)
    (hq : ∀ h' t' I, Kp [] h h' → h.get? I = none → IsRangeIter h' I a n 1 → Q (.ref I) ⟨h', g, dr, t', os⟩) :
    wpAny (model PySem.Challenge.rw_rl0011_01.row.prog w) A (call (.type "range") [.int a u1, .int b u2]) (fun x s₁ => wpAny (model PySem.Challenge.rw_rl0011_01.row.prog w) A (pyIter x) Q E s₁) E ⟨h, g, dr, t, os⟩ := by
  refine call_range_2 ?_
  refine wpAny_pyIter_range (Heap.get?_push_size _ rfl) (range_small ha hb (.inl rfl) hn hz) ?_
  rw [hn]
  refine hq _ _ _ ((Kp.push _ _).trans (Kp.push _ _)) (new_of ?_) (Heap.get?_push_size _ rfl)
  show h.objs.size ≤ (h.push _).objs.size
  rw [Heap.size_push]; omega
theorem n_item {value slice : Expr} {l : Addr} {items : Array Value} {k : Nat} {u : Tok} {x : Value} (hl : h.IsList l items) (hx : items[k]? = some x) (hk : k ≤ 1000000) (hq : Q x ⟨h, g, dr, t, os⟩)
    (hs : subscripted slice false (.ref l) (.int (k : Int) u) = operate [.ref l, .int (k : Int) u] (getItem (.ref l) (.int (k : Int) u)) := by with_unfolding_all rfl) :
    wpAny (model PySem.Challenge.rw_rl0011_01.row.prog w) A (subscriptTail value slice (.ref l) (.int (k : Int) u)) Q E ⟨h, g, dr, t, os⟩ :=
  tail_any hl.typeIs slot_list_getitem.lookup (wpAny_getItem_list (x := x) hl (by omega) (by omega) (by simpa using hx) hq) hs
theorem n_fst {value slice : Expr} {a : Addr} {v1 v2 : Value} {u : Tok} (ha : h.get? a = some (tupO [v1, v2])) (hq : Q v1 ⟨h, g, dr, t, os⟩)
    (hs : subscripted slice false (.ref a) (.int 0 u) = operate [.ref a, .int 0 u] (getItem (.ref a) (.int 0 u)) := by with_unfolding_all rfl) :
    wpAny (model PySem.Challenge.rw_rl0011_01.row.prog w) A (subscriptTail value slice (.ref a) (.int 0 u)) Q E ⟨h, g, dr, t, os⟩ :=
  item_tupleT (l := [v1, v2]) (j := 0) ⟨_, ha, rfl, _, rfl⟩ (by decide) (by decide) rfl rfl hq hs
theorem n_snd {value slice : Expr} {a : Addr} {v1 v2 : Value} {u : Tok} (ha : h.get? a = some (tupO [v1, v2])) (hq : Q v2 ⟨h, g, dr, t, os⟩)
    (hs : subscripted slice false (.ref a) (.int 1 u) = operate [.ref a, .int 1 u] (getItem (.ref a) (.int 1 u)) := by with_unfolding_all rfl) :
    wpAny (model PySem.Challenge.rw_rl0011_01.row.prog w) A (subscriptTail value slice (.ref a) (.int 1 u)) Q E ⟨h, g, dr, t, os⟩ :=
  item_tupleT (l := [v1, v2]) (j := 1) ⟨_, ha, rfl, _, rfl⟩ (by decide) (by decide) rfl rfl hq hs
theorem n_tup2 {e1 e2 : Expr} {k : Nat} {Q : Value → Shared → Prop} (hq : wpAny (model PySem.Challenge.rw_rl0011_01.row.prog w) A (eval e1 env) (fun v1 s₁ => wpAny (model PySem.Challenge.rw_rl0011_01.row.prog w) A (eval e2 env) (fun v2 s₂ => ∃ h₂ t₂, s₂ = (⟨h₂, g, dr, t₂, os⟩ : Shared) ∧ ∀ h' a, Kp [] h₂ h' → h₂.get? a = none → h'.get? a = some (tupO [v1, v2]) → Q (.ref a) ⟨h', g, dr, t₂, os⟩) E s₁) E ⟨h, g, dr, t, os⟩)
    (he1 : starEach [e1, e2] env = (false, eval e1 env) :: starEach [e2] env := by rfl) (he2 : starEach [e2] env = (false, eval e2 env) :: starEach [] env := by rfl) :
    wpAny (model PySem.Challenge.rw_rl0011_01.row.prog w) A (eval (.Tuple [e1, e2] k pos) env) Q E ⟨h, g, dr, t, os⟩ := by
  refine wpAny_Tuple (wpAny_items_cons (wpAny_mono hq (fun v1 s₁ z => wpAny_items_cons (wpAny_mono z (fun v2 s₂ z => ?_) fun _ _ z => z) he2) fun _ _ z => z) he1)
  obtain ⟨h₂, t₂, rfl, z⟩ := z
  refine wpAny_items_nil ⟨by size_fits, ?_⟩
  exact z _ _ (Kp.push _ _) (new_of (Nat.le_refl _)) (Heap.get?_push_size _ rfl)
end
theorem IsTup.of {h : Heap} {a : Addr} {vs : List Value} (e : h.get? a = some (tupO vs)) : IsTup h a vs.toArray := ⟨_, e, rfl, _, rfl⟩
theorem Kp.ext {h h' : Heap} (x : Heap.ExtBut h.objs.size h h') : Kp [] h h' := fun b o _ e => x b o (Nat.ne_of_lt (Heap.lt_size e)) e
theorem unpack2 {w : World} {A : Around} {h : Heap} {g : Array GenState} {dr : Drawn} {t : Nat} {os : OsState} {env : Env} {E : Value → Shared → Prop} {x y : Str} {px py pos : Pos} {k : Nat} {a : Addr} {v1 v2 : Value} {m : Str → Option Value} {Q : Unit → Shared → Prop} (hh : A.handled = none) (ht : h.get? a = some (tupO [v1, v2]))
    (hx : env.kindOf x = some .local) (hy : env.kindOf y = some .local) (hp : (env.scope.kind == .class || (env.scope.kind == .module && env.locals != env.globals)) = false) (hn : h.Ns env.locals m)
    (hq : ∀ h' t', h'.Ns env.locals (fun z => if z = y then some v2 else if z = x then some v1 else m z) → Kp [env.locals] h h' → Q () ⟨h', g, dr, t', os⟩) :
    wpAny (model PySem.Challenge.rw_rl0011_01.row.prog w) A (assign (.Tuple [.Name x px, .Name y py] k pos) env (.ref a)) Q E ⟨h, g, dr, t, os⟩ := by
  refine assign_Tuple_tuple (items := [v1, v2].toArray) hh ⟨_, ht, rfl, _, rfl⟩ rfl rfl fun h₁ e1 => ?_
  have k1 := Kp.ext e1
  show wpAny _ _ (assignInOrder [assign (.Name x px) env, assign (.Name y py) env] [v1, v2]) _ _ _
  unfold assignInOrder
  refine wpAny_bind (wpAny_holding (wpAny_assign_Name (wpAny_storeName_local hx (hn.keeps k1.all) (fun h₂ n2 s2 => ?_) hp)))
  unfold assignInOrder
  refine wpAny_bind (wpAny_holding (wpAny_assign_Name (wpAny_storeName_local hy n2 (fun h₃ n3 s3 => ?_) hp)))
  unfold assignInOrder
  exact wpAny_pure (hq h₃ _ n3 (((k1.nil _).trans (Kp.same s2)).trans (Kp.same s3)))
set_option maxRecDepth 100000 in
set_option maxHeartbeats 0 in
theorem merged_c : ∀ {w : World} {A : Around} {n : Nat} {h : Heap} {g : Array GenState} {dr : Drawn} {t : Nat} {os : OsState} {l : Addr} {vs : List Value} {ps : List (Str × Str)} {Q E : Value → Shared → Prop},
    Ok (n + 2) A → HX (hd.heap_39 w.params) h → h.get? l = some { cls := .type "list", data := .seq vs.toArray } → Pieces h vs ps → ps ≠ [] → ps.length ≤ 20 → (∀ p ∈ ps, p.1.length ≤ 100 ∧ p.2.length ≤ 1000) →
    (∀ h' t' a t1 t2, Kp [] h h' → h.get? a = none → h'.get? a = some (tupO [.str (mergedT ps).1 t1, .str (mergedT ps).2 t2]) → Q (.ref a) ⟨h', g, dr, t', os⟩) →
    wpAny (model PySem.Challenge.rw_rl0011_01.row.prog w) A (call (.ref 133) [.ref l]) Q E ⟨h, g, dr, t, os⟩ := by
  k_fill
  intro w A n h g dr t os l vs ps Q E ok X hl hp hne hlen hsz hq
  refine' call_def [("pieces", .ref l)] ok X ?ho ?hb ?hcd ?hbi ?hce ?hlo ?hco ?hge ?hk ?_
  case ho => k_is
  case hb => exact rfl
  case hcd => k_is
  case hbi => exact BindsTo.of_eq rfl
  case hce => decide
  case hlo => exact locs rfl
  case hco => exact rfl
  case hge => exact rfl
  case hk => exact rfl
  intro h₀ hn hk
  have X₀ := in_keep X hk .nil
  have hl₀ : h₀.IsList l vs.toArray := ⟨_, hk _ _ nomem hl, rfl, _, rfl⟩
  have hp₀ := hp.kp hk (fun _ q => nomatch q)
  have hvl := hp.length
  have hpos : 0 < ps.length := List.length_pos_iff.mpr hne
  have hll := ltOf hl
  obtain ⟨a0, ta, tb, ev, ea⟩ := hp₀.get (i := ps.length - 1) (p := ps[ps.length - 1]) (by simp)
  refine wpAny_execs_cons (Assign_Tuple (Subscript_ (n_local hn rfl (wpAny_UnaryOp (n_int fun _ _ => n_neg fun _ _ => ?_)))))
  refine tail_any hl₀.typeIs slot_list_getitem.lookup (wpAny_getItem_list_neg (x := .ref a0) hl₀ (by decide) (by simp; omega) (by decide) ?_ ?_) rfl
  · rw [← ev]
    simp
    congr 1
    omega
  refine unpack2 (ok.deeper _).hh ea rfl rfl rfl hn fun h₁ t1 n1 k1 => ?_
  change Kp [h.objs.size] h₀ h₁ at k1
  change h₁.Ns h.objs.size _ at n1
  have X₁ := in_keep X₀ k1 (NK.size X).one
  have hl₁ : h₁.IsList l vs.toArray := hl₀.at fun o e => k1 _ o (notin1 (by omega)) e
  have hp₁ : Pieces h₁ vs ps := hp₀.kp k1 (NT.ns hn).one
  refine wpAny_execs_cons (wpAny_For ?_)
  refine wpAny_Call_NameR (name_range X₁ ?_)
  refine n_type (n_arg (wpAny_BinOp ?_))
  refine wpAny_Call_NameR (name_len X₁ ?_)
  refine n_bi (n_arg (n_local n1 rfl (wpAny_items_nil ?_)))
  refine n_lenl hl₁ (by simp; omega) fun _ _ => n_int fun _ _ => n_sub fun _ _ => ?_
  refine n_arg (wpAny_UnaryOp (n_int fun _ _ => n_neg fun _ _ => n_arg (wpAny_UnaryOp (n_int fun _ _ => n_neg fun _ _ => wpAny_items_nil ?_))))
  have hN : ((vs.toArray.size : Int) - 2) = ((ps.length : Int) - 2) := by simp [hvl]
  rw [hN]
  have hrs : Builtin.Range.rangeSize ((ps.length : Int) - 2) (-1) (-1) = ((ps.length - 1 : Nat) : Int) := by
    unfold Builtin.Range.rangeSize
    rw [if_neg (by decide)]
    by_cases h1 : (ps.length : Int) - 2 > -1
    · rw [if_pos h1]; simp; omega
    · rw [if_neg h1]; omega
  refine n_range3 (by omega) (by omega) (.inr rfl) hrs (by omega) fun h₂ t2 I k2 nI hI => ?_
  have X₂ := in_keep X₁ k2 .nil
  have hl₂ : h₂.IsList l vs.toArray := hl₁.at fun o e => k2 _ o nomem e
  have hp₂ : Pieces h₂ vs ps := hp₁.kp k2 (fun _ q => nomatch q)
  have n2 : h₂.Ns h.objs.size _ := n1.keeps k2.all
  have hIl : I ≠ l := fun e => by obtain ⟨o, q, _⟩ := hl₁; rw [e] at nI; rw [nI] at q; cases q
  have hIL : I ≠ h.objs.size := fun e => by obtain ⟨o, _, _, q, _⟩ := n1; rw [e] at nI; rw [nI] at q; cases q
  have hI0 : NK I := NK.of_none X₁ nI
  have offL : Value.ref h.objs.size ∉ vs := hp.off (NT.none (new_of (Nat.le_refl _)))
  have offI : Value.ref I ∉ vs := hp₁.off (NT.none nI)
  have nIh : h.get? I = none := by
    cases q : h.get? I with
    | none => rfl
    | some o => rw [k1 _ _ (notin1 (by have := ltOf q; omega)) (hk _ _ nomem q)] at nI; cases nI
  have offs : ∀ a ∈ [h.objs.size, I], NK a ∧ Value.ref a ∉ vs ∧ l ≠ a ∧ h.get? a = none := by
    intro a ha
    rcases List.mem_cons.mp ha with rfl | ha
    · exact ⟨NK.size X, offL, neN (by omega), new_of (Nat.le_refl _)⟩
    · rw [List.mem_singleton.mp ha]; exact ⟨hI0, offI, Ne.symm hIl, nIh⟩
  have hdr : ∀ k, ∀ p ∈ ps.drop k, p.1.length ≤ 100 ∧ p.2.length ≤ 1000 := fun k p hp => hsz p (List.mem_of_mem_drop hp)
  refine forWalk (Walks.range (ok.deeper _).hh I ((ps.length : Int) - 2) (-1) (ps.length - 1)) rfl rfl (show h.objs.size ∉ [I] from by simpa using Ne.symm hIL) (fun i m hh => HX (hd.heap_39 w.params) hh ∧ hh.IsList l vs.toArray ∧ Pieces hh vs ps ∧ Kp [] h hh ∧ m "pieces" = some (.ref l) ∧ (∃ u1, m "lead" = some (.str (mergedT (ps.drop (ps.length - 1 - i))).1 u1)) ∧ ∃ u2, m "tree" = some (.str (mergedT (ps.drop (ps.length - 1 - i))).2 u2)) ?_ ?_ ?_ n2 ?_ ?_
  · rintro i m ha hb k ⟨x1, x2, x3, x4, x5⟩
    change Kp [h.objs.size, I] ha hb at k
    exact ⟨in_keep x1 k fun a q => (offs a q).1, x2.at fun o e => k _ o (fun q => (offs _ q).2.2.1 rfl) e, x3.kpo k fun a q => (offs a q).2.1, fun b o _ e => k b o (fun q => by rw [(offs b q).2.2.2] at e; cases e) (x4 b o nomem e), x5⟩
  · refine ⟨X₂, hl₂, hp₂, ?_, rfl, ?_⟩
    · intro b o _ e
      exact k2 b o nomem (k1 b o (notin1 (by have := ltOf e; omega)) (hk b o nomem e))
    · have : mergedT (ps.drop (ps.length - 1 - 0)) = ps[ps.length - 1] := by
        rw [Nat.sub_zero, List.drop_eq_getElem_cons (by omega), show ps.length - 1 + 1 = ps.length by omega, List.drop_length]
        rfl
      rw [this]
      exact ⟨⟨_, rfl⟩, ⟨_, rfl⟩⟩
  · have : ((ps.length : Int) - 2 + ((0 : Nat) : Int) * -1) = (ps.length : Int) - 2 := by omega
    rw [this, show (((ps.length - 1 : Nat) : Int) - ((0 : Nat) : Int)) = ((ps.length - 1 : Nat) : Int) by omega]
    exact hI
  · rintro i v m hh tt hi ⟨tv, rfl⟩ ⟨x1, x2, x3, x4, x5, ⟨u1, x6⟩, ⟨u2, x7⟩⟩ ns st
    change hh.Ns h.objs.size _ at ns
    obtain ⟨kk, hkk⟩ : ∃ kk : Nat, kk = ps.length - 2 - i := ⟨_, rfl⟩
    have hke : ((ps.length : Int) - 2 + (i : Int) * -1) = (kk : Int) := by omega
    rw [hke] at ns
    obtain ⟨a1, tc, td, ev1, ea1⟩ := x3.get (i := kk) (p := ps[kk]'(by omega)) (by simp)
    have hk1 : ps.length - 1 - i = kk + 1 := by omega
    rw [hk1] at x6 x7
    have hml := mergedT_len (ps.drop (kk + 1)) (hdr _)
    have hdl : (ps.drop (kk + 1)).length ≤ 20 := by rw [List.length_drop]; omega
    have hpk := hsz (ps[kk]'(by omega)) (List.getElem_mem _)
    have hnl := numT_len (mergedT (ps.drop (kk + 1))).1.length
    have h1 : (Str.ofString "(").length = 1 := by decide +kernel
    have h2 : (Str.ofString ")").length = 1 := by decide +kernel
    refine wpAny_execs_cons (wpAny_Assign_Name (wpAny_BinOp (wpAny_BinOp (wpAny_BinOp (wpAny_BinOp (n_str fun _ _ => Subscript_ (Subscript_ (n_local ns x5 (n_local ns rfl ?_)))))))))
    refine n_item (k := kk) (x := .ref a1) x2 (by simpa using ev1) (by omega) (n_int fun _ _ => n_snd ea1 (n_adds (by omega) fun _ _ => ?_))
    refine wpAny_Call_NameR (name_str x1 (n_type (n_arg (wpAny_Call_NameR (name_len x1 (n_bi (n_arg (n_local ns x6 (wpAny_items_nil (n_lens (by omega) fun _ _ => wpAny_items_nil (n_strn (by omega) fun _ _ => ?_)))))))))))
    refine n_adds (by simp only [Str.length_append]; omega) fun _ _ => n_local ns x7 (n_adds (by simp only [Str.length_append]; omega) fun _ _ => n_str fun _ _ => n_adds (by simp only [Str.length_append]; omega) fun t3 _ => ?_)
    refine n_store ns fun h3 _ ns3 k3 => ?_
    have y2 : h3.IsList l vs.toArray := x2.at fun o e => k3 _ o (notin1 (by omega)) e
    have y3 := x3.kpo k3 fun a q => by rw [List.mem_singleton.mp q]; exact offL
    obtain ⟨a2, te, tf, ev2, ea2⟩ := y3.get (i := kk) (p := ps[kk]'(by omega)) (by simp)
    refine wpAny_execs_cons (wpAny_Assign_Name (Subscript_ (Subscript_ (n_local ns3 x5 (n_local ns3 rfl ?_)))))
    refine n_item (k := kk) (x := .ref a2) y2 (by simpa using ev2) (by omega) (n_int fun _ _ => n_fst ea2 ?_)
    refine n_store ns3 fun h4 _ ns4 k4 => ?_
    refine wpAny_execs_nil (.inl ⟨rfl, h4, _, _, [h.objs.size], rfl, ns4, ⟨in_keep (in_keep x1 k3 (NK.size X).one) k4 (NK.size X).one, y2.at fun o e => k4 _ o (notin1 (by omega)) e, y3.kpo k4 fun a q => by rw [List.mem_singleton.mp q]; exact offL, ?_, x5, ?_⟩, k3.trans k4, ?_⟩)
    · intro b o _ e
      have := ltOf e
      exact k4 b o (notin1 (by omega)) (k3 b o (notin1 (by omega)) (x4 b o nomem e))
    · have : mergedT (ps.drop (ps.length - 1 - (i + 1))) = ((ps[kk]'(by omega)).1, nodeT (ps[kk]'(by omega)).2 (mergedT (ps.drop (kk + 1))).1.length (mergedT (ps.drop (kk + 1))).2) := by
        rw [show ps.length - 1 - (i + 1) = kk by omega]
        exact mergedT_drop (by simp) (by omega)
      rw [this]
      exact ⟨⟨_, rfl⟩, ⟨_, rfl⟩⟩
    · intro b hb
      rw [List.mem_singleton.mp hb]
      exact notin1 hIL
  · rintro m hh tt ⟨x1, x2, x3, x4, x5, ⟨u1, x6⟩, ⟨u2, x7⟩⟩ ns
    rw [show ps.length - 1 - (ps.length - 1) = 0 by omega, List.drop_zero] at x6 x7
    refine wpAny_execs_cons (wpAny_Return_some (n_tup2 (n_local ns x6 (n_local ns x7 ⟨_, _, rfl, fun h5 a k5 na ea5 => ?_⟩))))
    refine hq h5 _ a u1 u2 (x4.trans k5) ?_ ea5
    cases q : h.get? a with
    | none => rfl
    | some o => rw [x4 _ _ nomem q] at na; cases na
end Mine
namespace Mine
theorem bindL_local {kindOf : Str → Option NameKind} : ∀ {binds : List (Str × Value)} {m : Str → Option Value}, (∀ x ∈ binds, kindOf x.1 = some .local) → bindL kindOf binds m = fun y => (binds.reverse.lookup y).or (m y)
  | [], m, _ => by funext y; simp [bindL]
  | (n, v) :: r, m, h => by
    have h1 := h _ (.head _)
    have ih := bindL_local (binds := r) (m := fun y => if y = n then some v else m y) fun x hx => h x (.tail _ hx)
    funext y
    show bindL kindOf r (if kindOf n = some .local then fun y => if y = n then some v else m y else m) y = _
    rw [if_pos h1, ih]
    simp only [List.reverse_cons, List.lookup_append]
    cases r.reverse.lookup y with
    | some v => rfl
    | none =>
      simp only [Option.none_or, List.lookup_cons, List.lookup_nil]
      by_cases hy : y = n
      · subst hy; simp
      · have : (y == n) = false := by simpa using hy
        simp [this, hy]
theorem bindC_local {kindOf : Str → Option NameKind} : ∀ {binds : List (Str × Value)} {m : Str → Option Value}, (∀ x ∈ binds, kindOf x.1 = some .local) → bindC kindOf binds m = m
  | [], m, _ => rfl
  | (n, v) :: r, m, h => by
    have h1 := h _ (.head _)
    show bindC kindOf r (if kindOf n = some .local then m else fun y => if y = n then some v else m y) = _
    rw [if_pos h1]
    exact bindC_local fun x hx => h x (.tail _ hx)
/-- a call of a def that has cells -/
theorem call_defC {w : World} {A : Around} {n : Nat} {h : Heap} {g : Array GenState} {dr : Drawn} {t : Nat} {os : OsState} {f : Addr} {oc : Value} {od : Option Addr} {osl : Array (Option Value)} {fd : FuncData} {body : List Stmt} {args : List Value} (binds : List (Str × Value)) {Q E : Value → Shared → Prop}
    (ok : Ok n A) (X : HX (hd.heap_39 w.params) h) (ho : (hd.heap_39 w.params).lookup f = some ⟨oc, od, .func fd, osl⟩) (hbody : fd.body = .stmts body) (hcd : codeIn (hd.heap_39 w.params) fd.code fd.qualname = true)
    (hbind : bindArgs fd ⟨args, []⟩ = pure binds) (hclo : fd.closure = []) (hloc : ∀ x ∈ binds, fd.scope.names.lookup x.1 = some .local)
    (hco : fd.scope.isCoroutine = false) (hgen : fd.scope.isGenerator = false) (hk : fd.scope.kind = .function)
    (hq : ∀ h₀ t', h₀.Ns h.objs.size (fun x => binds.reverse.lookup x) → (∀ n c, (callEnvC fd h.objs.size f).cells.lookup n = some c → h.objs.size < c ∧ h₀.IsCell c none) → Kp [] h h₀ →
      wpAny (model PySem.Challenge.rw_rl0011_01.row.prog w) (A.deeper (callEnvC fd h.objs.size f)) (execs body (callEnvC fd h.objs.size f)) (fun fl s' => Q (match fl with | .ret v => v | _ => .none) s') (fun _ _ => False) ⟨h₀, g, dr, t', os⟩) :
    wpAny (model PySem.Challenge.rw_rl0011_01.row.prog w) A (call (.ref f) args) Q E ⟨h, g, dr, t, os⟩ := by
  refine wpAny_call (codeAny_call_cells (s := ⟨h, g, dr, t, os⟩) (binds := binds) ok.room (X.x _ _ ho) rfl (noLimit_of X) (codeRec_of X.x hcd) hbody hbind hclo (fun x hx => .inl (hloc x hx)) (fun s₁ x => ?_) hco hgen hk)
  have hl' : ∀ x ∈ binds, (callEnvC fd h.objs.size f).kindOf x.1 = some .local := fun x hx => hloc x hx
  obtain ⟨⟨⟨h₀, t', rfl⟩, ns, keep, fr⟩, cell, apart, above⟩ := x
  dsimp only at ns keep cell ⊢
  rw [bindL_local hl'] at ns
  rw [bindC_local hl'] at cell
  refine wpAny_mono (hq h₀ t' ?_ (fun n c e => ⟨above n c (mem_of_lookup e), cell n c e⟩) (Kp.of keep)) (fun _ _ z => z) fun _ _ z => z.elim
  have e : (fun y => (binds.reverse.lookup y).or none) = fun x => binds.reverse.lookup x := by funext y; simp
  rw [e] at ns
  exact ns
theorem IsCell.kp {h h' : Heap} {c : Addr} {v : Option Value} {W : List Addr} (x : h.IsCell c v) (k : Kp W h h') (hW : c ∉ W) : h'.IsCell c v := by
  obtain ⟨o, e, d⟩ := x
  exact ⟨o, k _ _ hW e, d⟩
section
variable {w : World} {A : Around} {h : Heap} {g : Array GenState} {dr : Drawn} {t : Nat} {os : OsState} {env : Env} {pos : Pos} {Q E : Value → Shared → Prop}
theorem n_cell {x : Str} {v : Value} {c : Addr} (hv : h.IsCell c (some v)) (hc : env.cells.lookup x = some c) (hq : Q v ⟨h, g, dr, t, os⟩) (hk : env.scope.kind = .function := by rfl) (hl : env.kindOf x = some .cell := by rfl) (hd : (x == ("__debug__" : Str)) = false := by decide) :
    wpAny (model PySem.Challenge.rw_rl0011_01.row.prog w) A (eval (.Name x pos) env) Q E ⟨h, g, dr, t, os⟩ := wpAny_Name (wpAny_loadName_cell hk hl hc hv hq) hd
theorem n_cellset {x : Str} {v : Value} {v0 : Option Value} {c : Addr} {Q : Unit → Shared → Prop} (hv : h.IsCell c v0) (hc : env.cells.lookup x = some c) (hq : ∀ h' t', h'.IsCell c (some v) → Kp [c] h h' → Q () ⟨h', g, dr, t', os⟩) (hk : env.scope.kind = .function := by rfl) (hl : env.kindOf x = some .cell := by rfl) :
    wpAny (model PySem.Challenge.rw_rl0011_01.row.prog w) A (storeName env x v) Q E ⟨h, g, dr, t, os⟩ := wpAny_storeName_cell hk hl hc hv fun h' c' s' => hq h' _ c' (Kp.same s')
theorem n_lt {a b : Int} {u v : Tok} (hq : Q (.bool (decide (a < b))) ⟨h, g, dr, t, os⟩) : wpAny (model PySem.Challenge.rw_rl0011_01.row.prog w) A (compareOp .Lt (.int a u) (.int b v)) Q E ⟨h, g, dr, t, os⟩ := wpAny_lt_int hq
theorem n_ge {a b : Int} {u v : Tok} (hq : Q (.bool (decide (a ≥ b))) ⟨h, g, dr, t, os⟩) : wpAny (model PySem.Challenge.rw_rl0011_01.row.prog w) A (compareOp .GtE (.int a u) (.int b v)) Q E ⟨h, g, dr, t, os⟩ := PyProof.Rows.ge_int hq
theorem n_gt {a b : Int} {u v : Tok} (hq : Q (.bool (decide (b < a))) ⟨h, g, dr, t, os⟩) : wpAny (model PySem.Challenge.rw_rl0011_01.row.prog w) A (compareOp .Gt (.int a u) (.int b v)) Q E ⟨h, g, dr, t, os⟩ := PyProof.Rows.gt_int hq
theorem n_le {a b : Int} {u v : Tok} (hq : Q (.bool (decide (a ≤ b))) ⟨h, g, dr, t, os⟩) : wpAny (model PySem.Challenge.rw_rl0011_01.row.prog w) A (compareOp .LtE (.int a u) (.int b v)) Q E ⟨h, g, dr, t, os⟩ := PyProof.Rows.le_int hq
theorem n_eq {a b : Int} {u v : Tok} (hq : Q (.bool (a == b)) ⟨h, g, dr, t, os⟩) : wpAny (model PySem.Challenge.rw_rl0011_01.row.prog w) A (compareOp .Eq (.int a u) (.int b v)) Q E ⟨h, g, dr, t, os⟩ := PyProof.Rows.eq_int hq
theorem n_fdiv {a b : Int} {u v : Tok} (hb : b ≠ 0) (hs : b.natAbs < 1073741824) (hq : ∀ tk t', Q (.int (a.fdiv b) tk) ⟨h, g, dr, t', os⟩) : wpAny (model PySem.Challenge.rw_rl0011_01.row.prog w) A (binaryOp .FloorDiv (.int a u) (.int b v)) Q E ⟨h, g, dr, t, os⟩ := by
  refine AutoIntOps.floordiv_1 (by simpa using hb) (by rw [PyProof.noPylong_small hs]; decide) ?_
  exact hq _ _
end
/-- the runs of a list: a number and a text each -/
inductive Runs (h : Heap) : List Value → List (Int × Str) → Prop
  | nil : Runs h [] []
  | cons {a : Addr} {t1 t2 : Tok} {i : Int} {x : Str} {vs : List Value} {rs : List (Int × Str)} : h.get? a = some (tupO [.int i t1, .str x t2]) → Runs h vs rs → Runs h (.ref a :: vs) ((i, x) :: rs)
theorem Runs.length {h : Heap} {vs : List Value} {rs : List (Int × Str)} (x : Runs h vs rs) : vs.length = rs.length := by
  induction x with
  | nil => rfl
  | cons _ _ ih => simp [ih]
theorem Runs.kp {h h' : Heap} {vs : List Value} {rs : List (Int × Str)} {W : List Addr} (x : Runs h vs rs) (k : Kp W h h') (hW : ∀ a ∈ W, NT h a) : Runs h' vs rs := by
  induction x with
  | nil => exact .nil
  | cons e _ ih => exact .cons (k _ _ (fun hm => hW _ hm _ e) e) ih
theorem Runs.snoc {h : Heap} {vs : List Value} {rs : List (Int × Str)} {a : Addr} {t1 t2 : Tok} {l : Int} {t : Str} (x : Runs h vs rs) (e : h.get? a = some (tupO [.int l t1, .str t t2])) : Runs h (vs ++ [.ref a]) (rs ++ [(l, t)]) := by
  induction x with
  | nil => exact .cons e .nil
  | cons e' _ ih => exact .cons e' ih
theorem Runs.get {h : Heap} {vs : List Value} {rs : List (Int × Str)} (x : Runs h vs rs) : ∀ {i : Nat} {v : Value}, vs[i]? = some v → ∃ a t1 t2 n s, v = .ref a ∧ rs[i]? = some (n, s) ∧ h.get? a = some (tupO [.int n t1, .str s t2]) := by
  induction x with
  | nil => intro i p e; simp at e
  | cons e _ ih =>
    intro i p q
    cases i with
    | zero => simp at q; subst q; exact ⟨_, _, _, _, _, rfl, rfl, e⟩
    | succ i => exact ih (by simpa using q)
open Classical in
/-- the test of a run, as a function of the value -/
noncomputable def runTest (h : Heap) (q : Int → Bool) (v : Value) : Bool := decide (∃ a i t1 x t2, v = .ref a ∧ h.get? a = some (tupO [.int i t1, .str x t2]) ∧ q i = true)
theorem runTest_eq {h : Heap} {q : Int → Bool} {a : Addr} {i : Int} {t1 t2 : Tok} {x : Str} (e : h.get? a = some (tupO [.int i t1, .str x t2])) : runTest h q (.ref a) = q i := by
  unfold runTest
  cases hq : q i with
  | true => exact @decide_eq_true _ (Classical.propDecidable _) ⟨a, i, t1, x, t2, rfl, e, hq⟩
  | false =>
    refine @decide_eq_false _ (Classical.propDecidable _) ?_
    rintro ⟨a', i', t1', x', t2', ea, e', q'⟩
    cases ea
    rw [e] at e'
    injection e' with e'
    injection e' with _ _ e' _
    injection e' with e' _
    simp at e'
    rw [e'.1.1] at hq
    rw [hq] at q'; cases q'
theorem Runs.filter {h : Heap} {q : Int → Bool} {vs : List Value} {rs : List (Int × Str)} (x : Runs h vs rs) : Runs h (vs.filter (runTest h q)) (rs.filter fun r => q r.1) := by
  induction x with
  | nil => exact .nil
  | cons e _ ih =>
    rename_i a t1 t2 i x vs rs _
    have := runTest_eq (q := q) e
    cases hq : q i with
    | true =>
      rw [hq] at this
      rw [List.filter_cons_of_pos (by exact this), List.filter_cons_of_pos (by exact hq)]
      exact .cons e ih
    | false =>
      rw [hq] at this
      rw [List.filter_cons_of_neg (by rw [this]; decide), List.filter_cons_of_neg (by simp [hq])]
      exact ih
theorem paired_eq {vs ys : List Value} (x : Paired (fun v y => y = v) vs ys) : ys = vs := by
  induction x with
  | nil => rfl
  | cons e _ ih => rw [e, ih]
theorem Kp.keeps {h h' : Heap} {g : Array GenState} {dr : Drawn} {t t' : Nat} {os : OsState} (k : Kp [] h h') : Keeps (⟨h, g, dr, t, os⟩ : Shared) ⟨h', g, dr, t', os⟩ := ⟨h', t', rfl, k.all⟩
abbrev cutScope : Scope := { kind := .function, names := [(Str.ofString ".0", .local), (Str.ofString "run", .local), (Str.ofString "cut", .free)], isGenerator := false, isCoroutine := false, more := [] }
/-- the comprehension that picks the runs on one side of the cut -/
theorem pick_comp {w : World} {A : Around} {h : Heap} {g : Array GenState} {dr : Drawn} {t : Nat} {os : OsState} {env : Env} {E : Value → Shared → Prop} {Q : Flow → Shared → Prop} {y : Str} {p1 p2 p3 p4 p5 p6 p7 p8 p9 p10 py : Pos} {op : CmpOp} {L c l : Addr} {cut : Int} {tc : Tok} {vs : List Value} {rs : List (Int × Str)} {m : Str → Option Value} {k : Nat}
    (tst : Int → Int → Bool) (hop : ∀ {A : Around} {h : Heap} {g : Array GenState} {dr : Drawn} {t : Nat} {os : OsState} {Q E : Value → Shared → Prop} (a b : Int) (u v : Tok), Q (.bool (tst a b)) ⟨h, g, dr, t, os⟩ → wpAny (model PySem.Challenge.rw_rl0011_01.row.prog w) A (compareOp op (.int a u) (.int b v)) Q E ⟨h, g, dr, t, os⟩)
    (hh : A.handled = none)
    (hsw : swapsWith (.ListComp (.Name "run" p1) [⟨.Name "run" p2, .Name "runs" p3, [.Compare (.Subscript (.Name "run" p4) (.Constant (.int 0) k p5) p6) [op] [.Name "cut" p7] p8], 0⟩] cutScope p9) (some (.Name y py)) p10.line env = pure true)
    (hclos : closureFor cutScope env = pure [(("cut" : Str), c)]) (hk : env.scope.kind = .function) (hy : env.kindOf y = some .local) (hr : env.kindOf "runs" = some .local) (hcu : env.kindOf "cut" = some .cell) (hL : env.locals = L)
    (hm : behindInMarks op (.Name "cut" p7) = false)
    (ns : h.Ns L m) (mr : m "runs" = some (.ref l)) (hl : h.IsList l vs.toArray) (hc : h.IsCell c (some (.int cut tc))) (hR : Runs h vs rs) (hsz : vs.length ≤ 1000)
    (hq : ∀ h' t' D, h.get? D = none → h'.PlainList D (vs.filter (runTest h fun i => tst i cut)).toArray → h'.Ns L (fun z => if z = y then some (.ref D) else m z) → Kp [L] h h' → Q .next ⟨h', g, dr, t', os⟩) :
    wpAny (model PySem.Challenge.rw_rl0011_01.row.prog w) A (exec (.Assign [.Name y py] (.ListComp (.Name "run" p1) [⟨.Name "run" p2, .Name "runs" p3, [.Compare (.Subscript (.Name "run" p4) (.Constant (.int 0) k p5) p6) [op] [.Name "cut" p7] p8], 0⟩] cutScope p9) p10) env) Q E ⟨h, g, dr, t, os⟩ := by
  subst hL
  refine wpAny_Assign_ListComp_free (runTest h fun i => tst i cut) (fun v y => y = v) hsw hclos (by decide) rfl (by decide) rfl hy (by rw [hk]; rfl) ?_
  refine n_local ns mr ?_ hk hr rfl
  refine wpAny_pyIter_list hl ?_
  have hlt : l < h.objs.size := by obtain ⟨o, q, _⟩ := hl; exact Heap.lt_size q
  have hne : l ≠ h.objs.size := Nat.ne_of_lt hlt
  generalize hH : h.push { cls := .type "list_iterator", data := .fields #[.ref l, .int 0 0] } = H
  have k1 : Kp [] h H := hH ▸ Kp.push _ _
  have hI : H.IsListIter h.objs.size l 0 := hH ▸ ⟨_, Heap.get?_push_size _ rfl, rfl, rfl⟩
  have hl1 : H.IsList l vs.toArray := hl.at fun o e => k1 _ o nomem e
  have ns1 : H.Ns env.locals m := ns.keeps k1.all
  have hLlt : env.locals < h.objs.size := by obtain ⟨o, _, _, q, _⟩ := ns; exact Heap.lt_size q
  have hclt : c < h.objs.size := hc.lt
  refine ⟨h.objs.size, [h.objs.size, l], [h.objs.size], vs.toArray.size, _, _, m, rfl, Walks.list hh _ _ hne vs.toArray, ?_, ⟨hI, hl1⟩, ?_, ?_, ns1, ⟨?_, ?_⟩, ?_⟩
  · rw [sizeLine_eq]; simp; omega
  · intro b hb
    have hs : H.objs.size = h.objs.size + 1 := hH ▸ Heap.size_push _ _
    rcases List.mem_cons.mp hb with rfl | hb
    · show h.objs.size < H.objs.size; omega
    · rw [List.mem_singleton.mp hb]; show l < H.objs.size; exact Nat.lt_of_lt_of_le hlt (by omega)
  · exact notin1 (Nat.ne_of_lt hLlt)
  · rintro C i v ⟨h3, g3, dr3, t3, os3⟩ m₃ E' hC hP n3 m3 k3 _
    dsimp only at n3 k3
    have k13 : Kp [h.objs.size] h h3 := fun b o hb e => k3 b o hb (k1 b o nomem e)
    obtain ⟨a, t1, t2, i', s', rfl, _, ea⟩ := hR.get (i := i) (v := v) (by simpa using hP)
    have ea3 := k13 _ _ (notin1 (Nat.ne_of_lt (ltOf ea))) ea
    have hc3 : h3.IsCell c (some (.int cut tc)) := IsCell.kp hc k13 (notin1 (Nat.ne_of_lt hclt))
    have hkc : (compEnvC cutScope [(("cut" : Str), c)] C env).kindOf "cut" = some .cell := by
      show (relabel cutScope env).names.lookup _ = _
      simp only [relabel, List.map, hk, hcu]
      rfl
    refine wpAny_tests_one (wpAny_isTrue_Compare1 (Subscript_ (n_local n3 m3 (n_int fun _ _ => n_fst ea3 (n_cell hc3 rfl (hop _ _ _ _ ?_) rfl hkc)) rfl ?_ rfl)) hm)
    · refine wpAny_truthy_bool ⟨(runTest_eq (q := fun i => tst i cut) ea).symm, ?_⟩
      exact (Kp.refl [] h3).keeps
    · exact lookup_relabel_local rfl
  · rintro C i v ⟨h3, g3, dr3, t3, os3⟩ m₃ E' hC hP _ n3 m3 k3 _
    dsimp only at n3 k3
    refine n_local n3 m3 ⟨rfl, (Kp.refl [] h3).keeps⟩ rfl ?_ rfl
    exact lookup_relabel_local rfl
  · intro D h' tk ys vs' hD hl' hpl hlen hP hpair ns' k'
    have e1 : vs' = vs := by
      refine List.ext_getElem? fun j => ?_
      by_cases hj : j < vs'.length
      · have := hP j vs'[j] (by simp [hj])
        rw [List.getElem?_eq_getElem hj]
        simpa using this.symm
      · rw [List.getElem?_eq_none (by omega), List.getElem?_eq_none (by simp at hlen; omega)]
    subst e1
    have e2 := paired_eq hpair
    have hDn : h.get? D = none := by
      cases q : h.get? D with
      | none => rfl
      | some o => rw [k1 _ _ nomem q] at hD; cases hD
    refine hq h' tk D hDn ?_ ns' ?_
    · rw [← e2]; exact hpl
    · intro b o hb e
      exact k' b o (fun q => hb (List.mem_singleton.mpr q)) (notin1 (Nat.ne_of_lt (ltOf e))) (k1 b o nomem e)
end Mine
namespace Mine
/-- the tree from above; none where the halvings given don't suffice -/
noncomputable def halvedO : Nat → List (Int × Str) → Int → Int → Nat → Option Str
  | 0, _, _, _, _ => none
  | f + 1, rs, low, size, lv =>
    match rs with
    | [r] => some r.2
    | _ =>
      let cut := low + size.fdiv 2
      let left := rs.filter fun r => decide (r.1 < cut)
      let right := rs.filter fun r => decide (r.1 ≥ cut)
      if left = [] then halvedO f right cut (size.fdiv 2) (lv + 1)
      else if right = [] then halvedO f left low (size.fdiv 2) (lv + 1)
      else match halvedO f left low (size.fdiv 2) (lv + 1), halvedO f right cut (size.fdiv 2) (lv + 1) with
        | some a, some b => some (nodeT a lv b)
        | _, _ => none
theorem halvedO_one {f : Nat} {r : Int × Str} {low size : Int} {lv : Nat} : halvedO (f + 1) [r] low size lv = some r.2 := rfl
theorem halvedO_many {f : Nat} {rs : List (Int × Str)} {low size : Int} {lv : Nat} (hr : rs.length ≠ 1) : halvedO (f + 1) rs low size lv =
    if rs.filter (fun r => decide (r.1 < low + size.fdiv 2)) = [] then halvedO f (rs.filter fun r => decide (r.1 ≥ low + size.fdiv 2)) (low + size.fdiv 2) (size.fdiv 2) (lv + 1)
      else if rs.filter (fun r => decide (r.1 ≥ low + size.fdiv 2)) = [] then halvedO f (rs.filter fun r => decide (r.1 < low + size.fdiv 2)) low (size.fdiv 2) (lv + 1)
      else match halvedO f (rs.filter fun r => decide (r.1 < low + size.fdiv 2)) low (size.fdiv 2) (lv + 1), halvedO f (rs.filter fun r => decide (r.1 ≥ low + size.fdiv 2)) (low + size.fdiv 2) (size.fdiv 2) (lv + 1) with
        | some a, some b => some (nodeT a lv b)
        | _, _ => none := by
  match rs, hr with
  | [], _ => rfl
  | [r], h => exact absurd rfl h
  | r :: q :: l, _ => rfl
theorem filter_split {α : Type} (p q : α → Bool) (hpq : ∀ a, q a = !p a) : ∀ l : List α, (l.filter p).length + (l.filter q).length = l.length
  | [] => rfl
  | a :: l => by
    have ih := filter_split p q hpq l
    have := hpq a
    cases hp : p a <;> simp [hp] at this <;> simp [hp, this] <;> omega
theorem halvedO_len : ∀ (f : Nat) (rs : List (Int × Str)) (low size : Int) (lv : Nat) (s : Str), halvedO f rs low size lv = some s → (∀ r ∈ rs, r.2.length ≤ 900) → lv + f ≤ 90 → s.length + 100 ≤ 1000 * rs.length
  | 0, _, _, _, _, _, e, _, _ => by cases e
  | f + 1, rs, low, size, lv, s, e, h, hl => by
    by_cases h1 : rs.length = 1
    · match rs, h1 with
      | [r], _ =>
        cases e
        have := h r (.head _)
        simp only [List.length_cons, List.length_nil]; omega
    · rw [halvedO_many h1] at e
      have hs := filter_split (fun r : Int × Str => decide (r.1 < low + size.fdiv 2)) (fun r => decide (r.1 ≥ low + size.fdiv 2)) (fun a => by rw [← decide_not, decide_eq_decide]; omega) rs
      generalize hL : rs.filter (fun r => decide (r.1 < low + size.fdiv 2)) = left at e hs
      generalize hR : rs.filter (fun r => decide (r.1 ≥ low + size.fdiv 2)) = right at e hs
      have hl1 : ∀ r ∈ left, r.2.length ≤ 900 := fun r hr => h r (List.mem_filter.mp (hL ▸ hr)).1
      have hr1 : ∀ r ∈ right, r.2.length ≤ 900 := fun r hr => h r (List.mem_filter.mp (hR ▸ hr)).1
      split at e
      · have := halvedO_len f _ _ _ _ _ e hr1 (by omega); omega
      · split at e
        · have := halvedO_len f _ _ _ _ _ e hl1 (by omega); omega
        · split at e
          · rename_i a b ea eb
            cases e
            have h2 := halvedO_len f _ _ _ _ _ ea hl1 (by omega)
            have h3 := halvedO_len f _ _ _ _ _ eb hr1 (by omega)
            have := nodeT_len a lv b
            omega
          · cases e
theorem eq_nil_list {w : World} {A : Around} {n : Nat} {h : Heap} {g : Array GenState} {dr : Drawn} {t : Nat} {os : OsState} {pos : Pos} {env : Env} {E : Value → Shared → Prop} {Q : Bool → Shared → Prop} {l : Addr} {vs : List Value} (ok : Ok n A) (hl : h.IsList l vs.toArray)
    (hq : ∀ h', Kp [] h h' → Q (decide (vs = [])) ⟨h', g, dr, t, os⟩) :
    wpAny (model PySem.Challenge.rw_rl0011_01.row.prog w) A (eval (.List [] pos) env) (fun b s₂ => wpAny (model PySem.Challenge.rw_rl0011_01.row.prog w) A (compareOp .Eq (.ref l) b) (fun c s₃ => wpAny (model PySem.Challenge.rw_rl0011_01.row.prog w) A (truthy c) Q E s₃) E s₂) E ⟨h, g, dr, t, os⟩ := by
  refine wpAny_List (wpAny_items_nil ⟨by size_fits, ?_⟩)
  have hu : A.units < cLine := by have := ok.un; unfold cLine; omega
  have k1 := Kp.push h { cls := .type "list", data := .seq ([] : List Value).toArray }
  have hl1 := hl.at fun o e => k1 _ o nomem e
  have hb : (h.push { cls := .type "list", data := .seq ([] : List Value).toArray }).IsList h.objs.size #[] := ⟨_, Heap.get?_push_size _ rfl, rfl, _, rfl⟩
  cases vs with
  | nil =>
    refine SeqAt.eq_listAt (e := fun _ => true) hl1 hb rfl hu (fun j h1 h2 => by simp at h2) ?_
    exact wpAny_truthy_bool (hq _ k1)
  | cons v r =>
    refine SeqAt.eq_list_lengthsAt hl1 hb (by simp) hu ?_
    exact wpAny_truthy_bool (hq _ k1)
/-- what _law_halved does with f halvings at most -/
def HalvedC (w : World) (f : Nat) : Prop := ∀ {A : Around} {h : Heap} {g : Array GenState} {dr : Drawn} {t : Nat} {os : OsState} {l : Addr} {vs : List Value} {rs : List (Int × Str)} {low size : Int} {lv : Nat} {s : Str} {t1 t2 t3 : Tok} {Q E : Value → Shared → Prop},
    Ok (f + 2) A → HX (hd.heap_39 w.params) h → h.IsList l vs.toArray → Runs h vs rs → rs.length ≤ 20 → (∀ r ∈ rs, r.2.length ≤ 900) → lv + f ≤ 90 → halvedO f rs low size lv = some s →
    (∀ h' t' tk, Kp [] h h' → Q (.str s tk) ⟨h', g, dr, t', os⟩) →
    wpAny (model PySem.Challenge.rw_rl0011_01.row.prog w) A (call (.ref 138) [.ref l, .int low t1, .int size t2, .int (lv : Int) t3]) Q E ⟨h, g, dr, t, os⟩
theorem own_halved (P : Params) : nsFind (nsEs P 3) "_law_halved" = some (.ref 138) := by kernel_rfl
theorem keep_halved (P : Params) : keepIn (hd.heap_39 P) (.ref 138) = true := by kernel_rfl
set_option maxRecDepth 100000 in
set_option maxHeartbeats 0 in
theorem halved_step : ∀ {w : World} {f : Nat} {A : Around} {h : Heap} {g : Array GenState} {dr : Drawn} {t : Nat} {os : OsState} {l : Addr} {vs : List Value} {rs : List (Int × Str)} {low size : Int} {lv : Nat} {s : Str} {t1 t2 t3 : Tok} {Q E : Value → Shared → Prop},
    HalvedC w f → Ok (f + 1 + 2) A → HX (hd.heap_39 w.params) h → h.IsList l vs.toArray → Runs h vs rs → rs.length ≤ 20 → (∀ r ∈ rs, r.2.length ≤ 900) → lv + (f + 1) ≤ 90 → halvedO (f + 1) rs low size lv = some s →
    (∀ h' t' tk, Kp [] h h' → Q (.str s tk) ⟨h', g, dr, t', os⟩) →
    wpAny (model PySem.Challenge.rw_rl0011_01.row.prog w) A (call (.ref 138) [.ref l, .int low t1, .int size t2, .int (lv : Int) t3]) Q E ⟨h, g, dr, t, os⟩ := by
  k_fill
  intro w f A h g dr t os l vs rs low size lv s t1 t2 t3 Q E IH ok X hl hR hlen hsz hlv hs hq
  refine' call_defC [("runs", .ref l), ("low", .int low t1), ("size", .int size t2), ("level", .int (lv : Int) t3)] ok X ?ho ?hb ?hcd ?hbi ?hce ?hlo ?hco ?hge ?hk ?_
  case ho => k_is
  case hb => exact rfl
  case hcd => k_is
  case hbi => exact rfl
  case hce => exact rfl
  case hlo => exact locs rfl
  case hco => exact rfl
  case hge => exact rfl
  case hk => exact rfl
  intro h₀ t₀ ns₀ cells₀ k₀
  obtain ⟨hcL, c₀⟩ := cells₀ "cut" (h.objs.size + 1) rfl
  clear cells₀
  have X₀ := in_keep X k₀ .nil
  have hl₀ : h₀.IsList l vs.toArray := hl.at fun o e => k₀ _ o nomem e
  have hR₀ := hR.kp k₀ (fun _ q => nomatch q)
  have hvl := hR.length
  have hh : ∀ env, (A.deeper env).handled = none := fun env => (ok.deeper env).hh
  refine wpAny_execs_cons (wpAny_If (wpAny_isTrue_Compare1 (wpAny_Call_NameR (name_len X₀ (n_bi (n_arg (n_local ns₀ rfl (wpAny_items_nil (n_lenl hl₀ (by simp; omega) fun _ _ => n_int fun _ _ => n_eq (wpAny_truthy_bool ?_))))))))))
  by_cases h1 : rs.length = 1
  · rw [if_pos (by rw [List.size_toArray, hvl, h1]; rfl)]
    match rs, h1, hR₀, hs with
    | [r], _, .cons (a := a) ea .nil, hs =>
      cases hs
      refine wpAny_execs_cons (wpAny_Return_some (Subscript_ (Subscript_ (n_local ns₀ rfl (n_int fun _ _ => ?_)))))
      refine n_item (k := 0) (x := .ref a) hl₀ rfl (by omega) (n_int fun _ _ => n_snd ea ?_)
      exact hq _ _ _ k₀
  rw [if_neg (by rw [List.size_toArray, hvl]; simp; omega)]
  rw [halvedO_many h1] at hs
  refine wpAny_execs_nil ?_
  refine wpAny_execs_cons (wpAny_Assign_Name (wpAny_BinOp (n_local ns₀ rfl (wpAny_BinOp (n_local ns₀ rfl (n_int fun _ _ => n_fdiv (by decide) (by decide) fun _ _ => n_add fun tc _ => n_cellset c₀ rfl fun h₁ t₁ c₁ k₁ => ?_))))))
  generalize hC : low + size.fdiv 2 = cut at c₁ hs
  have NKc : NK (h.objs.size + 1) := NK.of_none X (new_of (Nat.le_succ _))
  have NTc : NT h₀ (h.objs.size + 1) := by
    intro vs e
    obtain ⟨o, q, d⟩ := c₀
    rw [e] at q; cases q; cases d
  have ⟨_, hlq, _⟩ := hl
  have hll := ltOf hlq
  have X₁ := in_keep X₀ k₁ NKc.one
  have ns₁ : h₁.Ns h.objs.size _ := ns₀.at' fun o e => k₁ _ o (notin1 (by omega)) e
  have hl₁ : h₁.IsList l vs.toArray := hl₀.at fun o e => k₁ _ o (notin1 (by omega)) e
  have hR₁ := hR₀.kp k₁ NTc.one
  have K₁ : Kp [] h h₁ := fun b o _ e => k₁ b o (notin1 (by have := ltOf e; omega)) (k₀ b o nomem e)
  refine wpAny_execs_cons (pick_comp (L := h.objs.size) (c := h.objs.size + 1) (l := l) (cut := cut) (tc := tc) (vs := vs) (rs := rs) (fun a b => decide (a < b)) (fun a b u v z => n_lt z) (hh _) rfl rfl rfl rfl rfl rfl rfl rfl ns₁ rfl hl₁ c₁ hR₁ (by omega) fun h₂ t₂ D₁ f₁ pl₁ ns₂ k₂ => ?_)
  have X₂ := in_keep X₁ k₂ (NK.size X).one
  have hl₂ : h₂.IsList l vs.toArray := hl₁.at fun o e => k₂ _ o (notin1 (by omega)) e
  have hRl₂ := (hR₁.filter (q := fun i => decide (i < cut))).kp k₂ (NT.ns ns₁).one
  have hR₂ := hR₁.kp k₂ (NT.ns ns₁).one
  have c₂ := IsCell.kp c₁ k₂ (notin1 (by omega))
  have K₂ : Kp [] h h₂ := fun b o _ e => k₂ b o (notin1 (by have := ltOf e; omega)) (K₁ b o nomem e)
  generalize hVL : (vs.filter (runTest h₁ fun i => decide (i < cut))) = vl at pl₁ hRl₂
  refine wpAny_execs_cons (pick_comp (L := h.objs.size) (c := h.objs.size + 1) (l := l) (cut := cut) (tc := tc) (vs := vs) (rs := rs) (fun a b => decide (a ≥ b)) (fun a b u v z => n_ge z) (hh _) rfl rfl rfl rfl rfl rfl rfl rfl ns₂ rfl hl₂ c₂ hR₂ (by omega) fun h₃ t₃ D₂ f₂ pl₂ ns₃ k₃ => ?_)
  have X₃ := in_keep X₂ k₃ (NK.size X).one
  have hRr₃ := (hR₂.filter (q := fun i => decide (i ≥ cut))).kp k₃ (NT.ns ns₂).one
  have hRl₃ := hRl₂.kp k₃ (NT.ns ns₂).one
  have c₃ := IsCell.kp c₂ k₃ (notin1 (by omega))
  have K₃ : Kp [] h h₃ := fun b o _ e => k₃ b o (notin1 (by have := ltOf e; omega)) (K₂ b o nomem e)
  generalize hVR : (vs.filter (runTest h₂ fun i => decide (i ≥ cut))) = vr at pl₂ hRr₃
  have D1L : D₁ ≠ h.objs.size := fun e => by obtain ⟨o, _, _, q, _⟩ := ns₁; rw [e] at f₁; rw [f₁] at q; cases q
  have lD₁ : h₃.IsList D₁ vl.toArray := (pl₁.isList).at fun o e => k₃ _ o (notin1 D1L) e
  have lD₂ : h₃.IsList D₂ vr.toArray := pl₂.isList
  have hfl : (rs.filter fun r => decide (r.1 < cut)).length ≤ 20 := Nat.le_trans (List.length_filter_le _ _) hlen
  have hfr : (rs.filter fun r => decide (r.1 ≥ cut)).length ≤ 20 := Nat.le_trans (List.length_filter_le _ _) hlen
  have hsl : ∀ r ∈ (rs.filter fun r => decide (r.1 < cut)), r.2.length ≤ 900 := fun r hr => hsz r (List.mem_filter.mp hr).1
  have hsr : ∀ r ∈ (rs.filter fun r => decide (r.1 ≥ cut)), r.2.length ≤ 900 := fun r hr => hsz r (List.mem_filter.mp hr).1
  have hlL := hRl₃.length
  have hlR := hRr₃.length
  have eL : decide (vl = []) = decide ((rs.filter fun r => decide (r.1 < cut)) = []) := by
    rw [decide_eq_decide, ← List.length_eq_zero_iff, ← List.length_eq_zero_iff, hlL]
  have eR : decide (vr = []) = decide ((rs.filter fun r => decide (r.1 ≥ cut)) = []) := by
    rw [decide_eq_decide, ← List.length_eq_zero_iff, ← List.length_eq_zero_iff, hlR]
  generalize (rs.filter fun r => decide (r.1 < cut)) = left at hs hRl₃ hfl hsl hlL eL
  generalize (rs.filter fun r => decide (r.1 ≥ cut)) = right at hs hRr₃ hfr hsr hlR eR
  clear pl₁ pl₂ hRl₂ hR₂ hR₁ hR₀ hl₂ hl₁ hl₀ c₂ c₁ c₀ ns₀ ns₁ ns₂ X₁ X₂ X₀ hVL hVR
  refine wpAny_execs_cons (wpAny_If (wpAny_isTrue_Compare1 (n_local ns₃ rfl (eq_nil_list (ok.deeper _) lD₁ fun h₄ k₄ => ?_))))
  rw [eL]
  have X₄ := in_keep X₃ k₄ .nil
  have ns₄ := ns₃.keeps k₄.all
  have c₄ := IsCell.kp c₃ k₄ nomem
  have hRl₄ := hRl₃.kp k₄ (fun _ q => nomatch q)
  have hRr₄ := hRr₃.kp k₄ (fun _ q => nomatch q)
  have lD₁₄ : h₄.IsList D₁ vl.toArray := lD₁.at fun o e => k₄ _ o nomem e
  have lD₂₄ : h₄.IsList D₂ vr.toArray := lD₂.at fun o e => k₄ _ o nomem e
  have K₄ := K₃.trans k₄
  by_cases hL : left = []
  · rw [if_pos (by simpa using hL)]
    rw [if_pos hL] at hs
    refine wpAny_execs_cons (wpAny_Return_some (wpAny_Call_NameR (name_own X₄ (own_halved _) (n_fn (keep_halved _) X₄ (n_arg (n_local ns₄ rfl (n_arg (n_cell c₄ rfl (n_arg (wpAny_BinOp (n_local ns₄ rfl (n_int fun _ _ => n_fdiv (by decide) (by decide) fun _ _ => n_arg (wpAny_BinOp (n_local ns₄ rfl (n_int fun _ _ => n_add fun _ _ => wpAny_items_nil ⟨X₄, ?_⟩)))))))))))))))
    exact IH (lv := lv + 1) (ok.deeper _) X₄ lD₂₄ hRr₄ hfr hsr (by omega) hs fun h₅ t₅ tk k₅ => hq h₅ _ tk (K₄.trans k₅)
  rw [if_neg (by simpa using hL)]
  rw [if_neg hL] at hs
  refine wpAny_execs_nil ?_
  refine wpAny_execs_cons (wpAny_If (wpAny_isTrue_Compare1 (n_local ns₄ rfl (eq_nil_list (ok.deeper _) lD₂₄ fun h₅ k₅ => ?_))))
  rw [eR]
  have X₅ := in_keep X₄ k₅ .nil
  have ns₅ : h₅.Ns h.objs.size _ := ns₄.keeps k₅.all
  have c₅ := IsCell.kp c₄ k₅ nomem
  have hRl₅ := hRl₄.kp k₅ (fun _ q => nomatch q)
  have hRr₅ := hRr₄.kp k₅ (fun _ q => nomatch q)
  have lD₁₅ : h₅.IsList D₁ vl.toArray := lD₁₄.at fun o e => k₅ _ o nomem e
  have lD₂₅ : h₅.IsList D₂ vr.toArray := lD₂₄.at fun o e => k₅ _ o nomem e
  have K₅ := K₄.trans k₅
  clear X₄ ns₄ c₄ hRl₄ hRr₄ lD₁₄ lD₂₄ K₄ k₅ k₄ X₃ ns₃ c₃ hRl₃ hRr₃ lD₁ lD₂ K₃ K₂ K₁
  by_cases hR' : right = []
  · rw [if_pos (by simpa using hR')]
    rw [if_pos hR'] at hs
    refine wpAny_execs_cons (wpAny_Return_some (wpAny_Call_NameR (name_own X₅ (own_halved _) (n_fn (keep_halved _) X₅ (n_arg (n_local ns₅ rfl (n_arg (n_local ns₅ rfl (n_arg (wpAny_BinOp (n_local ns₅ rfl (n_int fun _ _ => n_fdiv (by decide) (by decide) fun _ _ => n_arg (wpAny_BinOp (n_local ns₅ rfl (n_int fun _ _ => n_add fun _ _ => wpAny_items_nil ⟨X₅, ?_⟩)))))))))))))))
    exact IH (lv := lv + 1) (ok.deeper _) X₅ lD₁₅ hRl₅ hfl hsl (by omega) hs fun h₆ t₆ tk k₆ => hq h₆ _ tk (K₅.trans k₆)
  rw [if_neg (by simpa using hR')]
  rw [if_neg hR'] at hs
  refine wpAny_execs_nil ?_
  obtain ⟨sa, sb, ea, eb, es⟩ : ∃ sa sb, halvedO f left low (size.fdiv 2) (lv + 1) = some sa ∧ halvedO f right cut (size.fdiv 2) (lv + 1) = some sb ∧ s = nodeT sa lv sb := by
    cases ea : halvedO f left low (size.fdiv 2) (lv + 1) with
    | none => rw [ea] at hs; cases hs
    | some sa =>
      cases eb : halvedO f right cut (size.fdiv 2) (lv + 1) with
      | none => rw [ea, eb] at hs; cases hs
      | some sb => rw [ea, eb] at hs; cases hs; exact ⟨_, _, rfl, rfl, rfl⟩
  refine wpAny_execs_cons (wpAny_Assign_Name (wpAny_Call_NameR (name_own X₅ (own_halved _) (n_fn (keep_halved _) X₅ (n_arg (n_local ns₅ rfl (n_arg (n_local ns₅ rfl (n_arg (wpAny_BinOp (n_local ns₅ rfl (n_int fun _ _ => n_fdiv (by decide) (by decide) fun _ _ => n_arg (wpAny_BinOp (n_local ns₅ rfl (n_int fun _ _ => n_add fun _ _ => wpAny_items_nil ⟨X₅, ?_⟩)))))))))))))))
  refine IH (lv := lv + 1) (ok.deeper _) X₅ lD₁₅ hRl₅ hfl hsl (by omega) ea fun h₆ t₆ tk₆ k₆ => ?_
  refine n_store (ns₅.keeps k₆.all) fun h₇ t₇ ns₇ k₇ => ?_
  have X₇ := in_keep (in_keep X₅ k₆ .nil) k₇ (NK.size X).one
  have c₇ := IsCell.kp (IsCell.kp c₅ k₆ nomem) k₇ (notin1 (by omega))
  have hRr₇ := (hRr₅.kp k₆ (fun _ q => nomatch q)).kp k₇ (NT.ns (ns₅.keeps k₆.all)).one
  have D2L : D₂ ≠ h.objs.size := fun e => by
    subst e
    obtain ⟨o, q, e1, n1, e2⟩ := lD₂₅
    obtain ⟨o', q', e1', n1', e2', _⟩ := ns₅
    rw [n1'] at q; cases q; rw [e2'] at e2; cases e2
  have lD₂₇ : h₇.IsList D₂ vr.toArray := lD₂₅.at fun o e => k₇ _ o (notin1 D2L) (k₆ _ o nomem e)
  have K₇ : Kp [] h h₇ := fun b o _ e => k₇ b o (notin1 (by have := ltOf e; omega)) (k₆ b o nomem (K₅ b o nomem e))
  clear X₅ c₅ hRl₅ hRr₅ lD₁₅ lD₂₅ K₅
  refine wpAny_execs_cons (wpAny_Assign_Name (wpAny_Call_NameR (name_own X₇ (own_halved _) (n_fn (keep_halved _) X₇ (n_arg (n_local ns₇ rfl (n_arg (n_cell c₇ rfl (n_arg (wpAny_BinOp (n_local ns₇ rfl (n_int fun _ _ => n_fdiv (by decide) (by decide) fun _ _ => n_arg (wpAny_BinOp (n_local ns₇ rfl (n_int fun _ _ => n_add fun _ _ => wpAny_items_nil ⟨X₇, ?_⟩)))))))))))))))
  refine IH (lv := lv + 1) (ok.deeper _) X₇ lD₂₇ hRr₇ hfr hsr (by omega) eb fun h₈ t₈ tk₈ k₈ => ?_
  refine n_store (ns₇.keeps k₈.all) fun h₉ t₉ ns₉ k₉ => ?_
  have X₉ := in_keep (in_keep X₇ k₈ .nil) k₉ (NK.size X).one
  have K₉ : Kp [] h h₉ := fun b o _ e => k₉ b o (notin1 (by have := ltOf e; omega)) (k₈ b o nomem (K₇ b o nomem e))
  have la := halvedO_len _ _ _ _ _ _ ea hsl (by omega)
  have lb := halvedO_len _ _ _ _ _ _ eb hsr (by omega)
  have hnl := numT_len lv
  have p1 : (Str.ofString "(").length = 1 := by decide +kernel
  have p2 : (Str.ofString ")").length = 1 := by decide +kernel
  refine wpAny_execs_cons (wpAny_Return_some (wpAny_BinOp (wpAny_BinOp (wpAny_BinOp (wpAny_BinOp (n_str fun _ _ => n_local ns₉ rfl (n_adds (by omega) fun _ _ => ?_)))))))
  refine wpAny_Call_NameR (name_str X₉ (n_type (n_arg (n_local ns₉ rfl (wpAny_items_nil (n_strn (by omega) fun _ _ => ?_))))))
  refine n_adds (by simp only [Str.length_append]; omega) fun _ _ => n_local ns₉ rfl (n_adds (by simp only [Str.length_append]; omega) fun _ _ => n_str fun _ _ => n_adds (by simp only [Str.length_append]; omega) fun tz tq => ?_)
  have := hq h₉ tq tz K₉
  rw [es] at this
  exact this
theorem halved_c (w : World) : ∀ f, HalvedC w f
  | 0 => by
    intro ok X hl hR h1 h2 h3 hs hq
    cases hs
  | f + 1 => by
    intro ok X hl hR h1 h2 h3 hs hq
    exact halved_step (halved_c w f) ok X hl hR h1 h2 h3 hs hq
end Mine
namespace Mine
section
variable {w : World} {A : Around} {h : Heap} {g : Array GenState} {dr : Drawn} {t : Nat} {os : OsState} {env : Env} {pos : Pos} {Q E : Value → Shared → Prop}
theorem n_mul {a b : Int} {u v : Tok} (hs : -1000000000 ≤ a ∧ a ≤ 1000000000) (hq : ∀ tk t', Q (.int (a * b) tk) ⟨h, g, dr, t', os⟩) : wpAny (model PySem.Challenge.rw_rl0011_01.row.prog w) A (binaryOp .Mult (.int a u) (.int b v)) Q E ⟨h, g, dr, t, os⟩ := PyProof.Rows.mul_int (hq _ _)
theorem n_iadd {a b : Int} {u v : Tok} (hq : ∀ tk t', Q (.int (a + b) tk) ⟨h, g, dr, t', os⟩) : wpAny (model PySem.Challenge.rw_rl0011_01.row.prog w) A (inplaceOp .Add (.int a u) (.int b v)) Q E ⟨h, g, dr, t, os⟩ := PyProof.Rows.iadd_int (hq _ _)
theorem n_iand {a b : Int} {u v : Tok} (hq : ∀ tk t', Q (.int (Builtin.bitAnd a b) tk) ⟨h, g, dr, t', os⟩) : wpAny (model PySem.Challenge.rw_rl0011_01.row.prog w) A (inplaceOp .BitAnd (.int a u) (.int b v)) Q E ⟨h, g, dr, t, os⟩ := PyProof.Rows.iand_int (hq _ _)
theorem n_xor {a b : Int} {u v : Tok} (hq : ∀ tk t', Q (.int (Builtin.bitXor a b) tk) ⟨h, g, dr, t', os⟩) : wpAny (model PySem.Challenge.rw_rl0011_01.row.prog w) A (binaryOp .BitXor (.int a u) (.int b v)) Q E ⟨h, g, dr, t, os⟩ := PyProof.Rows.xor_int (hq _ _)
theorem n_mod {a b : Int} {u v : Tok} (hb : b ≠ 0) (hq : ∀ tk t', Q (.int (a.fmod b) tk) ⟨h, g, dr, t', os⟩) : wpAny (model PySem.Challenge.rw_rl0011_01.row.prog w) A (binaryOp .Mod (.int a u) (.int b v)) Q E ⟨h, g, dr, t, os⟩ := by
  refine AutoIntOps.mod_1 (by simpa using hb) ?_
  exact hq _ _
theorem n_slice {value slice : Expr} {l : Addr} {items : Array Value} {vl vu : Value} {lo hi : Option Int} (hl : h.IsList l items) (pl : IsPart vl lo) (pu : IsPart vu hi) (hsz : items.size ≤ 1000000)
    (hq : ∀ h' D, Kp [] h h' → h.get? D = none → h'.PlainList D (slicePick items lo hi none) → Q (.ref D) ⟨h', g, dr, t, os⟩)
    (hs : subscripted slice false (.ref l) (.ref h.objs.size) = operate [.ref h.objs.size, .ref l] (getItem (.ref l) (.ref h.objs.size)) := by with_unfolding_all rfl)
    (ht : ∀ r, letTemporaryGo value (.ref l) r = pure () := by intro _; with_unfolding_all rfl) :
    wpAny (model PySem.Challenge.rw_rl0011_01.row.prog w) A (subscriptTail value slice (.ref l) (.ref h.objs.size)) Q E ⟨h.push { cls := .type "slice", data := .fields #[vl, vu, .none] }, g, dr, t, os⟩ := by
  have hl' : (h.push { cls := .type "slice", data := .fields #[vl, vu, .none] }).IsList l items := hl.push _
  refine subscriptTail_ops (Heap.IsList.typeIs (s := ⟨h.push { cls := .type "slice", data := .fields #[vl, vu, .none] }, g, dr, t, os⟩) hl') list_getitem_lookup (wpAny_getItem_list_slice hl' (Heap.IsSliceOf.new ..) pl pu .none (by simp) ?_ (by rw [sizeLine_eq]; omega)) hs ht
  refine hq _ _ ((Kp.push _ _).trans (Kp.push _ _)) (new_of ?_) ⟨0, Heap.get?_push_size _ rfl⟩
  show h.objs.size ≤ (h.push _).objs.size
  rw [Heap.size_push]; omega
theorem n_addl {l b : Addr} {vs ws : List Value} (hl : h.IsList l vs.toArray) (hb : h.IsList b ws.toArray) (hsz : vs.length + ws.length ≤ 1000000)
    (hq : ∀ h' D, Kp [] h h' → h.get? D = none → h'.PlainList D (vs ++ ws).toArray → Q (.ref D) ⟨h', g, dr, t, os⟩) :
    wpAny (model PySem.Challenge.rw_rl0011_01.row.prog w) A (binaryOp .Add (.ref l) (.ref b)) Q E ⟨h, g, dr, t, os⟩ := by
  obtain ⟨⟨cls, dd, data, sl⟩, ho, hc, n, hd⟩ := id hl
  obtain ⟨⟨cls2, dd2, data2, sl2⟩, ho2, hc2, n2, hd2⟩ := id hb
  simp only at hc hd hc2 hd2
  subst hc hd hc2 hd2
  have e : vs.toArray ++ ws.toArray = (vs ++ ws).toArray := by simp
  refine concat_meets ⟨_, ho, rfl⟩ ⟨_, ho2, rfl⟩ noFill_list_add seq_list_add PySem.F.slot_list_add PySem.F.entry_list_add (PySem.F.args_list_add_2 _ _) (list_addW l b vs.toArray ws.toArray n n2 dd dd2 sl sl2 (by rw [sizeLine_eq]; simp; omega)) ⟨ho, ho2, ?_⟩
  rw [e]
  exact hq _ _ (Kp.push _ _) (new_of (Nat.le_refl _)) ⟨0, Heap.get?_push_size _ rfl⟩
theorem IntsAre.get {vs : List Value} {ns : List Int} (x : IntsAre vs ns) : ∀ {i : Nat} {v : Value}, vs[i]? = some v → ∃ k, v = .int (ns.getD i 0) k ∧ ns[i]? = some (ns.getD i 0) := by
  induction x with
  | nil => intro i v e; simp at e
  | cons n t r ih =>
    intro i v e
    cases i with
    | zero => simp at e; subst e; exact ⟨t, by simp, by simp⟩
    | succ i =>
      obtain ⟨k, e1, e2⟩ := ih (i := i) (v := v) (by simpa using e)
      exact ⟨k, by simpa using e1, by simpa using e2⟩
theorem n_sum {n : Nat} {l : Addr} {vs : List Value} {ns : List Int} (ok : Ok n A) (hl : h.IsList l vs.toArray) (hi : IntsAre vs ns) (hq : ∀ h' t' tk, Kp [] h h' → Q (.int ns.sum tk) ⟨h', g, dr, t', os⟩) :
    wpAny (model PySem.Challenge.rw_rl0011_01.row.prog w) A (call (.builtin "sum") [.ref l]) Q E ⟨h, g, dr, t, os⟩ := by
  refine call_sum_walkG (wpAny_pyIter_list hl ?_)
  have hlt : l < h.objs.size := by obtain ⟨o, q, _⟩ := hl; exact Heap.lt_size q
  have hh : A.in1.handled = none := ok.hh
  refine ⟨h.objs.size, [h.objs.size, l], [h.objs.size], vs.toArray.size, _, _, fun i => ns.getD i 0, rfl, Walks.list hh _ _ (Nat.ne_of_lt hlt) vs.toArray, ⟨⟨_, Heap.get?_push_size _ rfl, rfl, rfl⟩, hl.push _⟩, ?_, ?_, ?_⟩
  · intro b hb
    show b < (h.push _).objs.size
    rw [Heap.size_push]
    rcases List.mem_cons.mp hb with rfl | hb
    · exact Nat.lt_succ_self _
    · rw [List.mem_singleton.mp hb]; exact Nat.lt_succ_of_lt hlt
  · intro i v e
    obtain ⟨k, e1, _⟩ := IntsAre.get hi (i := i) (v := v) (by simpa using e)
    exact ⟨k, e1⟩
  · intro h' tk t' k
    have : preSum (fun i => ns.getD i 0) vs.toArray.size = ns.sum := by
      rw [PyProof.Rows.preSum_getD, List.size_toArray, hi.length, List.take_length]
    rw [this]
    refine hq _ _ _ ?_
    intro b o _ e
    exact k b o (notin1 (Nat.ne_of_lt (ltOf e))) (Heap.get?_push_of_some _ e)
end
/-- what two int lists by a comprehension have to do with each other -/
theorem ints_of_paired {f : Int → Int} {vs ys : List Value} {ns : List Int} (hi : IntsAre vs ns) (hp : Paired (fun v y => ∀ n k, v = .int n k → ∃ u, y = .int (f n) u) vs ys) : IntsAre ys (ns.map f) := by
  induction hi generalizing ys with
  | nil => cases hp; exact .nil
  | cons n t r ih =>
    cases hp with
    | cons e q =>
      obtain ⟨u, rfl⟩ := e n t rfl
      exact .cons _ _ (ih q)
/-- a comprehension over a list of ints, without a test -/
theorem comp_ints {w : World} {A : Around} {h : Heap} {g : Array GenState} {dr : Drawn} {t : Nat} {os : OsState} {env : Env} {E : Value → Shared → Prop} {Q : Flow → Shared → Prop} {x y : Str} {px py pos spos : Pos} {elt iter : Expr} {scope : Scope} {cl : List (Str × Addr)} (L : Addr) (f : Int → Int)
    (hh : A.handled = none)
    (hsw : swapsWith (.ListComp elt [⟨.Name x px, iter, [], 0⟩] scope pos) (some (.Name y py)) spos.line env = pure true)
    (hclos : closureFor scope env = pure cl) (hcell : ∀ z ∈ scope.names, z.2 ≠ .cell) (hkind : scope.kind = .function) (hnames : ∀ z ∈ scope.names, z.2 = .local → scope.names.lookup z.1 = some .local) (hx : scope.names.lookup x = some .local)
    (hk : env.scope.kind = .function) (hy : env.kindOf y = some .local) (hL : env.locals = L) (hs : ∀ x, foldedSetIterable iter env x = pure x)
    (hq : wpAny (model PySem.Challenge.rw_rl0011_01.row.prog w) A (eval iter env) (fun xv s₁ => ∃ h₁ t₁ l vs ns m, xv = .ref l ∧ s₁ = (⟨h₁, g, dr, t₁, os⟩ : Shared) ∧ h₁.IsList l vs.toArray ∧ IntsAre vs ns ∧ ns.length ≤ 1000 ∧ h₁.Ns L m ∧
      (∀ C n k h₃ m₃ g₃ dr₃ t₃ os₃ (E' : Value → Shared → Prop), n ∈ ns → h₃.Ns C m₃ → m₃ x = some (.int n k) → Kp [h₁.objs.size] h₁ h₃ → (compEnvC scope cl C env).kindOf x = some .local →
        wpAny (model PySem.Challenge.rw_rl0011_01.row.prog w) A (eval elt (compEnvC scope cl C env)) (fun y s₄ => (∃ u, y = .int (f n) u) ∧ Keeps (⟨h₃, g₃, dr₃, t₃, os₃⟩ : Shared) s₄) E' ⟨h₃, g₃, dr₃, t₃, os₃⟩) ∧
      (∀ h' t' D ws, h₁.get? D = none → h'.PlainList D ws.toArray → IntsAre ws (ns.map f) → h'.Ns L (fun z => if z = y then some (.ref D) else m z) → Kp [L] h₁ h' → Q .next ⟨h', g, dr, t', os⟩)) E ⟨h, g, dr, t, os⟩) :
    wpAny (model PySem.Challenge.rw_rl0011_01.row.prog w) A (exec (.Assign [.Name y py] (.ListComp elt [⟨.Name x px, iter, [], 0⟩] scope pos) spos) env) Q E ⟨h, g, dr, t, os⟩ := by
  subst hL
  refine wpAny_Assign_ListComp_free (fun _ => true) (fun v y => ∀ n k, v = .int n k → ∃ u, y = .int (f n) u) hsw hclos hcell hkind hnames hx hy (by rw [hk]; rfl) ?_ hs
  refine wpAny_mono hq (fun xv s₁ z => ?_) fun _ _ z => z
  obtain ⟨h₁, t₁, l, vs, ns, m, rfl, rfl, hl, hi, hsz, ns₁, helt, hQ⟩ := z
  refine wpAny_pyIter_list hl ?_
  have hlt : l < h₁.objs.size := by obtain ⟨o, q, _⟩ := hl; exact Heap.lt_size q
  have hLlt : env.locals < h₁.objs.size := by obtain ⟨o, _, _, q, _⟩ := ns₁; exact Heap.lt_size q
  generalize hH : h₁.push { cls := .type "list_iterator", data := .fields #[.ref l, .int 0 0] } = H
  have k1 : Kp [] h₁ H := hH ▸ Kp.push _ _
  have hI : H.IsListIter h₁.objs.size l 0 := hH ▸ ⟨_, Heap.get?_push_size _ rfl, rfl, rfl⟩
  have hS : H.objs.size = h₁.objs.size + 1 := hH ▸ Heap.size_push _ _
  refine ⟨h₁.objs.size, [h₁.objs.size, l], [h₁.objs.size], vs.toArray.size, _, _, m, rfl, Walks.list hh _ _ (Nat.ne_of_lt hlt) vs.toArray, ?_, ⟨hI, hl.at fun o e => k1 _ o nomem e⟩, ?_, notin1 (Nat.ne_of_lt hLlt), ns₁.keeps k1.all, ⟨?_, ?_⟩, ?_⟩
  · rw [sizeLine_eq]; have := hi.length; simp; omega
  · intro b hb
    rcases List.mem_cons.mp hb with rfl | hb
    · show h₁.objs.size < H.objs.size; omega
    · rw [List.mem_singleton.mp hb]; show l < H.objs.size; exact Nat.lt_of_lt_of_le hlt (by omega)
  · intro C i v s₃ m₃ E' _ _ _ _ _ _
    rw [List.forIn_nil]
    exact wpAny_pure ⟨rfl, s₃.heap, s₃.toks, rfl, fun _ _ e => e⟩
  · rintro C i v ⟨h3, g3, dr3, t3, os3⟩ m₃ E' hC hP _ n3 m3 k3 _
    dsimp only at n3 k3
    obtain ⟨k, rfl, e2⟩ := IntsAre.get hi (i := i) (v := v) (by simpa using hP)
    have k13 : Kp [h₁.objs.size] h₁ h3 := fun b o hb e => k3 b o hb (k1 b o nomem e)
    refine wpAny_mono (helt C _ k h3 m₃ g3 dr3 t3 os3 E' (List.mem_of_getElem? e2) n3 m3 k13 (lookup_relabel_local hx)) (fun y s₄ z => ⟨?_, z.2⟩) fun _ _ z => z
    intro n k' e
    cases e
    exact z.1
  · intro D h' tk ys vs' hD hl' hpl hlen hP hpair ns' k'
    have e1 : vs' = vs := by
      refine List.ext_getElem? fun j => ?_
      by_cases hj : j < vs'.length
      · have := hP j vs'[j] (by simp [hj])
        rw [List.getElem?_eq_getElem hj]
        simpa using this.symm
      · rw [List.getElem?_eq_none (by omega), List.getElem?_eq_none (by simp at hlen; omega)]
    subst e1
    have hDn : h₁.get? D = none := by
      cases q : h₁.get? D with
      | none => rfl
      | some o => rw [k1 _ _ nomem q] at hD; cases hD
    rw [List.filter_eq_self.mpr (fun _ _ => rfl)] at hpair
    refine hQ h' tk D ys.toList hDn (by simpa using hpl) (ints_of_paired hi hpair) ns' ?_
    intro b o hb e
    exact k' b o (fun q => hb (List.mem_singleton.mpr q)) (notin1 (Nat.ne_of_lt (ltOf e))) (k1 b o nomem e)
end Mine
namespace Mine
set_option maxRecDepth 100000 in
set_option maxHeartbeats 0 in
theorem high_c : ∀ {w : World} {A : Around} {n : Nat} {h : Heap} {g : Array GenState} {dr : Drawn} {t : Nat} {os : OsState} {v : Int} {tv : Tok} {Q E : Value → Shared → Prop},
    Ok (n + 1) A → HX (hd.heap_39 w.params) h → (∀ h' t' tk, Kp [] h h' → Q (.int ((Builtin.Int.intBits v : Int) - 1) tk) ⟨h', g, dr, t', os⟩) →
    wpAny (model PySem.Challenge.rw_rl0011_01.row.prog w) A (call (.ref 35) [.int v tv]) Q E ⟨h, g, dr, t, os⟩ := by
  k_fill
  intro w A n h g dr t os v tv Q E ok X hq
  refine' call_def [("value", .int v tv)] ok X ?ho ?hb ?hcd ?hbi ?hce ?hlo ?hco ?hge ?hk ?_
  case ho => k_is
  case hb => exact rfl
  case hcd => k_is
  case hbi => exact BindsTo.of_eq rfl
  case hce => decide
  case hlo => exact locs rfl
  case hco => exact rfl
  case hge => exact rfl
  case hk => exact rfl
  intro h₀ hn hk
  refine wpAny_execs_cons (wpAny_Return_some (wpAny_BinOp (MethodCall_ (n_local hn rfl (getMethod_int_bit_length (callWith_method0 (call_int_bit_length (n_int fun _ _ => n_sub fun _ _ => ?_))))))))
  exact hq _ _ _ hk
set_option maxRecDepth 100000 in
set_option maxHeartbeats 0 in
theorem single_c : ∀ {w : World} {A : Around} {n : Nat} {h : Heap} {g : Array GenState} {dr : Drawn} {t : Nat} {os : OsState} {v : Int} {tv : Tok} {Q E : Value → Shared → Prop},
    Ok (n + 1) A → HX (hd.heap_39 w.params) h → v ≠ 0 → (∀ h' t', Kp [] h h' → Q (.bool (Builtin.bitAnd v (v - 1) == 0)) ⟨h', g, dr, t', os⟩) →
    wpAny (model PySem.Challenge.rw_rl0011_01.row.prog w) A (call (.ref 28) [.int v tv]) Q E ⟨h, g, dr, t, os⟩ := by
  k_fill
  intro w A n h g dr t os v tv Q E ok X h0 hq
  refine' call_def [("num", .int v tv)] ok X ?ho ?hb ?hcd ?hbi ?hce ?hlo ?hco ?hge ?hk ?_
  case ho => k_is
  case hb => exact rfl
  case hcd => k_is
  case hbi => exact BindsTo.of_eq rfl
  case hce => decide
  case hlo => exact locs rfl
  case hco => exact rfl
  case hge => exact rfl
  case hk => exact rfl
  intro h₀ hn hk
  refine wpAny_execs_cons (wpAny_If (wpAny_isTrue_Compare1 (n_local hn rfl (n_int fun _ _ => n_eq (wpAny_truthy_bool ?_)))))
  rw [if_neg (by simpa using h0)]
  refine wpAny_execs_nil ?_
  refine wpAny_execs_cons (wpAny_AugAssign_Name (wpAny_loadName_local rfl rfl hn rfl (wpAny_BinOp (n_local hn rfl (n_int fun _ _ => n_sub fun _ _ => n_iand fun _ _ => n_store hn fun h₁ _ n1 k1 => ?_)))))
  refine wpAny_execs_cons (wpAny_Return_some (wpAny_Compare1 (n_local n1 rfl (n_int fun _ _ => n_eq ?_))))
  refine hq _ _ ?_
  intro b o _ e
  exact k1 b o (notin1 (Nat.ne_of_lt (ltOf e))) (hk b o nomem e)
noncomputable def mids (st : Int) : List Int → List Int
  | [] => []
  | l :: r => (2 * st + l) :: mids (st + l) r
theorem mids_append (l : List Int) : ∀ st x, mids st (l ++ [x]) = mids st l ++ [2 * (st + l.sum) + x] := by
  induction l with
  | nil => intro st x; simp [mids]
  | cons a r ih => intro st x; simp only [List.cons_append, mids, ih, List.sum_cons]; congr 4; omega
theorem mids_length : ∀ (l : List Int) (st : Int), (mids st l).length = l.length
  | [], _ => rfl
  | _ :: r, _ => by simp [mids, mids_length r]
set_option maxRecDepth 100000 in
set_option maxHeartbeats 0 in
theorem middles_c : ∀ {w : World} {A : Around} {n : Nat} {h : Heap} {g : Array GenState} {dr : Drawn} {t : Nat} {os : OsState} {l : Addr} {vs : List Value} {ns : List Int} {Q E : Value → Shared → Prop},
    Ok (n + 2) A → HX (hd.heap_39 w.params) h → h.IsList l vs.toArray → IntsAre vs ns → ns.length ≤ 100 →
    (∀ h' t' D ws, Kp [] h h' → h.get? D = none → h'.PlainList D ws.toArray → IntsAre ws (mids 0 ns) → Q (.ref D) ⟨h', g, dr, t', os⟩) →
    wpAny (model PySem.Challenge.rw_rl0011_01.row.prog w) A (call (.ref 126) [.ref l]) Q E ⟨h, g, dr, t, os⟩ := by
  k_fill
  intro w A n h g dr t os l vs ns Q E ok X hl hi hlen hq
  refine' call_def [("lengths", .ref l)] ok X ?ho ?hb ?hcd ?hbi ?hce ?hlo ?hco ?hge ?hk ?_
  case ho => k_is
  case hb => exact rfl
  case hcd => k_is
  case hbi => exact BindsTo.of_eq rfl
  case hce => decide
  case hlo => exact locs rfl
  case hco => exact rfl
  case hge => exact rfl
  case hk => exact rfl
  intro h₀ hn hk
  have X₀ := in_keep X hk .nil
  have ⟨_, hlq, _⟩ := hl
  have hll := ltOf hlq
  have hvl := hi.length
  refine wpAny_execs_cons (wpAny_Assign_Name (wpAny_List (wpAny_items_nil ⟨by size_fits, ?_⟩)))
  have k1 := Kp.push h₀ { cls := .type "list", data := .seq ([] : List Value).toArray }
  have hDL : h.objs.size < h₀.objs.size := by obtain ⟨_, _, _, q, _⟩ := hn; exact ltOf q
  have pl1 : (h₀.push { cls := .type "list", data := .seq ([] : List Value).toArray }).PlainList h₀.objs.size #[] := ⟨0, Heap.get?_push_size _ rfl⟩
  refine n_store (hn.keeps k1.all) fun h₁ _ ns₁ k2 => ?_
  change h₁.Ns h.objs.size _ at ns₁
  change Kp [h.objs.size] _ h₁ at k2
  refine wpAny_execs_cons (wpAny_Assign_Name (n_int fun _ _ => n_store ns₁ fun h₂ _ ns₂ k3 => ?_))
  change Kp [h.objs.size] _ h₂ at k3
  have k23 := k2.trans k3
  generalize hD : h₀.objs.size = D at *
  have X₂ := in_keep (in_keep X₀ k1 .nil) k23 (NK.size X).one
  have pl2 : h₂.PlainList D #[] := pl1.at fun o e => k23 _ o (notin1 (by omega)) e
  have hl₂ : h₂.IsList l vs.toArray := hl.at fun o e => k23 _ o (notin1 (by omega)) (k1 _ o nomem (hk _ o nomem e))
  have K₂ : Kp [] h h₂ := fun b o _ e => k23 b o (notin1 (by have := ltOf e; omega)) (k1 _ o nomem (hk b o nomem e))
  have fD : h.get? D = none := new_of (by omega)
  refine wpAny_execs_cons (wpAny_For (n_local ns₂ rfl (wpAny_pyIter_list hl₂ ?_)))
  generalize hH : h₂.push { cls := .type "list_iterator", data := .fields #[.ref l, .int 0 0] } = H
  have k4 : Kp [] h₂ H := hH ▸ Kp.push _ _
  have hI : H.IsListIter h₂.objs.size l 0 := hH ▸ ⟨_, Heap.get?_push_size _ rfl, rfl, rfl⟩
  have hl₄ : H.IsList l vs.toArray := hl₂.at fun o e => k4 _ o nomem e
  have hI2 : D < h₂.objs.size ∧ l < h₂.objs.size ∧ h.objs.size < h₂.objs.size := by
    obtain ⟨_, q⟩ := pl2
    obtain ⟨_, q1, _⟩ := hl₂
    obtain ⟨_, _, _, q2, _⟩ := ns₂
    exact ⟨ltOf q, ltOf q1, ltOf q2⟩
  have NKI : NK h₂.objs.size := NK.of_none X (new_of (Nat.le_of_lt hI2.2.2))
  generalize h₂.objs.size = I at *
  have n1 : D ≠ I := Nat.ne_of_lt hI2.1
  have n2 : l ≠ I := Nat.ne_of_lt hI2.2.1
  have n3 : h.objs.size ≠ I := Nat.ne_of_lt hI2.2.2
  have n4 : D ≠ h.objs.size := neN (by omega)
  have n5 : l ≠ h.objs.size := neN (by omega)
  have n6 : l ≠ D := neN (by omega)
  have NKD : NK D := NK.of_none X fD
  refine forWalk (Walks.list (ok.deeper _).hh I l n2 vs.toArray) rfl rfl (show h.objs.size ∉ [I, l] from by simpa using ⟨n3, fun e => n5 e.symm⟩) (fun i m hh => HX (hd.heap_39 w.params) hh ∧ Kp [] h hh ∧ m "middles" = some (.ref D) ∧ (∃ u, m "start" = some (.int (ns.take i).sum u)) ∧ ∃ ws, hh.PlainList D ws.toArray ∧ IntsAre ws (mids 0 (ns.take i))) ?_ ?_ ⟨hI, hl₄⟩ (ns₂.keeps k4.all) ?_ ?_
  · rintro i m ha hb k ⟨x1, x2, x3, x4, ws, x5, x6⟩
    change Kp [h.objs.size, I] ha hb at k
    refine ⟨in_keep x1 k ?_, fun b o _ e => k b o ?_ (x2 b o nomem e), x3, x4, ws, x5.at fun o e => k _ o ?_ e, x6⟩
    · intro a q
      rcases List.mem_cons.mp q with rfl | q
      · exact NK.size X
      · rw [List.mem_singleton.mp q]; exact NKI
    · intro q
      have := ltOf e
      rcases List.mem_cons.mp q with q | q
      · have : b ≠ h.objs.size := neN (by omega)
        exact this q
      · have : b ≠ I := neN (by omega)
        exact this (List.mem_singleton.mp q)
    · intro q
      rcases List.mem_cons.mp q with q | q
      · exact n4 q
      · exact n1 (List.mem_singleton.mp q)
  · exact ⟨in_keep X₂ k4 .nil, K₂.trans k4, rfl, ⟨_, rfl⟩, [], pl2.at fun o e => k4 _ o nomem e, .nil⟩
  · rintro i v m hh tt hi' hP ⟨x1, x2, x3, ⟨u, x4⟩, ws, x5, x6⟩ nsT st
    obtain ⟨k, rfl, e2⟩ := IntsAre.get hi (i := i) (v := v) (by simpa using hP)
    have hws := x6.length
    rw [mids_length, List.length_take] at hws
    obtain ⟨nn, eq5⟩ := x5
    refine wpAny_execs_cons (wpAny_Expr (MethodCall_ (n_local nsT x3 (Calls.getMethod_list_append eq5 rfl rfl (n_bi (n_arg (wpAny_BinOp (wpAny_BinOp (n_int fun _ _ => n_local nsT x4 (n_mul (by decide) fun _ _ => n_local nsT rfl (n_add fun tA _ => wpAny_items_nil ?_)))))))))))
    refine wpAny_list_append_plain ⟨nn, eq5⟩ (fun h5 pl5 s5 => ?_) (by rw [sizeLine_eq]; simp; omega)
    have k5 := Kp.same s5
    have ns5 := nsT.at' fun o e => k5 _ o (notin1 (Ne.symm n4)) e
    refine wpAny_execs_cons (wpAny_AugAssign_Name (wpAny_loadName_local rfl rfl ns5 x4 (n_local ns5 rfl (n_iadd fun tB _ => n_store ns5 fun h6 _ ns6 k6 => ?_))))
    change Kp [h.objs.size] h5 h6 at k6
    have ht : ns.take (i + 1) = ns.take i ++ [ns.getD i 0] := by rw [List.take_add_one, e2]; rfl
    have k56 : Kp [h.objs.size, D] hh h6 := fun b o hb e => k6 b o (fun q => hb (List.mem_cons.mpr (.inl (List.mem_singleton.mp q)))) (k5 b o (fun q => hb (List.mem_cons_of_mem _ q)) e)
    refine wpAny_execs_nil (.inl ⟨rfl, h6, _, _, [h.objs.size, D], rfl, ns6, ⟨?_, ?_, x3, ⟨tB, ?_⟩, ws ++ [.int (2 * (ns.take i).sum + ns.getD i 0) tA], ?_, ?_⟩, k56, ?_⟩)
    · refine in_keep x1 k56 fun a q => ?_
      rcases List.mem_cons.mp q with rfl | q
      · exact NK.size X
      · rw [List.mem_singleton.mp q]; exact NKD
    · intro b o _ e
      refine k56 b o (fun q => ?_) (x2 b o nomem e)
      have := ltOf e
      rcases List.mem_cons.mp q with q | q
      · have : b ≠ h.objs.size := neN (by omega)
        exact this q
      · have : b ≠ D := neN (by omega)
        exact this (List.mem_singleton.mp q)
    · rw [ht, List.sum_append]; simp
    · have := pl5.at fun o e => k6 _ o (notin1 n4) e
      simpa using this
    · rw [ht, mids_append, Int.zero_add]
      exact IntsAre.append x6 (.cons _ _ .nil)
    · intro b hb q
      rcases List.mem_cons.mp hb with rfl | hb
      · rcases List.mem_cons.mp q with q | q
        · exact n3 q.symm
        · exact n1 (List.mem_singleton.mp q).symm
      · rw [List.mem_singleton.mp hb] at q
        rcases List.mem_cons.mp q with q | q
        · exact n5 q
        · exact n6 (List.mem_singleton.mp q)
  · rintro m hh tt ⟨x1, x2, x3, ⟨u, x4⟩, ws, x5, x6⟩ ns'
    refine wpAny_execs_cons (wpAny_Return_some (n_local ns' x3 ?_))
    rw [List.size_toArray, hvl, List.take_length] at x6
    exact hq hh _ D ws x2 fD x5 x6
end Mine
namespace Mine
/-- the turns of a comprehension whose elements may be new objects -/
theorem compLoopJ {w : World} {A : Around} {h : Heap} {g : Array GenState} {dr : Drawn} {t : Nat} {os : OsState} {R : Result → Shared → Prop} {cenv : Env} {x : Str} {px pos : Pos} {elt iter : Expr} {scope : Scope} {I C D L : Addr} {fp wr : List Addr} {n : Nat} {P : Nat → Value → Prop} {St : Nat → Heap → Prop} {m mL : Str → Option Value} {H₂ : Heap}
    (W : Walks PySem.Challenge.rw_rl0011_01.row.prog w A I fp wr n P St) (hn1 : n ≤ 1000) (J : Nat → List Value → Heap → Prop)
    (hC : cenv.locals = C) (hx : cenv.kindOf x = some .local) (hp : (cenv.scope.kind == .class || (cenv.scope.kind == .module && cenv.locals != cenv.globals)) = false)
    (hDC : D ≠ C) (hDf : D ∉ fp) (hCf : C ∉ fp) (hLC : L ≠ C) (hLD : L ≠ D) (hLw : L ∉ wr) (hnew : ∀ b o, H₂.get? b = some o → b ≠ C ∧ b ≠ D)
    (stab : ∀ i ys h h' mc ml zs k, h.Ns C mc → h.Ns L ml → h.PlainList D zs → St k h → Kp (L :: C :: D :: wr) h h' → J i ys h → J i ys h')
    (turn : ∀ i v ys h₃ m₃ t₃ E', i < n → P i v → h₃.Ns C m₃ → m₃ x = some v → Kp wr H₂ h₃ → J i ys h₃ → wpAny (model PySem.Challenge.rw_rl0011_01.row.prog w) A (eval elt cenv) (fun y s₄ => ∃ h₄ t₄, s₄ = (⟨h₄, g, dr, t₄, os⟩ : Shared) ∧ Kp [] h₃ h₄ ∧ J (i + 1) (ys ++ [y]) h₄) E' ⟨h₃, g, dr, t₃, os⟩)
    (hst : St 0 h) (hacc : h.PlainList D #[]) (hn : h.Ns C m) (hnL : h.Ns L mL) (hk : Kp wr H₂ h) (hJ : J 0 [] h)
    (hR : ∀ h' t' (ys : List Value) mc k, h'.Ns C mc → h'.Ns L mL → h'.PlainList D ys.toArray → St k h → Kp wr H₂ h' → J n ys h' → (∀ h'', Kp [L, C] h' h'' → J n ys h'') → R (.ok .next) ⟨h', g, dr, t', os⟩) :
    codeAny (model PySem.Challenge.rw_rl0011_01.row.prog w) A (.compLoop (.ListComp elt [⟨.Name x px, iter, [], 0⟩] scope pos) 0 (.ref I) (.ref D) cenv) R ⟨h, g, dr, t, os⟩ := by
  subst hC
  have hCw : cenv.locals ∉ wr := fun q => hCf (W.sub _ q)
  have hDw : D ∉ wr := fun q => hDf (W.sub _ q)
  refine codeAny_compLoop_tests (fun k s => ∃ h' t' mc i, ∃ ys : List Value, s = (⟨h', g, dr, t', os⟩ : Shared) ∧ i ≤ n ∧ k = n - i ∧ ys.length = i ∧ St i h' ∧ h'.PlainList D ys.toArray ∧ h'.Ns cenv.locals mc ∧ h'.Ns L mL ∧ Kp wr H₂ h' ∧ J i ys h') ?_ n
    ⟨h, t, m, 0, [], rfl, Nat.zero_le _, rfl, rfl, hst, hacc, hn, hnL, hk, hJ⟩
  rintro k s ⟨h, t, mc, i, ys, rfl, hi, rfl, hyl, hst', hacc, hn, hnL, hk, hJ⟩
  by_cases hlt : i < n
  · refine W.item i _ _ _ hlt hst' fun v h₁ tk hP hst₁ hk₁ => ?_
    have k1 : Kp wr h h₁ := fun b o hb e => hk₁ b o hb e
    refine wpAny_assign_Name (wpAny_storeName_local hx (hn.at' fun o e => k1 _ o hCw e) (fun h₂ n2 s2 => ?_) hp)
    have k2 := Kp.same s2
    have k12 : Kp (cenv.locals :: wr) h h₂ := fun b o hb e => k2 b o (fun q => hb (List.mem_cons.mpr (.inl (List.mem_singleton.mp q)))) (k1 b o (fun q => hb (List.mem_cons_of_mem _ q)) e)
    have st2 : St (i + 1) h₂ := W.frame _ _ _ hst₁ fun b hb o e => k2 b o (fun q => hCf (by rw [← List.mem_singleton.mp q]; exact hb)) e
    have kH : Kp wr H₂ h₂ := fun b o hb e => k12 b o (fun q => by
      rcases List.mem_cons.mp q with q | q
      · exact (hnew b o e).1 q
      · exact hb q) (hk b o hb e)
    have J2 : J i ys h₂ := stab i ys h h₂ mc mL _ i hn hnL hacc hst' (k12.mono fun p q => by
      rcases List.mem_cons.mp q with rfl | q
      · exact .tail _ (.head _)
      · exact .tail _ (.tail _ (.tail _ q))) hJ
    rw [List.forIn_nil]
    refine wpAny_pure ?_
    rw [if_pos rfl]
    refine wpAny_mono (turn i v ys h₂ _ _ _ hlt hP n2 (by simp) kH J2) (fun y s₄ z => ?_) fun _ _ z => z
    obtain ⟨h₄, t₄, rfl, k4, J4⟩ := z
    have pl4 : h₄.PlainList D ys.toArray := hacc.at fun o e => k4 _ o nomem (k12 _ o (fun q => by
      rcases List.mem_cons.mp q with q | q
      · exact hDC q
      · exact hDw q) e)
    have st4 : St (i + 1) h₄ := W.frame _ _ _ st2 fun b _ o e => k4 b o nomem e
    have nL4 : h₄.Ns L mL := hnL.at' fun o e => k4 _ o nomem (k12 _ o (fun q => by
      rcases List.mem_cons.mp q with q | q
      · exact hLC q
      · exact hLw q) e)
    have n4 := n2.keeps k4.all
    refine wpAny_list_append_plain pl4 (fun h₅ pl5 s5 => ?_) (by rw [sizeLine_eq]; simp; omega)
    have k5 := Kp.same s5
    refine ⟨n - (i + 1), by omega, h₅, _, _, i + 1, ys ++ [y], rfl, hlt, rfl, by simp [hyl], W.frame _ _ _ st4 fun b hb o e => k5 b o (fun q => hDf (by rw [← List.mem_singleton.mp q]; exact hb)) e, by simpa using pl5, n4.at' fun o e => k5 _ o (notin1 (Ne.symm hDC)) e, nL4.at' fun o e => k5 _ o (notin1 hLD) e, ?_, ?_⟩
    · intro b o hb e
      exact k5 b o (notin1 (hnew b o e).2) (k4 b o nomem (kH b o hb e))
    · exact stab _ _ _ _ _ _ _ _ n4 nL4 pl4 st4 (k5.mono fun p q => by rw [List.mem_singleton.mp q]; exact .tail _ (.tail _ (.head _))) J4
  · have : i = n := by omega
    subst this
    refine W.done _ _ _ hst' fun h' tk hk' => ?_
    have k1 : Kp wr h h' := fun b o hb e => hk' b o hb e
    have n1 := hn.at' fun o e => k1 _ o hCw e
    have nL1 := hnL.at' fun o e => k1 _ o hLw e
    have pl1 := hacc.at fun o e => k1 _ o hDw e
    have J1 : J i ys h' := stab _ _ _ _ _ _ _ _ hn hnL hacc hst' (k1.mono fun p q => .tail _ (.tail _ (.tail _ q))) hJ
    refine hR h' tk ys mc 0 n1 nL1 pl1 hst (hk.trans k1) J1 fun h'' k'' => ?_
    refine stab _ _ h h'' _ _ _ _ hn hnL hacc hst' ?_ hJ
    intro b o hb e
    refine k'' b o (fun q => hb ?_) (k1 b o (fun q => hb (.tail _ (.tail _ (.tail _ q)))) e)
    rcases List.mem_cons.mp q with rfl | q
    · exact .head _
    · rw [List.mem_singleton.mp q]; exact .tail _ (.head _)
/-- the assignment of such a comprehension -/
theorem comp_walk {w : World} {A : Around} {h : Heap} {g : Array GenState} {dr : Drawn} {t : Nat} {os : OsState} {env : Env} {E : Value → Shared → Prop} {Q : Flow → Shared → Prop} {x y : Str} {px py pos spos : Pos} {elt iter : Expr} {scope : Scope} {cl : List (Str × Addr)} (L : Addr)
    (hsw : swapsWith (.ListComp elt [⟨.Name x px, iter, [], 0⟩] scope pos) (some (.Name y py)) spos.line env = pure true)
    (hclos : closureFor scope env = pure cl) (hcell : ∀ z ∈ scope.names, z.2 ≠ .cell) (hkind : scope.kind = .function) (hnames : ∀ z ∈ scope.names, z.2 = .local → scope.names.lookup z.1 = some .local) (hx : scope.names.lookup x = some .local)
    (hk : env.scope.kind = .function) (hy : env.kindOf y = some .local) (hL : env.locals = L) (hs : ∀ x, foldedSetIterable iter env x = pure x)
    (hq : wpAny (model PySem.Challenge.rw_rl0011_01.row.prog w) A (eval iter env) (fun xv s₁ => wpAny (model PySem.Challenge.rw_rl0011_01.row.prog w) A (pyIter xv) (fun it s₂ => ∃ H t₂ I fp wr n P St m, ∃ J : Nat → List Value → Heap → Prop, it = .ref I ∧ s₂ = (⟨H, g, dr, t₂, os⟩ : Shared) ∧ Walks PySem.Challenge.rw_rl0011_01.row.prog w A I fp wr n P St ∧ n ≤ 1000 ∧ St 0 H ∧ (∀ b ∈ fp, b < H.objs.size) ∧ L ∉ wr ∧ H.Ns L m ∧
      (∀ i ys h h' mc ml zs k, h.Ns (H.objs.size + 1) mc → h.Ns L ml → h.PlainList H.objs.size zs → St k h → Kp (L :: (H.objs.size + 1) :: H.objs.size :: wr) h h' → J i ys h → J i ys h') ∧
      (∀ h', Kp [] H h' → J 0 [] h') ∧
      (∀ i v ys h₃ m₃ t₃ E', i < n → P i v → h₃.Ns (H.objs.size + 1) m₃ → m₃ x = some v → Kp wr H h₃ → J i ys h₃ → wpAny (model PySem.Challenge.rw_rl0011_01.row.prog w) A (eval elt (compEnvC scope cl (H.objs.size + 1) env)) (fun y s₄ => ∃ h₄ t₄, s₄ = (⟨h₄, g, dr, t₄, os⟩ : Shared) ∧ Kp [] h₃ h₄ ∧ J (i + 1) (ys ++ [y]) h₄) E' ⟨h₃, g, dr, t₃, os⟩) ∧
      (∀ h' t' (ys : List Value), h'.PlainList H.objs.size ys.toArray → h'.Ns L (fun z => if z = y then some (.ref H.objs.size) else m z) → Kp (L :: wr) H h' → J n ys h' → Q .next ⟨h', g, dr, t', os⟩)) E s₁) E ⟨h, g, dr, t, os⟩) :
    wpAny (model PySem.Challenge.rw_rl0011_01.row.prog w) A (exec (.Assign [.Name y py] (.ListComp elt [⟨.Name x px, iter, [], 0⟩] scope pos) spos) env) Q E ⟨h, g, dr, t, os⟩ := by
  subst hL
  rw [exec_Assign_Name_used _ _ _ _ hsw]
  refine wpAny_bind (wpAny_standAt (wpAny_bind ?_))
  show wpAny _ A (do let _ ← comprehension (.ListComp elt [⟨.Name x px, iter, [], 0⟩] scope pos) scope env _ (newList []) false (eval iter env) (some (assign (.Name y py) env))) _ _ _
  refine wpAny_bind (wpAny_mono (wpAny_comprehension_free (use := some (assign (.Name y py) env)) (Q := fun _ s' => Q .next s') rfl hs hclos hkind hnames
    (wpAny_mono hq (fun xv s₁ h₁ => wpAny_mono h₁ (fun it s₂ h₂ => ?_) fun _ _ e => e) fun _ _ e => e)) (fun _ s' hq => wpAny_pure (wpAny_pure hq)) fun _ _ e => e)
  obtain ⟨H, t₂, I, fp, wr, n, P, St, m, J, rfl, rfl, W, hn1, hst, hfp, hLw, hnL, stab, J0, turn, done⟩ := h₂
  refine wpAny_newObj_type (wpAny_newFunctionEnv hcell (by intro y hy; simp at hy) (fun h₁ hns₁ hsb₁ => ?_) hkind)
  dsimp only at hns₁ hsb₁ ⊢
  have hC : (H.push { cls := .type "list", dict := none, data := .seq ([] : List Value).toArray }).objs.size = H.objs.size + 1 := Heap.size_push _ _
  rw [hC] at hns₁ hsb₁ ⊢
  have hLlt : env.locals < H.objs.size := by obtain ⟨o, _, _, q, _⟩ := hnL; exact Heap.lt_size q
  have k1 : Kp [H.objs.size + 1] H h₁ := fun b o hb e => hsb₁.extBut b o (fun q => hb (by simp [q])) (Heap.get?_push_of_some _ (Heap.get?_push_of_some _ e))
  have k1' : Kp [] H h₁ := fun b o _ e => k1 b o (notin1 (by have := ltOf e; omega)) e
  have pl1 : h₁.PlainList H.objs.size #[] := ⟨0, hsb₁.extBut _ _ (Nat.ne_of_lt (Nat.lt_succ_self _)) (Heap.get?_push_of_some _ (Heap.get?_push_size _ rfl))⟩
  have hnew : ∀ b o, H.get? b = some o → b ≠ H.objs.size + 1 ∧ b ≠ H.objs.size := fun b o e => ⟨neN (by have := ltOf e; omega), neN (by have := ltOf e; omega)⟩
  have hDf : H.objs.size ∉ fp := fun q => Nat.lt_irrefl _ (hfp _ q)
  have hCf : H.objs.size + 1 ∉ fp := fun q => Nat.not_succ_lt_self (hfp _ q)
  have hLC : env.locals ≠ H.objs.size + 1 := Nat.ne_of_lt (Nat.lt_succ_of_lt hLlt)
  have hLD : env.locals ≠ H.objs.size := Nat.ne_of_lt hLlt
  have hst₁ : St 0 h₁ := W.frame _ _ _ hst fun b _ o e => k1' b o nomem e
  have loop : ∀ t, codeAny (model PySem.Challenge.rw_rl0011_01.row.prog w) A (.compLoop (.ListComp elt [⟨.Name x px, iter, [], 0⟩] scope pos) 0 (.ref I) (.ref H.objs.size) (compEnvC scope cl (H.objs.size + 1) env))
      (compPost (model PySem.Challenge.rw_rl0011_01.row.prog w) A E (some (assign (.Name y py) env)) (fun _ s' => Q .next s') (.ref H.objs.size) (H.objs.size + 1)) ⟨h₁, g, dr, t, os⟩ := by
    intro t
    refine compLoopJ (C := H.objs.size + 1) (D := H.objs.size) (L := env.locals) (H₂ := H) W hn1 J rfl (lookup_relabel_local hx) (by simp [compEnvC, relabel, hkind]) (Nat.ne_of_lt (Nat.lt_succ_self _)) hDf hCf hLC hLD hLw hnew stab turn hst₁ pl1 hns₁ (hnL.keeps k1'.all) (k1'.nil _) (J0 _ k1') ?_
    intro h' t' ys mc k nC nL pl _ kH Jn Jn'
    show wpAny _ A (assign (.Name y py) env (.ref H.objs.size)) _ _ _
    refine wpAny_assign_Name (wpAny_storeName_local hy nL (fun h₂ n2 s2 => ?_) (by rw [hk]; rfl))
    have k2 := Kp.same s2
    refine ⟨mc, nC.at' fun o e => k2 _ o (notin1 (Ne.symm hLC)) e, fun h₃ s3 => ?_⟩
    have k3 := Kp.same s3
    refine done h₃ _ ys (pl.at fun o e => k3 _ o (notin1 (Nat.ne_of_lt (Nat.lt_succ_self _))) (k2 _ o (notin1 (Ne.symm hLD)) e)) (n2.at' fun o e => k3 _ o (notin1 hLC) e) ?_ (Jn' _ ?_)
    · intro b o hb e
      exact k3 b o (notin1 (hnew b o e).1) (k2 b o (fun q => hb (List.mem_cons.mpr (.inl (List.mem_singleton.mp q)))) (kH b o (fun q => hb (.tail _ q)) e))
    · intro b o hb e
      exact k3 b o (fun q => hb (by rw [List.mem_singleton.mp q]; exact .tail _ (.head _))) (k2 b o (fun q => hb (by rw [List.mem_singleton.mp q]; exact .head _)) e)
  exact codeAny_compStart_list (loop _) (W.self 0 _ _ _ hst₁ (loop _))
end Mine
namespace Mine
noncomputable def fdOf (P : Params) (f : Addr) : FuncData := match (hd.heap_39 P).lookup f with
  | some ⟨_, _, .func fd, _⟩ => fd
  | _ => default
def bodyOf (fd : FuncData) : List Stmt := match fd.body with
  | .stmts b => b
  | _ => []
def forBody : Stmt → List Stmt
  | .For _ _ b _ _ => b
  | .While _ b _ _ => b
  | _ => []
theorem fd_eq {P : Params} {f : Addr} {oc : Value} {od : Option Addr} {osl : Array (Option Value)} {fd : FuncData} (ho : (hd.heap_39 P).lookup f = some ⟨oc, od, .func fd, osl⟩) : fdOf P f = fd := by
  unfold fdOf; rw [ho]
theorem open_body {P : Params} {f : Addr} {oc : Value} {od : Option Addr} {osl : Array (Option Value)} {fd : FuncData} {p : Prop} (ho : (hd.heap_39 P).lookup f = some ⟨oc, od, .func fd, osl⟩) (h : fdOf P f = fd → p) : p := h (fd_eq ho)
theorem pl_cell {h : Heap} {D a : Addr} {x : Array Value} {v : Option Value} (p : h.PlainList D x) (c : h.IsCell a v) : D ∉ [a] := fun q => by
  rw [List.mem_singleton.mp q] at p
  obtain ⟨_, e⟩ := p
  obtain ⟨_, e', d⟩ := c
  rw [e] at e'; cases e'; cases d
theorem pl_ns {h : Heap} {D a : Addr} {x : Array Value} {m : Str → Option Value} (p : h.PlainList D x) (c : h.Ns a m) : D ∉ [a] := fun q => by
  rw [List.mem_singleton.mp q] at p
  obtain ⟨_, e⟩ := p
  obtain ⟨_, _, _, e', d, _⟩ := c
  rw [e] at e'; cases e'; cases d
theorem pl_kp {h h' : Heap} {D : Addr} {x : Array Value} {W : List Addr} (p : h.PlainList D x) (k : Kp W h h') (n : D ∉ W) : h'.PlainList D x := p.at fun o e => k _ o n e
/-- the law's frame -/
structure Frm (P : Params) (h0 h : Heap) (m : Str → Option Value) (cw cm cd cs cl : Option Value) : Prop where
  X0 : HX (hd.heap_39 P) h0
  X : HX (hd.heap_39 P) h
  ns : h.Ns h0.objs.size m
  k : Kp [] h0 h
  c1 : h.IsCell (h0.objs.size + 1) cw
  c2 : h.IsCell (h0.objs.size + 1 + 1) cm
  c3 : h.IsCell (h0.objs.size + 1 + 1 + 1) cd
  c4 : h.IsCell (h0.objs.size + 1 + 1 + 1 + 1) cs
  c5 : h.IsCell (h0.objs.size + 1 + 1 + 1 + 1 + 1) cl
section
variable {P : Params} {h0 h h' : Heap} {m m' : Str → Option Value} {cw cm cd cs cl v : Option Value}
theorem Frm.keepW {W : List Addr} (F : Frm P h0 h m cw cm cd cs cl) (k : Kp W h h') (hW : ∀ a ∈ W, h0.get? a = none ∧ (∀ v, ¬ h.IsCell a v) ∧ ∀ m, ¬ h.Ns a m) : Frm P h0 h' m cw cm cd cs cl :=
  ⟨F.X0, in_keep F.X k fun a q => NK.of_none F.X0 (hW a q).1, F.ns.at' fun o e => k _ o (fun q => (hW _ q).2.2 _ F.ns) e, fun b o _ e => k b o (fun q => by rw [(hW b q).1] at e; cases e) (F.k b o nomem e),
    IsCell.kp F.c1 k fun q => (hW _ q).2.1 _ F.c1, IsCell.kp F.c2 k fun q => (hW _ q).2.1 _ F.c2, IsCell.kp F.c3 k fun q => (hW _ q).2.1 _ F.c3, IsCell.kp F.c4 k fun q => (hW _ q).2.1 _ F.c4, IsCell.kp F.c5 k fun q => (hW _ q).2.1 _ F.c5⟩
theorem Frm.keep (F : Frm P h0 h m cw cm cd cs cl) (k : Kp [] h h') : Frm P h0 h' m cw cm cd cs cl := F.keepW k fun _ q => nomatch q
theorem Frm.old {D : Addr} (F : Frm P h0 h m cw cm cd cs cl) (f : h.get? D = none) : h0.get? D = none := by
  cases q : h0.get? D with
  | none => rfl
  | some o => rw [F.k _ _ nomem q] at f; cases f
theorem Frm.nk (F : Frm P h0 h m cw cm cd cs cl) (i : Nat) : NK (h0.objs.size + i) := NK.of_none F.X0 (new_of (Nat.le_add_right _ _))
theorem Frm.store (F : Frm P h0 h m cw cm cd cs cl) (n' : h'.Ns h0.objs.size m') (k : Kp [h0.objs.size] h h') : Frm P h0 h' m' cw cm cd cs cl :=
  ⟨F.X0, in_keep F.X k (F.nk 0).one, n', fun b o _ e => k b o (notin1 (by have := ltOf e; omega)) (F.k b o nomem e),
    IsCell.kp F.c1 k (notin1 (by omega)), IsCell.kp F.c2 k (notin1 (by omega)), IsCell.kp F.c3 k (notin1 (by omega)), IsCell.kp F.c4 k (notin1 (by omega)), IsCell.kp F.c5 k (notin1 (by omega))⟩
theorem Frm.set1 (F : Frm P h0 h m cw cm cd cs cl) (n' : h'.IsCell (h0.objs.size + 1) v) (k : Kp [h0.objs.size + 1] h h') : Frm P h0 h' m v cm cd cs cl :=
  ⟨F.X0, in_keep F.X k (F.nk 1).one, F.ns.at' fun o e => k _ o (notin1 (by omega)) e, fun b o _ e => k b o (notin1 (by have := ltOf e; omega)) (F.k b o nomem e),
    n', IsCell.kp F.c2 k (notin1 (by omega)), IsCell.kp F.c3 k (notin1 (by omega)), IsCell.kp F.c4 k (notin1 (by omega)), IsCell.kp F.c5 k (notin1 (by omega))⟩
theorem Frm.set2 (F : Frm P h0 h m cw cm cd cs cl) (n' : h'.IsCell (h0.objs.size + 1 + 1) v) (k : Kp [h0.objs.size + 1 + 1] h h') : Frm P h0 h' m cw v cd cs cl :=
  ⟨F.X0, in_keep F.X k (F.nk 2).one, F.ns.at' fun o e => k _ o (notin1 (by omega)) e, fun b o _ e => k b o (notin1 (by have := ltOf e; omega)) (F.k b o nomem e),
    IsCell.kp F.c1 k (notin1 (by omega)), n', IsCell.kp F.c3 k (notin1 (by omega)), IsCell.kp F.c4 k (notin1 (by omega)), IsCell.kp F.c5 k (notin1 (by omega))⟩
theorem Frm.set3 (F : Frm P h0 h m cw cm cd cs cl) (n' : h'.IsCell (h0.objs.size + 1 + 1 + 1) v) (k : Kp [h0.objs.size + 1 + 1 + 1] h h') : Frm P h0 h' m cw cm v cs cl :=
  ⟨F.X0, in_keep F.X k (F.nk 3).one, F.ns.at' fun o e => k _ o (notin1 (by omega)) e, fun b o _ e => k b o (notin1 (by have := ltOf e; omega)) (F.k b o nomem e),
    IsCell.kp F.c1 k (notin1 (by omega)), IsCell.kp F.c2 k (notin1 (by omega)), n', IsCell.kp F.c4 k (notin1 (by omega)), IsCell.kp F.c5 k (notin1 (by omega))⟩
theorem Frm.set4 (F : Frm P h0 h m cw cm cd cs cl) (n' : h'.IsCell (h0.objs.size + 1 + 1 + 1 + 1) v) (k : Kp [h0.objs.size + 1 + 1 + 1 + 1] h h') : Frm P h0 h' m cw cm cd v cl :=
  ⟨F.X0, in_keep F.X k (F.nk 4).one, F.ns.at' fun o e => k _ o (notin1 (by omega)) e, fun b o _ e => k b o (notin1 (by have := ltOf e; omega)) (F.k b o nomem e),
    IsCell.kp F.c1 k (notin1 (by omega)), IsCell.kp F.c2 k (notin1 (by omega)), IsCell.kp F.c3 k (notin1 (by omega)), n', IsCell.kp F.c5 k (notin1 (by omega))⟩
theorem Frm.set5 (F : Frm P h0 h m cw cm cd cs cl) (n' : h'.IsCell (h0.objs.size + 1 + 1 + 1 + 1 + 1) v) (k : Kp [h0.objs.size + 1 + 1 + 1 + 1 + 1] h h') : Frm P h0 h' m cw cm cd cs v :=
  ⟨F.X0, in_keep F.X k (F.nk 5).one, F.ns.at' fun o e => k _ o (notin1 (by omega)) e, fun b o _ e => k b o (notin1 (by have := ltOf e; omega)) (F.k b o nomem e),
    IsCell.kp F.c1 k (notin1 (by omega)), IsCell.kp F.c2 k (notin1 (by omega)), IsCell.kp F.c3 k (notin1 (by omega)), IsCell.kp F.c4 k (notin1 (by omega)), n'⟩
end
end Mine
namespace Mine
def drawnOf (script : List Int) : List Int := (script.take 6).map fun x => 1 + x.fmod 40
def lengthsOf (script : List Int) : List Int := (drawnOf script).take 3 ++ [5, 1, 1, 9, 2] ++ (drawnOf script).drop 3
def depthOf (W : Nat) : Nat := if W &&& (W - 1) = 0 then W.log2 else W.log2 + 1
theorem depth_facts : ∀ W < 300, 0 < W → W ≤ 2 ^ depthOf W ∧ 2 ^ depthOf W < 2 * W ∧ depthOf W ≤ 9 := by decide +kernel
theorem drawn_range {script : List Int} {x : Int} (h : x ∈ drawnOf script) : 1 ≤ x ∧ x ≤ 40 := by
  obtain ⟨y, _, rfl⟩ := List.mem_map.mp h
  have h1 := Int.fmod_nonneg_of_pos y (b := 40) (by decide)
  have h2 := Int.fmod_lt_of_pos y (b := 40) (by decide)
  omega
theorem lengths_range {script : List Int} {x : Int} (h : x ∈ lengthsOf script) : 1 ≤ x ∧ x ≤ 40 := by
  rcases List.mem_append.mp h with h | h
  · rcases List.mem_append.mp h with h | h
    · exact drawn_range (List.mem_of_mem_take h)
    · simp at h; omega
  · exact drawn_range (List.mem_of_mem_drop h)
theorem lengths_length (script : List Int) : 5 ≤ (lengthsOf script).length ∧ (lengthsOf script).length ≤ 11 := by
  unfold lengthsOf drawnOf
  simp
  omega
theorem sum_range : ∀ {l : List Int}, (∀ x ∈ l, 1 ≤ x ∧ x ≤ 40) → (l.length : Int) ≤ l.sum ∧ l.sum ≤ 40 * l.length
  | [], _ => by simp
  | a :: r, h => by
    have := sum_range (l := r) fun x hx => h x (.tail _ hx)
    have := h a (.head _)
    simp only [List.length_cons, List.sum_cons]
    omega
theorem whole_range (script : List Int) : ∃ W : Nat, (lengthsOf script).sum = (W : Int) ∧ 18 ≤ W ∧ W < 300 := by
  have h1 : (lengthsOf script).sum = ((drawnOf script).take 3).sum + 18 + ((drawnOf script).drop 3).sum := by
    unfold lengthsOf
    rw [List.sum_append, List.sum_append]
    rfl
  have h2 := sum_range (l := (drawnOf script).take 3) fun x hx => drawn_range (List.mem_of_mem_take hx)
  have h3 := sum_range (l := (drawnOf script).drop 3) fun x hx => drawn_range (List.mem_of_mem_drop hx)
  have h4 : (drawnOf script).length ≤ 6 := by unfold drawnOf; simp; omega
  rw [List.length_take] at h2
  rw [List.length_drop] at h3
  refine ⟨(lengthsOf script).sum.toNat, ?_, ?_, ?_⟩ <;> omega
theorem mids_small : ∀ {l : List Int} {st : Int}, l.sum ≤ 1000 → (∀ x ∈ l, 1 ≤ x ∧ x ≤ 40) → ∀ x ∈ mids st l, 2 * st ≤ x ∧ x ≤ 2 * st + 2 * l.sum
  | [], _, _, _, x, hx => nomatch hx
  | a :: r, st, hs, h, x, hx => by
    have ha := h a (.head _)
    have hr := sum_range (l := r) fun y hy => h y (.tail _ hy)
    rw [List.sum_cons] at hs ⊢
    rcases List.mem_cons.mp hx with rfl | hx
    · omega
    · have := mids_small (l := r) (st := st + a) (by omega) (fun y hy => h y (.tail _ hy)) x hx
      omega
theorem bits_nat {W : Nat} (h : 0 < W) : ((Builtin.Int.intBits (W : Int) : Int) - 1) = (W.log2 : Int) := by
  unfold Builtin.Int.intBits
  rw [if_neg (by simp; omega)]
  simp
theorem and_nat {W : Nat} (h : 0 < W) : (Builtin.bitAnd (W : Int) ((W : Int) - 1) == 0) = decide (W &&& (W - 1) = 0) := by
  rw [bitAnd_pp (by omega) (by omega)]
  have : ((W : Int) - 1).toNat = W - 1 := by omega
  rw [this, Int.toNat_natCast]
  by_cases e : W &&& (W - 1) = 0
  · rw [e]; simp
  · simp [e]
noncomputable def cellsOf (ls : List Int) : List Int := (mids 0 ls).map fun x => (x * 2 ^ depthOf ls.sum.toNat).fdiv (2 * ls.sum)
theorem own_fns (P : Params) : nsFind (nsEs P 3) "_law_middles" = some (.ref 126) ∧ nsFind (nsEs P 3) "_high_bit" = some (.ref 35) ∧ nsFind (nsEs P 3) "_is_single_bit" = some (.ref 28) ∧ nsFind (nsEs P 3) "_law_merged" = some (.ref 133) ∧ nsFind (nsEs P 3) "_Accumulator" = some (.ref 115) := ⟨by kernel_rfl, by kernel_rfl, by kernel_rfl, by kernel_rfl, by kernel_rfl⟩
theorem keep_fns (P : Params) : keepIn (hd.heap_39 P) (.ref 126) = true ∧ keepIn (hd.heap_39 P) (.ref 35) = true ∧ keepIn (hd.heap_39 P) (.ref 28) = true ∧ keepIn (hd.heap_39 P) (.ref 133) = true ∧ keepIn (hd.heap_39 P) (.ref 115) = true := ⟨by kernel_rfl, by kernel_rfl, by kernel_rfl, by kernel_rfl, by kernel_rfl⟩
section
variable {w : World} {A : Around} {h : Heap} {g : Array GenState} {dr : Drawn} {t : Nat} {os : OsState} {env : Env} {pos : Pos} {Q E : Value → Shared → Prop}
theorem name_sum (X : HX (hd.heap_39 w.params) h) (hq : Q (.builtin "sum") ⟨h, g, dr, t, os⟩) (hk : env.scope.kind = .function := by rfl) (hx : env.kindOf "sum" = some .globalImplicit := by rfl) (hg : env.globals = 3 := by rfl) (hb : env.builtins = 0 := by rfl) :
    wpAny (model PySem.Challenge.rw_rl0011_01.row.prog w) A (eval (.Name "sum" pos) env) Q E ⟨h, g, dr, t, os⟩ := name_any X hk hx hg hb (by decide) (by decide) (bi_none _).2.2.2 PyProof.Rows.Boot.sum hq
theorem n_pow2 {n : Nat} {u v : Tok} (hn : n ≤ 1000) (hq : ∀ tk t', Q (.int (2 ^ n) tk) ⟨h, g, dr, t', os⟩) : wpAny (model PySem.Challenge.rw_rl0011_01.row.prog w) A (binaryOp .Pow (.int 2 u) (.int (n : Int) v)) Q E ⟨h, g, dr, t, os⟩ := by
  refine pow_int (by omega) ?_ (hq _ _)
  have : (Builtin.Int.intBits 2 : Int) = 2 := by decide +kernel
  rw [this]
  omega
end
set_option maxRecDepth 100000 in
set_option maxHeartbeats 0 in
theorem law1 : ∀ {w : World} {A : Around} {n : Nat} {h0 h : Heap} {g : Array GenState} {dr : Drawn} {t : Nat} {os : OsState} {m : Str → Option Value} {l : Addr} {vs : List Value} {script : List Int} {Q : Flow → Shared → Prop} {E : Value → Shared → Prop},
    Ok (n + 3) A → HX (hd.heap_39 w.params) h → Frm w.params h0 h m none none none none none → m "script" = some (.ref l) → h.IsList l vs.toArray → IntsAre vs script → script.length ≤ 63 →
    (∀ h' t' m' D1 D2 D3 u1 u2 v1 v2 v3, Frm w.params h0 h' m' (some (.int (lengthsOf script).sum u1)) (some (.ref D2)) (some (.int (depthOf (lengthsOf script).sum.toNat : Nat) u2)) none none →
      m' "lengths" = some (.ref D1) → m' "cells" = some (.ref D3) → h0.get? D1 = none → h0.get? D2 = none → h0.get? D3 = none → h'.PlainList D1 v1.toArray → IntsAre v1 (lengthsOf script) → h'.PlainList D2 v2.toArray → IntsAre v2 (mids 0 (lengthsOf script)) → h'.PlainList D3 v3.toArray → IntsAre v3 (cellsOf (lengthsOf script)) →
      wpAny (model PySem.Challenge.rw_rl0011_01.row.prog w) A (execs ((bodyOf (fdOf w.params 143)).drop 8) (callEnvC (fdOf w.params 143) h0.objs.size 143)) Q E ⟨h', g, dr, t', os⟩) →
    wpAny (model PySem.Challenge.rw_rl0011_01.row.prog w) A (execs (bodyOf (fdOf w.params 143)) (callEnvC (fdOf w.params 143) h0.objs.size 143)) Q E ⟨h, g, dr, t, os⟩ := by
  k_fill
  intro w A n h0 h g dr t os m l vs script Q E ok _ F ms hl hi hlen
  refine' open_body (P := w.params) (f := 143) ?ho fun e => ?_
  case ho => k_is
  rw [e]
  intro hq
  dsimp only [bodyOf]
  have hvl := hi.length
  refine wpAny_execs_cons (comp_ints h0.objs.size (fun x => 1 + x.fmod 40) ok.hh rfl rfl (by decide) rfl (by decide) rfl rfl rfl rfl (fun _ => rfl) ?_)
  refine Subscript_ (n_local F.ns ms (wpAny_Slice (wpAny_evalPart_none (wpAny_evalPart_some (n_int fun _ _ => wpAny_evalPart_none ?_)))))
  refine n_slice hl .none (.int 6 _) (by simp; omega) fun h₁ D₁ k₁ f₁ pl₁ => ?_
  have F₁ := F.keep k₁
  have i₁ := slice_ints_uptoW hi (y := 6) (by decide)
  refine ⟨h₁, _, D₁, _, _, m, rfl, rfl, (by simpa using pl₁.isList), i₁, (by simp; omega), F₁.ns, ?_, ?_⟩
  · intro C x k h₃ m₃ g₃ dr₃ t₃ os₃ E' _ n3 m3 k3 hk3
    refine wpAny_BinOp (n_int fun _ _ => wpAny_BinOp (n_local n3 m3 (n_int fun _ _ => n_mod (by decide) fun _ _ => n_add fun u _ => ⟨⟨u, rfl⟩, (Kp.refl [] h₃).keeps⟩) rfl hk3 rfl))
  intro h₂ t₂ D₂ vd f₂ pl₂ i₂ ns₂ k₂
  have F₂ := F₁.store ns₂ k₂
  change IntsAre vd (drawnOf script) at i₂
  have ld : (drawnOf script).length ≤ 6 := by unfold drawnOf; simp; omega
  have lvd := i₂.length
  refine wpAny_execs_cons (wpAny_Assign_Name (wpAny_BinOp (wpAny_BinOp (Subscript_ (n_local ns₂ rfl (wpAny_Slice (wpAny_evalPart_none (wpAny_evalPart_some (n_int fun _ _ => wpAny_evalPart_none ?_)))))))))
  refine n_slice pl₂.isList .none (.int 3 _) (by simp; omega) fun h₃ D₃ k₃ f₃ pl₃ => ?_
  have i₃ := slice_ints_uptoW i₂ (y := 3) (by decide)
  have F₃ := F₂.keep k₃
  have hl₃ : h₃.IsList D₃ (slicePick vd.toArray none (some 3) none).toList.toArray := by simpa using pl₃.isList
  generalize (slicePick vd.toArray none (some 3) none).toList = v3 at i₃ hl₃
  clear pl₃
  have l3 := i₃.length
  refine wpAny_List (n_arg (n_int fun a1 _ => n_arg (n_int fun a2 _ => n_arg (n_int fun a3 _ => n_arg (n_int fun a4 _ => n_arg (n_int fun a5 _ => wpAny_items_nil ⟨by size_fits, ?_⟩))))))
  have k₄ := Kp.push h₃ { cls := .type "list", data := .seq [Value.int 5 a1, .int 1 a2, .int 1 a3, .int 9 a4, .int 2 a5].toArray }
  have hl₄ := hl₃.at fun o e => k₄ _ o nomem e
  have hc₄ : (h₃.push { cls := .type "list", data := .seq [Value.int 5 a1, .int 1 a2, .int 1 a3, .int 9 a4, .int 2 a5].toArray }).IsList h₃.objs.size [Value.int 5 a1, .int 1 a2, .int 1 a3, .int 9 a4, .int 2 a5].toArray := ⟨_, Heap.get?_push_size _ rfl, rfl, _, rfl⟩
  have i₄ : IntsAre [Value.int 5 a1, .int 1 a2, .int 1 a3, .int 9 a4, .int 2 a5] [5, 1, 1, 9, 2] := .cons _ _ (.cons _ _ (.cons _ _ (.cons _ _ (.cons _ _ .nil))))
  refine n_addl hl₄ hc₄ (by simp; simp at l3; omega) fun h₅ D₅ k₅ f₅ pl₅ => ?_
  have i₅ := i₃.append i₄
  have F₅ := (F₃.keep k₄).keep k₅
  have pd₅ := ((pl₂.at fun o e => k₃ _ o nomem e).at fun o e => k₄ _ o nomem e).at fun o e => k₅ _ o nomem e
  refine Subscript_ (n_local F₅.ns rfl (wpAny_Slice (wpAny_evalPart_some (n_int fun _ _ => wpAny_evalPart_none (wpAny_evalPart_none ?_)))))
  refine n_slice pd₅.isList (.int 3 _) .none (by simp; omega) fun h₆ D₆ k₆ f₆ pl₆ => ?_
  have i₆ := slice_ints_fromW i₂ (x := 3) (by decide)
  have hl₆ : h₆.IsList D₆ (slicePick vd.toArray (some 3) none none).toList.toArray := by simpa using pl₆.isList
  generalize (slicePick vd.toArray (some 3) none none).toList = v6 at i₆ hl₆
  have l6 := i₆.length
  refine n_addl (pl₅.isList.at fun o e => k₆ _ o nomem e) hl₆ (by simp; simp at l3 l6; omega) fun h₇ D₇ k₇ f₇ pl₇ => ?_
  have i₇ := i₅.append i₆
  change IntsAre _ (lengthsOf script) at i₇
  have F₇ := (F₅.keep k₆).keep k₇
  generalize v3 ++ [Value.int 5 a1, .int 1 a2, .int 1 a3, .int 9 a4, .int 2 a5] ++ v6 = v7 at i₇ pl₇
  have fD₇ : h0.get? D₇ = none := by
    cases q : h0.get? D₇ with
    | none => rfl
    | some o => rw [(F₅.keep k₆).k _ _ nomem q] at f₇; cases f₇
  clear k₆ k₅ k₄ i₆ hl₆ pl₆ i₅ i₄ hl₃ hc₄ hl₄ i₃ pl₅ pd₅ F₃ F₅ l3 l6 f₃ f₅ f₆
  refine n_store F₇.ns fun h₈ t₈ ns₈ k₈ => ?_
  have F₈ := F₇.store ns₈ k₈
  have D7L : D₇ ≠ h0.objs.size := fun e => by
    obtain ⟨_, q⟩ := pl₇
    obtain ⟨_, _, _, q', hd', _⟩ := F₇.ns
    rw [e] at q; rw [q] at q'; cases q'; cases hd'
  have pl₈ : h₈.PlainList D₇ v7.toArray := pl₇.at fun o e => k₈ _ o (notin1 D7L) e
  obtain ⟨W, hW, hW1, hW2⟩ := whole_range script
  have hll := lengths_length script
  refine wpAny_execs_cons (wpAny_Assign_Name (wpAny_Call_NameR (name_sum F₈.X (n_bi (n_arg (n_local ns₈ rfl (wpAny_items_nil (n_sum ok pl₈.isList i₇ fun h₉ _ u₉ k₉ => ?_))))))))
  have F₉ := F₈.keep k₉
  refine n_cellset F₉.c1 rfl fun h₁₀ _ c₁₀ k₁₀ => ?_
  have F₁₀ := F₉.set1 c₁₀ k₁₀
  have pl₁₀ := pl_kp (pl_kp pl₈ k₉ nomem) k₁₀ (pl_cell (pl_kp pl₈ k₉ nomem) F₉.c1)
  refine wpAny_execs_cons (wpAny_Assign_Name (wpAny_Call_NameR (name_own F₁₀.X (own_fns _).1 (n_fn (keep_fns _).1 F₁₀.X (n_arg (n_local F₁₀.ns rfl (wpAny_items_nil ⟨F₁₀.X, ?_⟩)))))))
  refine middles_c (n := n) (ok.le (by omega)) F₁₀.X pl₁₀.isList i₇ (by omega) fun h₁₁ _ D₂ v₂ k₁₁ f₁₁ pm₁₁ im => ?_
  have F₁₁ := F₁₀.keep k₁₁
  refine n_cellset F₁₁.c2 rfl fun h₁₂ _ c₁₂ k₁₂ => ?_
  have F₁₂ := F₁₁.set2 c₁₂ k₁₂
  have pl₁₂ := pl_kp (pl_kp pl₁₀ k₁₁ nomem) k₁₂ (pl_cell (pl_kp pl₁₀ k₁₁ nomem) F₁₁.c2)
  have pm₁₂ := pl_kp pm₁₁ k₁₂ (pl_cell pm₁₁ F₁₁.c2)
  have fD₂ := F₁₀.old f₁₁
  refine wpAny_execs_cons (wpAny_Assign_Name (wpAny_Call_NameR (name_own F₁₂.X (own_fns _).2.1 (n_fn (keep_fns _).2.1 F₁₂.X (n_arg (n_cell F₁₂.c1 rfl (wpAny_items_nil ⟨F₁₂.X, ?_⟩)))))))
  rw [hW]
  refine high_c (n := n) (ok.le (by omega)) F₁₂.X fun h₁₃ _ u₁₃ k₁₃ => ?_
  have F₁₃ := F₁₂.keep k₁₃
  rw [bits_nat (by omega)]
  refine n_cellset F₁₃.c3 rfl fun h₁₄ _ c₁₄ k₁₄ => ?_
  have F₁₄ := F₁₃.set3 c₁₄ k₁₄
  have pl₁₄ := pl_kp (pl_kp pl₁₂ k₁₃ nomem) k₁₄ (pl_cell (pl_kp pl₁₂ k₁₃ nomem) F₁₃.c3)
  have pm₁₄ := pl_kp (pl_kp pm₁₂ k₁₃ nomem) k₁₄ (pl_cell (pl_kp pm₁₂ k₁₃ nomem) F₁₃.c3)
  clear F₁₃ F₁₂ F₁₁ F₁₀ F₉ F₈ k₁₄ k₁₃ k₁₂ k₁₁ k₁₀ k₉ pl₁₂ pl₁₀ pl₈ pm₁₁ pm₁₂ c₁₀ c₁₂ c₁₄
  rw [hW] at F₁₄
  obtain ⟨m₁₄, F₁₄, mL⟩ : ∃ m', Frm w.params h0 h₁₄ m' (some (.int (W : Int) u₉)) (some (.ref D₂)) (some (.int (W.log2 : Int) u₁₃)) none none ∧ m' "lengths" = some (.ref D₇) := ⟨_, F₁₄, rfl⟩
  refine wpAny_execs_cons (wpAny_mono (Q := fun f s => f = Flow.next ∧ ∃ h' t' u, s = (⟨h', g, dr, t', os⟩ : Shared) ∧ Frm w.params h0 h' m₁₄ (some (.int (W : Int) u₉)) (some (.ref D₂)) (some (.int (depthOf W : Int) u)) none none ∧ h'.PlainList D₇ v7.toArray ∧ h'.PlainList D₂ v₂.toArray) (wpAny_If (wpAny_isTrue_Not (wpAny_isTrue_value (wpAny_Call_NameR (name_own F₁₄.X (own_fns _).2.2.1 (n_fn (keep_fns _).2.2.1 F₁₄.X (n_arg (n_cell F₁₄.c1 rfl (wpAny_items_nil ⟨F₁₄.X, ?_⟩))))))))) (fun f s z => ?_) fun _ _ z => z)
  · refine single_c (n := n) (ok.le (by omega)) F₁₄.X (by omega) fun h₁₅ _ k₁₅ => ?_
    rw [and_nat (by omega)]
    refine wpAny_truthy_bool ?_
    have F₁₅ := F₁₄.keep k₁₅
    have pl₁₅ := pl_kp pl₁₄ k₁₅ nomem
    have pm₁₅ := pl_kp pm₁₄ k₁₅ nomem
    by_cases hs : W &&& (W - 1) = 0
    · rw [if_neg (by simp [hs])]
      refine wpAny_execs_nil ⟨rfl, h₁₅, _, u₁₃, rfl, ?_, pl₁₅, pm₁₅⟩
      have : depthOf W = W.log2 := if_pos hs
      rw [this]
      exact F₁₅
    · rw [if_pos (by simp [hs])]
      refine wpAny_execs_cons (wpAny_AugAssign_Name (wpAny_loadName_cell rfl rfl rfl F₁₅.c3 (n_int fun _ _ => n_iadd fun u₁₅ _ => n_cellset F₁₅.c3 rfl fun h₁₆ _ c₁₆ k₁₆ => ?_)))
      refine wpAny_execs_nil ⟨rfl, h₁₆, _, u₁₅, rfl, ?_, pl_kp pl₁₅ k₁₆ (pl_cell pl₁₅ F₁₅.c3), pl_kp pm₁₅ k₁₆ (pl_cell pm₁₅ F₁₅.c3)⟩
      have : depthOf W = W.log2 + 1 := if_neg hs
      rw [this]
      exact F₁₅.set3 c₁₆ k₁₆
  obtain ⟨rfl, h₁₆, _, u₁₆, rfl, F₁₆, pl₁₆, pm₁₆⟩ := z
  clear F₁₄ pl₁₄ pm₁₄
  obtain ⟨d1, d2, d3⟩ := depth_facts W hW2 (by omega)
  have hp : ((2 : Int) ^ depthOf W) = ((2 ^ depthOf W : Nat) : Int) := by simp
  refine wpAny_execs_cons (wpAny_If (wpAny_isTrue_Not (isTrue_chain (n_cell F₁₆.c1 rfl (test_link (wpAny_BinOp (n_int fun _ _ => n_cell F₁₆.c3 rfl (n_pow2 (by omega) fun _ _ => n_le (wpAny_truthy_bool ?_)))))))))
  rw [if_pos (by rw [hp]; exact decide_eq_true (Int.ofNat_le.mpr d1))]
  refine test_last (wpAny_BinOp (n_int fun _ _ => n_cell F₁₆.c1 rfl (n_mul (by decide) fun _ _ => n_lt (wpAny_truthy_bool ?_))))
  have hp2 : decide ((2 : Int) ^ depthOf W < 2 * (W : Int)) = true := by rw [hp]; exact decide_eq_true (by omega)
  rw [hp2]
  rw [if_neg (by decide)]
  refine wpAny_execs_nil ?_
  have hmid : ∀ x ∈ mids 0 (lengthsOf script), -1000000 ≤ x ∧ x ≤ 1000000 := fun x hx => by
    have := mids_small (st := 0) (by rw [hW]; omega) (fun x hx => lengths_range hx) x hx
    rw [hW] at this
    omega
  refine wpAny_execs_cons (comp_ints h0.objs.size (fun x => (x * 2 ^ depthOf W).fdiv (2 * (W : Int))) ok.hh rfl rfl (by decide) rfl (by decide) rfl rfl rfl rfl (fun _ => rfl) ?_)
  refine n_cell F₁₆.c2 rfl ⟨h₁₆, _, D₂, _, _, m₁₄, rfl, rfl, pm₁₆.isList, im, (by rw [mids_length]; omega), F₁₆.ns, ?_, ?_⟩
  · intro C x k h₃ m₃ g₃ dr₃ t₃ os₃ E' hx n3 m3 k3 hk3
    have hlt1 := (Heap.IsCell.lt F₁₆.c1)
    have hlt3 := (Heap.IsCell.lt F₁₆.c3)
    have c1' := IsCell.kp F₁₆.c1 k3 (notin1 (Nat.ne_of_lt hlt1))
    have c3' := IsCell.kp F₁₆.c3 k3 (notin1 (Nat.ne_of_lt hlt3))
    have hx1 := hmid x hx
    refine wpAny_BinOp (wpAny_BinOp (n_local n3 m3 (wpAny_BinOp (n_int fun _ _ => n_cell c3' rfl (n_pow2 (by omega) fun _ _ => n_mul (by omega) fun _ _ => ?_) rfl rfl)) rfl hk3 rfl))
    refine wpAny_BinOp (n_int fun _ _ => n_cell c1' rfl (n_mul (by decide) fun _ _ => n_fdiv (by omega) (by omega) fun u _ => ⟨⟨u, rfl⟩, (Kp.refl [] h₃).keeps⟩) rfl rfl)
  intro h₁₇ t₁₇ D₃ v₃ f₁₇ pc₁₇ ic ns₁₇ k₁₇
  have F₁₇ := F₁₆.store ns₁₇ k₁₇
  have hWn : (lengthsOf script).sum.toNat = W := by rw [hW]; rfl
  have F₁₈ : Frm w.params h0 h₁₇ (fun z => if z = "cells" then some (Value.ref D₃) else m₁₄ z) (some (.int (lengthsOf script).sum u₉)) (some (.ref D₂)) (some (.int (depthOf (lengthsOf script).sum.toNat : Nat) u₁₆)) none none := by
    rw [hWn, hW]; exact F₁₇
  refine hq h₁₇ t₁₇ _ D₇ D₂ D₃ u₉ u₁₆ v7 v₂ v₃ F₁₈ ?_ ?_ fD₇ fD₂ (F₁₆.old f₁₇) (pl_kp pl₁₆ k₁₇ (pl_ns pl₁₆ F₁₆.ns)) i₇ (pl_kp pm₁₆ k₁₇ (pl_ns pm₁₆ F₁₆.ns)) im pc₁₇ ?_
  · exact mL
  · rfl
  · unfold cellsOf
    rw [hWn, hW]
    exact ic
end Mine
namespace Mine
theorem acc_facts (P : Params) : findIn (hd.heap_39 P) (.ref 115) "__getattribute__" = some (some (.builtin "list.__getattribute__")) ∧ findIn (hd.heap_39 P) (.ref 115) "__getattr__" = some none ∧
    findIn (hd.heap_39 P) (.ref 115) "part_count" = some (some (.ref 112)) ∧ findIn (hd.heap_39 P) (.ref 115) "pop_from" = some (some (.ref 67)) ∧ findIn (hd.heap_39 P) (.ref 115) "push" = some (some (.ref 59)) ∧ findIn (hd.heap_39 P) (.ref 115) "pop" = some (some (.ref 75)) ∧
    findIn (hd.heap_39 P) (.ref 115) "__getitem__" = some (some (.builtin "list.__getitem__")) := ⟨by kernel_rfl, by kernel_rfl, by kernel_rfl, by kernel_rfl, by kernel_rfl, by kernel_rfl, by kernel_rfl⟩
theorem acc_types (P : Params) : typeIn (hd.heap_39 P) (.ref 112) = some (.type "function") ∧ typeIn (hd.heap_39 P) (.ref 67) = some (.type "function") ∧ typeIn (hd.heap_39 P) (.ref 59) = some (.type "function") ∧ typeIn (hd.heap_39 P) (.ref 75) = some (.type "function") := ⟨by kernel_rfl, by kernel_rfl, by kernel_rfl, by kernel_rfl⟩
theorem acc_keep (P : Params) : keepIn (hd.heap_39 P) (.ref 112) = true ∧ keepIn (hd.heap_39 P) (.ref 67) = true ∧ keepIn (hd.heap_39 P) (.ref 59) = true ∧ keepIn (hd.heap_39 P) (.ref 75) = true := ⟨by kernel_rfl, by kernel_rfl, by kernel_rfl, by kernel_rfl⟩
section
variable {w : World} {A : Around} {h : Heap} {g : Array GenState} {dr : Drawn} {t : Nat} {os : OsState} {env : Env} {pos : Pos} {Q E : Value → Shared → Prop} {stk d : Addr} {items : Array Value}
theorem meth_acc {name : Str} {f : Addr} {pl : Sem Bool} {Q : Value × List Value → Shared → Prop} (X : HX (hd.heap_39 w.params) h) (I : IsAcc h stk d items) (hf : findIn (hd.heap_39 w.params) (.ref 115) name = some (some (.ref f))) (ht : typeIn (hd.heap_39 w.params) (.ref f) = some (.type "function")) (hn : (name == ("_initial_size" : Str)) = false) (hq : Q (.ref f, [.ref stk]) ⟨h, g, dr, t, os⟩) :
    wpAny (model PySem.Challenge.rw_rl0011_01.row.prog w) A (getMethod (.ref stk) name pl) Q E ⟨h, g, dr, t, os⟩ := by
  obtain ⟨ox, od, J, _, _, sh⟩ := I.inst
  exact method_any (s := ⟨h, g, dr, t, os⟩) X.x J (acc_facts _).1 (by decide +kernel) (acc_facts _).2.1 hf ht (by decide +kernel) (sh _ hn) hq
theorem m_count {pl : Sem Bool} {Q : Value × List Value → Shared → Prop} (X : HX (hd.heap_39 w.params) h) (I : IsAcc h stk d items) (hq : Q (.ref 112, [.ref stk]) ⟨h, g, dr, t, os⟩) : wpAny (model PySem.Challenge.rw_rl0011_01.row.prog w) A (getMethod (.ref stk) "part_count" pl) Q E ⟨h, g, dr, t, os⟩ := meth_acc X I (acc_facts _).2.2.1 (acc_types _).1 (by decide) hq
theorem m_popfrom {pl : Sem Bool} {Q : Value × List Value → Shared → Prop} (X : HX (hd.heap_39 w.params) h) (I : IsAcc h stk d items) (hq : Q (.ref 67, [.ref stk]) ⟨h, g, dr, t, os⟩) : wpAny (model PySem.Challenge.rw_rl0011_01.row.prog w) A (getMethod (.ref stk) "pop_from" pl) Q E ⟨h, g, dr, t, os⟩ := meth_acc X I (acc_facts _).2.2.2.1 (acc_types _).2.1 (by decide) hq
theorem m_push {pl : Sem Bool} {Q : Value × List Value → Shared → Prop} (X : HX (hd.heap_39 w.params) h) (I : IsAcc h stk d items) (hq : Q (.ref 59, [.ref stk]) ⟨h, g, dr, t, os⟩) : wpAny (model PySem.Challenge.rw_rl0011_01.row.prog w) A (getMethod (.ref stk) "push" pl) Q E ⟨h, g, dr, t, os⟩ := meth_acc X I (acc_facts _).2.2.2.2.1 (acc_types _).2.2.1 (by decide) hq
theorem m_pop {pl : Sem Bool} {Q : Value × List Value → Shared → Prop} (X : HX (hd.heap_39 w.params) h) (I : IsAcc h stk d items) (hq : Q (.ref 75, [.ref stk]) ⟨h, g, dr, t, os⟩) : wpAny (model PySem.Challenge.rw_rl0011_01.row.prog w) A (getMethod (.ref stk) "pop" pl) Q E ⟨h, g, dr, t, os⟩ := meth_acc X I (acc_facts _).2.2.2.2.2.1 (acc_types _).2.2.2 (by decide) hq
/-- an item of the stack by its index -/
theorem n_accitem {value slice : Expr} {k : Nat} {u : Tok} {x : Value} (X : HX (hd.heap_39 w.params) h) (I : IsAcc h stk d items) (hx : items[k]? = some x) (hk : k ≤ 1000000) (hq : Q x ⟨h, g, dr, t, os⟩)
    (hsl : (∃ vs, subscripted slice false (.ref stk) (.int (k : Int) u) = operate vs (getItem (.ref stk) (.int (k : Int) u)))) (ht : ∀ r, letTemporaryGo value (.ref stk) r = pure ()) :
    wpAny (model PySem.Challenge.rw_rl0011_01.row.prog w) A (subscriptTail value slice (.ref stk) (.int (k : Int) u)) Q E ⟨h, g, dr, t, os⟩ := by
  obtain ⟨ox, od, J, _, _, sh⟩ := I.inst
  refine tail_inst (s := ⟨h, g, dr, t, os⟩) X.x J (acc_facts _).2.2.2.2.2.2 (getItem_inst (s := ⟨h, g, dr, t, os⟩) X.x J (by kernel_rfl) (acc_facts _).2.2.2.2.2.2 slot_list_getitem ?_) hsl ht
  exact item_acc X I (by omega) (by omega) (by simpa using hx) hq
def letter (k : Nat) : Str := ⟨#[97 + k]⟩
theorem letter_eq : ∀ k : Nat, k < 11 → (seqIndex? (k : Int) (Str.ofString "abcdefghijk").length).bind ((Str.ofString "abcdefghijk").cps[·]?) = some (97 + k) := by decide +kernel
theorem n_letter {value slice : Expr} {k : Nat} {tk u : Tok} (hk : k < 11) (hq : ∀ tk t', Q (.str (letter k) tk) ⟨h, g, dr, t', os⟩)
    (hs : subscripted slice false (.str (Str.ofString "abcdefghijk") tk) (.int (k : Int) u) = operate [.str (Str.ofString "abcdefghijk") tk, .int (k : Int) u] (getItem (.str (Str.ofString "abcdefghijk") tk) (.int (k : Int) u)) := by with_unfolding_all rfl) :
    wpAny (model PySem.Challenge.rw_rl0011_01.row.prog w) A (subscriptTail value slice (.str (Str.ofString "abcdefghijk") tk) (.int (k : Int) u)) Q E ⟨h, g, dr, t, os⟩ :=
  tail_any (typeIs_str _ _ _) F.slot_str_getitem.lookup (P.getItem_str (by simp; omega) (letter_eq k hk) (hq _ _)) hs
def spaces (n : Nat) : Str := Txt.mul (Str.ofString " ") (n : Int)
theorem spaces_len : ∀ n < 64, (spaces n).length = n := by decide +kernel
theorem n_spaces {n : Nat} {tk u : Tok} (hn : n < 64) (hq : ∀ tk t', Q (.str (spaces n) tk) ⟨h, g, dr, t', os⟩) : wpAny (model PySem.Challenge.rw_rl0011_01.row.prog w) A (binaryOp .Mult (.str (Str.ofString " ") tk) (.int (n : Int) u)) Q E ⟨h, g, dr, t, os⟩ := by
  refine SB.mul ⟨by simp; omega, fun h1 h2 => ?_, fun h1 h2 => ?_⟩ fun _ _ => hq _ _
  · have e : (Str.ofString " ").length = 1 := by decide +kernel
    rw [e]
    have : (1 : Int) ≤ (2 ^ 63 - 1) / (n : Int) := by
      rw [Int.le_ediv_iff_mul_le (by omega)]; omega
    omega
  · have e : (Str.ofString " ").length = 1 := by decide +kernel
    rw [e]
    unfold Builtin.Str.tooLong
    have := sizeLine_eq
    simp
    omega
end
/-- the first of the pieces that lie deeper, one more than its index behind the first; all pieces' number if there is none -/
def firstDeep (ps : List (Str × Str)) (lv : Nat) : Nat := 1 + ps.tail.findIdx fun p => decide (lv < p.1.length)
noncomputable def stepP (ps : List (Str × Str)) (lv : Nat) (x : Str) : List (Str × Str) := ps.take (firstDeep ps lv - 1) ++ [mergedT (ps.drop (firstDeep ps lv - 1))] ++ [(spaces lv, x)]
/-- the indices that the comprehension picks -/
def deeperOf (ps : List (Str × Str)) (lv : Nat) : List Nat := ((List.range (ps.length - 1)).map (1 + ·)).filter fun i => decide (lv < (ps.getD i (Str.empty, Str.empty)).1.length)
theorem findIdx_filter {α : Type} (p : α → Bool) (d : α) : ∀ (l : List α) (b : Nat), ((List.range l.length).map (b + ·)).filter (fun i => p (l.getD (i - b) d)) = [] ∧ l.findIdx p = l.length ∨ ∃ r, ((List.range l.length).map (b + ·)).filter (fun i => p (l.getD (i - b) d)) = (b + l.findIdx p) :: r ∧ l.findIdx p < l.length
  | [], b => .inl ⟨rfl, rfl⟩
  | a :: r, b => by
    have ih := findIdx_filter p d r (b + 1)
    have e : ((List.range (a :: r).length).map (b + ·)) = b :: ((List.range r.length).map (b + 1 + ·)) := by
      rw [List.length_cons, List.range_succ_eq_map, List.map_cons, List.map_map]
      congr 1
      refine List.map_congr_left fun i _ => ?_
      simp only [Function.comp_apply]; omega
    have e2 : ((List.range r.length).map (b + 1 + ·)).filter (fun i => p ((a :: r).getD (i - b) d)) = ((List.range r.length).map (b + 1 + ·)).filter (fun i => p (r.getD (i - (b + 1)) d)) := by
      refine List.filter_congr fun i hi => ?_
      obtain ⟨j, _, rfl⟩ := List.mem_map.mp hi
      have h1 : b + 1 + j - b = j + 1 := by omega
      have h2 : b + 1 + j - (b + 1) = j := by omega
      rw [h1, h2]; rfl
    rw [e]
    cases hp : p a with
    | true =>
      refine .inr ⟨_, by rw [List.filter_cons_of_pos (by simpa using hp), List.findIdx_cons, hp]; rfl, by rw [List.findIdx_cons, hp]; simp⟩
    | false =>
      rw [List.filter_cons_of_neg (by simpa using hp), e2, List.findIdx_cons, hp]
      rcases ih with ⟨i1, i2⟩ | ⟨q, i1, i2⟩
      · exact .inl ⟨i1, by simp [i2]⟩
      · exact .inr ⟨q, by rw [i1]; congr 1; simp; omega, by simpa using i2⟩
theorem deeper_first {ps : List (Str × Str)} {lv : Nat} (hne : ps ≠ []) : deeperOf ps lv = [] ∧ firstDeep ps lv = ps.length ∨ ∃ r, deeperOf ps lv = firstDeep ps lv :: r := by
  match ps, hne with
  | a :: q, _ =>
    have h := findIdx_filter (fun p : Str × Str => decide (lv < p.1.length)) (Str.empty, Str.empty) q 1
    have e : deeperOf (a :: q) lv = ((List.range q.length).map (1 + ·)).filter (fun i => decide (lv < (q.getD (i - 1) (Str.empty, Str.empty)).1.length)) := by
      unfold deeperOf
      refine List.filter_congr fun i hi => ?_
      obtain ⟨j, _, rfl⟩ := List.mem_map.mp hi
      have h2 : 1 + j - 1 = j := by omega
      rw [h2, Nat.add_comm]; rfl
    rw [e]
    rcases h with ⟨h1, h2⟩ | ⟨r, h1, h2⟩
    · exact .inl ⟨h1, by unfold firstDeep; rw [List.tail_cons, h2, List.length_cons]; omega⟩
    · exact .inr ⟨r, h1⟩
theorem firstDeep_le {ps : List (Str × Str)} {lv : Nat} (hne : ps ≠ []) : 1 ≤ firstDeep ps lv ∧ firstDeep ps lv ≤ ps.length := by
  match ps, hne with
  | a :: q, _ =>
    unfold firstDeep
    have := List.findIdx_le_length (p := fun p : Str × Str => decide (lv < p.1.length)) (xs := q)
    simp only [List.tail_cons, List.length_cons]
    omega
end Mine
namespace Mine
theorem IsAcc.notCell {h : Heap} {stk d a : Addr} {items : Array Value} {v : Option Value} (I : IsAcc h stk d items) (c : h.IsCell a v) : stk ∉ [a] ∧ d ∉ [a] := by
  obtain ⟨_, _, ⟨_, e⟩, ⟨_, _, _, _, e2⟩⟩ := I
  obtain ⟨_, e', dd⟩ := c
  refine ⟨fun q => ?_, fun q => ?_⟩
  · rw [List.mem_singleton.mp q] at e; rw [e] at e'; cases e'; cases dd
  · rw [List.mem_singleton.mp q] at e2; rw [e2] at e'; cases e'; cases dd
theorem IsAcc.notPl {h : Heap} {stk d a : Addr} {items x : Array Value} (I : IsAcc h stk d items) (p : h.PlainList a x) : a ∉ [stk] := fun q => by
  obtain ⟨_, _, ⟨_, e⟩, _⟩ := I
  obtain ⟨_, e'⟩ := p
  rw [List.mem_singleton.mp q] at e'; rw [e] at e'; cases e'
/-- the law's stack: where it stands in the frame -/
structure Stk (h0 h : Heap) (stk d : Addr) (vs : List Value) (ps : List (Str × Str)) : Prop where
  I : IsAcc h stk d vs.toArray
  P : Pieces h vs ps
  f1 : h0.get? stk = none
  n2 : d ≠ h0.objs.size
section
variable {P : Params} {h0 h h' : Heap} {stk d : Addr} {vs : List Value} {ps : List (Str × Str)} {m : Str → Option Value} {cw cm cd cs cl : Option Value}
theorem Stk.notNs (S : Stk h0 h stk d vs ps) (m : Str → Option Value) : ¬ h.Ns stk m := fun n => by
  obtain ⟨_, _, ⟨_, e⟩, _⟩ := S.I
  obtain ⟨_, _, _, e', dd, _⟩ := n
  rw [e] at e'; cases e'; cases dd
theorem Stk.keep (S : Stk h0 h stk d vs ps) (k : Kp [] h h') : Stk h0 h' stk d vs ps := ⟨S.I.kp k nomem nomem, S.P.kp k (fun _ q => nomatch q), S.f1, S.n2⟩
theorem Stk.store (S : Stk h0 h stk d vs ps) (n : h.Ns h0.objs.size m) (k : Kp [h0.objs.size] h h') : Stk h0 h' stk d vs ps :=
  ⟨S.I.kp k (fun q => S.notNs m (by rw [List.mem_singleton.mp q]; exact n)) (notin1 S.n2), S.P.kp k (NT.ns n).one, S.f1, S.n2⟩
theorem NT.cell {a : Addr} {v : Option Value} (c : h.IsCell a v) : NT h a := fun vs e => by
  obtain ⟨_, e', dd⟩ := c
  rw [e] at e'; cases e'; cases dd
theorem NT.pl {a : Addr} {x : Array Value} (c : h.PlainList a x) : NT h a := fun vs e => by
  obtain ⟨_, e'⟩ := c
  rw [e] at e'
  injection e' with e'
  injection e' with e' _ _ _
  injection e' with e'
  exact absurd e' (by decide)
theorem Stk.cell {a : Addr} {v : Option Value} (S : Stk h0 h stk d vs ps) (c : h.IsCell a v) (k : Kp [a] h h') : Stk h0 h' stk d vs ps :=
  ⟨S.I.kp k (S.I.notCell c).1 (S.I.notCell c).2, S.P.kp k (NT.cell c).one, S.f1, S.n2⟩
theorem Frm.acc (F : Frm P h0 h m cw cm cd cs cl) (S : Stk h0 h stk d vs ps) (k : Kp [stk] h h') : Frm P h0 h' m cw cm cd cs cl :=
  F.keepW k fun a q => by
    rw [List.mem_singleton.mp q]
    exact ⟨S.f1, fun v c => (S.I.notCell c).1 (.head _), S.notNs⟩
end
section
variable {w : World} {A : Around} {h : Heap} {g : Array GenState} {dr : Drawn} {t : Nat} {os : OsState} {env : Env} {pos : Pos} {Q E : Value → Shared → Prop} {stk d : Addr} {items : Array Value}
theorem c_count {n : Nat} (ok : Ok (n + 2) A) (X : HX (hd.heap_39 w.params) h) (I : IsAcc h stk d items) (hq : ∀ h' t' tk, Kp [] h h' → Q (.int items.size tk) ⟨h', g, dr, t', os⟩) :
    wpAny (model PySem.Challenge.rw_rl0011_01.row.prog w) A (callWith pos (.ref 112) [.ref stk] (backTo pos (starEach [] env)) []) Q E ⟨h, g, dr, t, os⟩ := callWith_K0 X.x (acc_keep _).1 (part_count_acc ok X I hq)
end
noncomputable def deepTest (ps : List (Str × Str)) (lv : Nat) : Value → Bool
  | .int i _ => decide (lv < (ps.getD i.toNat (Str.empty, Str.empty)).1.length)
  | _ => false
theorem deep_ints {ps : List (Str × Str)} {lv : Nat} : ∀ {N : Nat} {vs : List Value}, vs.length = N → (∀ (j : Nat) (v : Value), vs[j]? = some v → ∃ tv, v = Value.int (1 + (j : Int) * 1) tv) → IntsAre (vs.filter (deepTest ps lv)) ((((List.range N).map (1 + ·)).filter fun i => decide (lv < (ps.getD i (Str.empty, Str.empty)).1.length)).map Int.ofNat)
  | 0, [], _, _ => .nil
  | N + 1, vs, hl, h => by
    obtain ⟨ws, v, rfl⟩ : ∃ ws v, vs = ws ++ [v] := by
      exact ⟨vs.dropLast, vs.getLast (by intro e; rw [e] at hl; cases hl), (List.dropLast_concat_getLast _).symm⟩
    have hl' : ws.length = N := by simpa using hl
    have ih := deep_ints (ps := ps) (lv := lv) (N := N) (vs := ws) hl' fun j v hj => h j v (by
      have : j < ws.length := (List.getElem?_eq_some_iff.mp hj).1
      rw [List.getElem?_append_left this]; exact hj)
    obtain ⟨tv, rfl⟩ := h N v (by rw [List.getElem?_append_right (by omega)]; simp [hl'])
    rw [List.filter_append, List.range_succ, List.map_append, List.filter_append, List.map_append]
    refine IntsAre.append ih ?_
    have e : (1 + (N : Int) * 1).toNat = 1 + N := by omega
    have e' : (1 + (N : Int) * 1) = ((1 + N : Nat) : Int) := by omega
    cases hc : decide (lv < (ps.getD (1 + N) (Str.empty, Str.empty)).1.length) with
    | true =>
      rw [List.filter_cons_of_pos (by show decide _ = true; rw [e]; exact hc), List.map_cons, List.map_nil, List.filter_cons_of_pos (by exact hc)]
      rw [e']
      exact .cons _ _ .nil
    | false =>
      rw [List.filter_cons_of_neg (by show ¬ decide _ = true; rw [e, hc]; decide), List.map_cons, List.map_nil, List.filter_cons_of_neg (by rw [hc]; decide)]
      exact .nil
end Mine
namespace Mine
theorem in2 {a b c : Addr} (h1 : a ∉ [b]) (h2 : a ∉ [c]) : a ∉ [b, c] := fun q => by
  rcases List.mem_cons.mp q with q | q
  · exact h1 (by rw [q]; exact .head _)
  · exact h2 q
section
variable {P : Params} {h0 h h' : Heap} {stk d I : Addr} {vs : List Value} {ps : List (Str × Str)} {m m' : Str → Option Value} {cw cm cd cs cl : Option Value}
theorem Frm.store2 (F : Frm P h0 h m cw cm cd cs cl) (n' : h'.Ns h0.objs.size m') (k : Kp [h0.objs.size, I] h h') (hI : h0.get? I = none) (hc : ∀ v, ¬ h.IsCell I v) : Frm P h0 h' m' cw cm cd cs cl := by
  have hx : ∀ {a v}, h.IsCell a v → a ∉ [I] := fun c q => hc _ (by rw [← List.mem_singleton.mp q]; exact c)
  refine ⟨F.X0, in_keep F.X k ?_, n', fun b o _ e => k b o ?_ (F.k b o nomem e), IsCell.kp F.c1 k (in2 (notin1 (by omega)) (hx F.c1)), IsCell.kp F.c2 k (in2 (notin1 (by omega)) (hx F.c2)), IsCell.kp F.c3 k (in2 (notin1 (by omega)) (hx F.c3)), IsCell.kp F.c4 k (in2 (notin1 (by omega)) (hx F.c4)), IsCell.kp F.c5 k (in2 (notin1 (by omega)) (hx F.c5))⟩
  · intro a q
    rcases List.mem_cons.mp q with rfl | q
    · exact F.nk 0
    · rw [List.mem_singleton.mp q]; exact NK.of_none F.X0 hI
  · refine in2 (notin1 (by have := ltOf e; omega)) fun q => ?_
    rw [List.mem_singleton.mp q, hI] at e; cases e
theorem Stk.store2 (S : Stk h0 h stk d vs ps) (n : h.Ns h0.objs.size m) (k : Kp [h0.objs.size, I] h h') (h1 : stk ∉ [I]) (h2 : d ∉ [I]) (h3 : NT h I) : Stk h0 h' stk d vs ps :=
  ⟨S.I.kp k (in2 (fun q => S.notNs m (by rw [List.mem_singleton.mp q]; exact n)) h1) (in2 (notin1 S.n2) h2), S.P.kp k (fun a q => by
    rcases List.mem_cons.mp q with rfl | q
    · exact NT.ns n
    · rw [List.mem_singleton.mp q]; exact h3), S.f1, S.n2⟩
end
theorem ne_nil_list {w : World} {A : Around} {n : Nat} {h : Heap} {g : Array GenState} {dr : Drawn} {t : Nat} {os : OsState} {pos : Pos} {env : Env} {E : Value → Shared → Prop} {Q : Bool → Shared → Prop} {l : Addr} {vs : List Value} (ok : Ok n A) (hl : h.IsList l vs.toArray)
    (hq : ∀ h', Kp [] h h' → Q (decide (vs ≠ [])) ⟨h', g, dr, t, os⟩) :
    wpAny (model PySem.Challenge.rw_rl0011_01.row.prog w) A (eval (.List [] pos) env) (fun b s₂ => wpAny (model PySem.Challenge.rw_rl0011_01.row.prog w) A (compareOp .NotEq (.ref l) b) (fun c s₃ => wpAny (model PySem.Challenge.rw_rl0011_01.row.prog w) A (truthy c) Q E s₃) E s₂) E ⟨h, g, dr, t, os⟩ := by
  refine wpAny_List (wpAny_items_nil ⟨by size_fits, ?_⟩)
  have hu : A.units < cLine := by have := ok.un; unfold cLine; omega
  have k1 := Kp.push h { cls := .type "list", data := .seq ([] : List Value).toArray }
  have hl1 := hl.at fun o e => k1 _ o nomem e
  have hb : (h.push { cls := .type "list", data := .seq ([] : List Value).toArray }).IsList h.objs.size #[] := ⟨_, Heap.get?_push_size _ rfl, rfl, _, rfl⟩
  cases vs with
  | nil =>
    refine SeqAt.RcNeAt.lists (e := fun _ => true) hl1 hb rfl hu (fun j h1 h2 => by simp at h2) _ _ _ _ ?_
    exact wpAny_truthy_bool (hq _ k1)
  | cons v r =>
    refine SeqAt.RcNeAt.lists_lengths hl1 hb (by simp) hu _ _ _ _ ?_
    exact wpAny_truthy_bool (hq _ k1)
theorem walks_lt {prog : Program} {w : World} {A : Around} {I : Addr} {fp wr : List Addr} {n : Nat} {P : Nat → Value → Prop} {St : Nat → Heap → Prop} (W : Walks prog w A I fp wr n P St) : Walks prog w A I fp wr n (fun i v => i < n ∧ P i v) St :=
  ⟨W.sub, W.frame, fun i s Q E hi st hQ => W.item i s Q E hi st fun v h' tk hP => hQ v h' tk ⟨hi, hP⟩, W.done, W.self⟩
set_option maxRecDepth 100000 in
set_option maxHeartbeats 0 in
theorem turn_c : ∀ {w : World} {A : Around} {n : Nat} {h0 h : Heap} {g : Array GenState} {dr : Drawn} {t : Nat} {os : OsState} {m : Str → Option Value} {W : Int} {dp lv k : Nat} {D2 D3 stk d : Addr} {u1 u3 uk : Tok} {cl : Option Value} {vs v3 : List Value} {ps : List (Str × Str)} {cs : List Int} {a b : Int} {Q : Flow → Shared → Prop} {E : Value → Shared → Prop},
    Ok (n + 6) A → HX (hd.heap_39 w.params) h → Frm w.params h0 h m (some (.int W u1)) (some (.ref D2)) (some (.int (dp : Int) u3)) (some (.ref stk)) cl → Stk h0 h stk d vs ps → ps ≠ [] → ps.length ≤ 15 → (∀ p ∈ ps, p.1.length ≤ 100 ∧ p.2.length ≤ 1000) →
    m "k" = some (.int (k : Int) uk) → m "cells" = some (.ref D3) → h.PlainList D3 v3.toArray → IntsAre v3 cs → 1 ≤ k → k < 11 → cs[k - 1]? = some a → cs[k]? = some b → (dp : Int) - ((Builtin.Int.intBits (Builtin.bitXor a b) : Int) - 1) = (lv : Int) → lv < 60 → (stepP ps lv (letter k)).length ≤ lv + 1 →
    (∀ h' t' m' vs' cl', Frm w.params h0 h' m' (some (.int W u1)) (some (.ref D2)) (some (.int (dp : Int) u3)) (some (.ref stk)) cl' → Stk h0 h' stk d vs' (stepP ps lv (letter k)) → m' "lengths" = m "lengths" → m' "cells" = m "cells" → Kp [h0.objs.size, h0.objs.size + 1 + 1 + 1 + 1 + 1, stk] h h' → Q .next ⟨h', g, dr, t', os⟩) →
    wpAny (model PySem.Challenge.rw_rl0011_01.row.prog w) A (execs (forBody ((bodyOf (fdOf w.params 143)).getD 10 (.Pass default))) (callEnvC (fdOf w.params 143) h0.objs.size 143)) Q E ⟨h, g, dr, t, os⟩ := by
  k_fill
  intro w A n h0 h g dr t os m W dp lv k D2 D3 stk d u1 u3 uk cl vs v3 ps cs a b Q E ok _ F S hne hpl hpz mk mc p3 i3 hk1 hk2 ha hb hlv hlv2 hle hq
  refine' open_body (P := w.params) (f := 143) ?ho fun e => ?_
  case ho => k_is
  rw [e]
  dsimp only [bodyOf, forBody, List.getD_cons_succ, List.getD_cons_zero]
  have ek : (k : Int) - 1 = ((k - 1 : Nat) : Int) := by omega
  have hv3 := i3.length
  have hkl : k < cs.length := (List.getElem?_eq_some_iff.mp hb).1
  obtain ⟨ua, ea, _⟩ := IntsAre.get i3 (i := k - 1) (v := v3[k - 1]'(by omega)) (by simp)
  obtain ⟨ub, eb, _⟩ := IntsAre.get i3 (i := k) (v := v3[k]'(by omega)) (by simp)
  have ea' : v3[k - 1]? = some (.int a ua) := by rw [List.getElem?_eq_getElem (by omega), ea, List.getD_eq_getElem?_getD, ha]; rfl
  have eb' : v3[k]? = some (.int b ub) := by rw [List.getElem?_eq_getElem (by omega), eb, List.getD_eq_getElem?_getD, hb]; rfl
  refine wpAny_execs_cons (wpAny_Assign_Name (wpAny_BinOp (n_cell F.c3 rfl (wpAny_Call_NameR (name_own F.X (own_fns _).2.1 (n_fn (keep_fns _).2.1 F.X (n_arg (wpAny_BinOp (Subscript_ (n_local F.ns mc (wpAny_BinOp (n_local F.ns mk (n_int fun _ _ => n_sub fun _ _ => ?_)))))))))))))
  rw [ek]
  refine n_item (k := k - 1) p3.isList (by simpa using ea') (by omega) (Subscript_ (n_local F.ns mc (n_local F.ns mk ?_)))
  refine n_item (k := k) p3.isList (by simpa using eb') (by omega) (n_xor fun _ _ => wpAny_items_nil ⟨F.X, ?_⟩)
  refine high_c (n := n) (ok.le (by omega)) F.X fun h₁ _ _ k₁ => ?_
  have F₁ := F.keep k₁
  have S₁ := S.keep k₁
  refine n_sub fun ul _ => n_cellset F₁.c5 rfl fun h₂ _ c₂ k₂ => ?_
  rw [hlv] at c₂
  have F₂ := F₁.set5 c₂ k₂
  have S₂ := S₁.cell F₁.c5 k₂
  have K₂ : Kp [h0.objs.size, h0.objs.size + 1 + 1 + 1 + 1 + 1, stk] h h₂ := (k₁.nil _).trans (k₂.mono fun p q => by rw [List.mem_singleton.mp q]; exact .tail _ (.head _))
  clear k₁ F₁ S₁ k₂ c₂ F S p3 i3 ea eb ea' eb'
  have hvp := S₂.P.length
  have hpos : 0 < ps.length := List.length_pos_iff.mpr hne
  refine wpAny_execs_cons (wpAny_Assign_ListComp_free (deepTest ps lv) (fun v y => y = v) rfl rfl (by decide) rfl (by decide) rfl rfl rfl ?_)
  refine wpAny_Call_NameR (name_range F₂.X (n_type (n_arg (n_int fun _ _ => n_arg (MethodCall_ (n_cell F₂.c4 rfl (m_count F₂.X S₂.I (c_count (n := n + 4) ok F₂.X S₂.I fun h₃ _ _ k₃ => wpAny_items_nil ?_))))))))
  have F₃ := F₂.keep k₃
  have S₃ := S₂.keep k₃
  have hsz : (vs.toArray.size : Int) = (ps.length : Int) := by simp [hvp]
  rw [hsz]
  have hrs : Builtin.Range.rangeSize 1 (ps.length : Int) 1 = ((ps.length - 1 : Nat) : Int) := by
    unfold Builtin.Range.rangeSize
    rw [if_pos (by decide)]
    by_cases h1 : (ps.length : Int) > 1
    · rw [if_pos (by omega)]; simp; omega
    · rw [if_neg (by omega)]; omega
  refine n_range2 (by decide) (by omega) hrs (by omega) fun H t₄ I k₄ nI hI => ?_
  have F₄ := F₃.keep k₄
  have S₄ := S₃.keep k₄
  have hIlt : I < H.objs.size := Heap.lt_size hI
  have hIL : h0.objs.size ≠ I := fun e => by obtain ⟨_, _, _, q, _⟩ := F₃.ns; rw [e] at q; rw [nI] at q; cases q
  have NKI : NK I := NK.of_none F₃.X nI
  have Ic : ∀ {a v}, h₃.IsCell a v → a ∉ [I] := fun c q => by obtain ⟨_, q', _⟩ := c; rw [List.mem_singleton.mp q, nI] at q'; cases q'
  have Is : stk ∉ [I] ∧ d ∉ [I] := by
    obtain ⟨_, _, ⟨_, q1⟩, ⟨_, _, _, _, q2⟩⟩ := S₃.I
    exact ⟨(fun q => by rw [List.mem_singleton.mp q, nI] at q1; cases q1), (fun q => by rw [List.mem_singleton.mp q, nI] at q2; cases q2)⟩
  refine ⟨I, [I], [I], ps.length - 1, _, _, _, rfl, walks_lt (Walks.range ok.hh I 1 1 (ps.length - 1)), ?_, ?_, ?_, notin1 hIL, F₄.ns, ⟨?_, ?_⟩, ?_⟩
  · rw [sizeLine_eq]; omega
  · have : ((1 : Int) + ((0 : Nat) : Int) * 1) = 1 := by omega
    rw [this, show (((ps.length - 1 : Nat) : Int) - ((0 : Nat) : Int)) = ((ps.length - 1 : Nat) : Int) by omega]
    exact hI
  · intro b hb
    rw [List.mem_singleton.mp hb]; exact hIlt
  · rintro C i v ⟨h5, g5, dr5, t5, os5⟩ m₅ E' hC hPi n5 m5 k5 _
    obtain ⟨hilt, tv, rfl⟩ : i < ps.length - 1 ∧ ∃ tv, v = .int (1 + (i : Int) * 1) tv := hPi
    dsimp only at n5 k5
    have kk : Kp [I] H h5 := fun b o hb e => k5 b o hb e
    have X5 := in_keep F₄.X kk NKI.one
    have I5 := S₄.I.kp kk Is.1 Is.2
    have c4' := IsCell.kp F₄.c4 kk (Ic F₃.c4)
    have c5' := IsCell.kp F₄.c5 kk (Ic F₃.c5)
    have P5 := S₄.P.kpo kk (fun a q => by rw [List.mem_singleton.mp q]; exact S₃.P.off (NT.none nI))
    have ei : (1 + (i : Int) * 1) = ((1 + i : Nat) : Int) := by omega
    rw [ei] at m5 ⊢
    obtain ⟨pa, ta, tb, ev, ea⟩ := P5.get (i := 1 + i) (p := ps[1 + i]'(by omega)) (by simp)
    have hpp := hpz (ps[1 + i]'(by omega)) (List.getElem_mem _)
    refine wpAny_tests_one (wpAny_isTrue_Compare1 (wpAny_Call_NameR (name_len X5 (n_bi (n_arg (Subscript_ (Subscript_ (n_cell c4' rfl (n_local n5 m5 ?_)))))))))
    refine n_accitem (k := 1 + i) (x := .ref pa) X5 I5 (by simpa using ev) (by omega) (n_int fun _ _ => n_fst ea (wpAny_items_nil (n_lens (by omega) fun _ _ => n_cell c5' rfl (n_gt (wpAny_truthy_bool ⟨?_, (Kp.refl [] h5).keeps⟩))))) ⟨_, by with_unfolding_all rfl⟩ (by intro _; with_unfolding_all rfl)
    show _ = decide _
    rw [decide_eq_decide, Int.toNat_natCast, List.getD_eq_getElem?_getD, List.getElem?_eq_getElem (by omega)]
    simp
  · rintro C i v ⟨h5, g5, dr5, t5, os5⟩ m₅ E' hC hP _ n5 m5 k5 _
    dsimp only at n5 k5
    exact n_local n5 m5 ⟨rfl, (Kp.refl [] h5).keeps⟩ rfl (lookup_relabel_local rfl) rfl
  intro D₅ h₅ t₅ ys vs' hD hl' hpl5 hlen hP hpair ns₅ k₅
  have e2 := paired_eq hpair
  have hint := deep_ints (ps := ps) (lv := lv) hlen fun j v q => (hP j v q).2
  rw [← e2] at hint
  change IntsAre _ ((deeperOf ps lv).map Int.ofNat) at hint
  have k₅' : Kp [h0.objs.size, I] H h₅ := fun b o hb e => k₅ b o (fun q => hb (by rw [q]; exact .head _)) (fun q => hb (.tail _ q)) e
  have F₅ := F₄.store2 ns₅ k₅' (F₃.old nI) (fun v c => by obtain ⟨_, q, q'⟩ := c; rw [hI] at q; cases q; cases q')
  have S₅ := S₄.store2 F₄.ns k₅' Is.1 Is.2 (NT.fields hI)
  have K₅ : Kp [h0.objs.size, h0.objs.size + 1 + 1 + 1 + 1 + 1, stk] h h₅ := by
    intro b o hb e
    have e3 := k₃ b o nomem (K₂ b o hb e)
    exact k₅' b o (in2 (fun q => hb (by rw [List.mem_singleton.mp q]; exact .head _)) fun q => by rw [List.mem_singleton.mp q, nI] at e3; cases e3) (k₄ b o nomem e3)
  clear k₅' k₅ S₄ F₄ S₃ F₃ S₂ F₂ K₂ k₃ k₄ hI nI hIlt hIL NKI Ic Is hP hpair e2 hlen
  have hf := firstDeep_le (ps := ps) (lv := lv) hne
  refine wpAny_execs_cons (wpAny_mono (Q := fun f s => f = Flow.next ∧ ∃ h' t' u, s = (⟨h', g, dr, t', os⟩ : Shared) ∧ h'.Ns h0.objs.size (fun z => if z = "first" then some (.int (firstDeep ps lv : Int) u) else if z = "deeper" then some (.ref D₅) else m z) ∧ Kp [h0.objs.size] h₅ h') ?_ (fun f s z => ?_) fun _ _ z => z)
  · refine wpAny_Assign_Name (wpAny_IfExp (wpAny_isTrue_Compare1 (n_local F₅.ns rfl ?_)))
    refine ne_nil_list (vs := ys.toList) ok (by simpa using hpl5.isList) fun h₆ k₆ => ?_
    have F₆ := F₅.keep k₆
    have S₆ := S₅.keep k₆
    rcases deeper_first (ps := ps) (lv := lv) hne with ⟨d1, d2⟩ | ⟨r, d1⟩
    · rw [d1] at hint
      have : ys.toList = [] := by cases hq' : ys.toList with
        | nil => rfl
        | cons a l => rw [hq'] at hint; cases hint
      rw [if_neg (by rw [this]; simp)]
      refine MethodCall_ (n_cell F₆.c4 rfl (m_count F₆.X S₆.I (c_count (n := n + 4) ok F₆.X S₆.I fun h₇ _ u₇ k₇ => ?_)))
      rw [d2, show (vs.toArray.size : Int) = (ps.length : Int) by simp [hvp]]
      refine n_store (F₆.keep k₇).ns fun h₈ _ ns₈ k₈ => ⟨rfl, h₈, _, u₇, rfl, ns₈, ?_⟩
      exact (((k₆.trans k₇).nil _).trans k₈)
    · rw [d1] at hint
      obtain ⟨u, l, hq'⟩ : ∃ u l, ys.toList = .int (firstDeep ps lv : Int) u :: l := by
        cases hq' : ys.toList with
        | nil => rw [hq'] at hint; cases hint
        | cons a l =>
          rw [hq'] at hint
          cases hint with
          | cons _ t _ => exact ⟨t, l, rfl⟩
      rw [if_pos (by rw [hq']; simp)]
      refine Subscript_ (n_local F₆.ns rfl (n_int fun _ _ => ?_))
      refine n_item (k := 0) (x := .int (firstDeep ps lv : Int) u) (hpl5.isList.at fun o e => k₆ _ o nomem e) (by rw [← Array.getElem?_toList, hq']; rfl) (by omega) ?_
      refine n_store F₆.ns fun h₈ _ ns₈ k₈ => ⟨rfl, h₈, _, u, rfl, ns₈, ?_⟩
      exact ((k₆.nil _).trans k₈)
  obtain ⟨rfl, h₆, t₆, u₆, rfl, ns₆, k₆⟩ := z
  have F₆ := F₅.store ns₆ k₆
  have S₆ := S₅.store F₅.ns k₆
  have K₆ := K₅.trans (k₆.mono fun p q => by rw [List.mem_singleton.mp q]; exact .head _)
  clear K₅ F₅ S₅ k₆
  have ef : (firstDeep ps lv : Int) - 1 = ((firstDeep ps lv - 1 : Nat) : Int) := by omega
  refine wpAny_execs_cons (Assign_Tuple (wpAny_Call_NameR (name_own F₆.X (own_fns _).2.2.2.1 (n_fn (keep_fns _).2.2.2.1 F₆.X (n_arg (MethodCall_ (n_cell F₆.c4 rfl (m_popfrom F₆.X S₆.I (n_fn (acc_keep _).2.1 F₆.X (n_arg (wpAny_BinOp (n_local F₆.ns rfl (n_int fun _ _ => n_sub fun _ _ => wpAny_items_nil ⟨F₆.X, ?_⟩)))))))))))))
  rw [ef]
  generalize hfd : firstDeep ps lv - 1 = fd at *
  refine pop_from_acc (n := n) (k := fd) (ok.le (by omega)) F₆.X S₆.I (by simp; omega) (by simp; omega) fun h₇ _ l₇ I₇ k₇ f₇ e₇ => ?_
  have F₇ := F₆.acc S₆ k₇
  have P₇ := S₆.P.kp k₇ (NT.acc S₆.I).one
  have S₇ : Stk h0 h₇ stk d (vs.take fd) (ps.take fd) := ⟨I₇, P₇.take fd, S₆.f1, S₆.n2⟩
  have K₇ := K₆.trans (k₇.mono fun p q => by rw [List.mem_singleton.mp q]; exact .tail _ (.tail _ (.head _)))
  refine wpAny_items_nil ⟨F₇.X, ?_⟩
  refine merged_c (n := n) (ps := ps.drop fd) (vs := vs.drop fd) (ok.le (by omega)) F₇.X e₇ (P₇.drop fd) ?_ ?_ ?_ fun h₈ _ a₈ ta tb k₈ _ e₈ => ?_
  · intro q
    have := congrArg List.length q
    rw [List.length_drop] at this
    simp at this
    omega
  · rw [List.length_drop]; omega
  · intro p q
    exact hpz p (List.mem_of_mem_drop q)
  have F₈ := F₇.keep k₈
  have S₈ := S₇.keep k₈
  generalize hmm : mergedT (ps.drop fd) = mm at e₈
  refine unpack2 ok.hh e₈ rfl rfl rfl F₈.ns fun h₉ _ ns₉ k₉ => ?_
  have F₉ := F₈.store ns₉ k₉
  have S₉ := S₈.store F₈.ns k₉
  have K₉ := (K₇.trans (k₈.nil _)).trans (k₉.mono fun p q => by rw [List.mem_singleton.mp q]; exact .head _)
  clear K₇ K₆ F₆ S₆ F₇ S₇ k₇ k₈ k₉ F₈ S₈ e₇ P₇ I₇ e₈
  refine wpAny_execs_cons (wpAny_Expr (MethodCall_ (n_cell F₉.c4 rfl (m_push F₉.X S₉.I (n_fn (acc_keep _).2.2.1 F₉.X (n_arg (n_local F₉.ns rfl (n_arg (n_local F₉.ns rfl (wpAny_items_nil ⟨F₉.X, ?_⟩))))))))))
  refine push_acc (n := n) (ok.le (by omega)) F₉.X S₉.I (by simp; omega) fun h₁₀ _ tp I₁₀ k₁₀ _ e₁₀ => ?_
  have F₁₀ := F₉.acc S₉ k₁₀
  have S₁₀ : Stk h0 h₁₀ stk d (vs.take fd ++ [.ref tp]) (ps.take fd ++ [mm]) := ⟨by simpa using I₁₀, (S₉.P.kp k₁₀ (NT.acc S₉.I).one).snoc e₁₀, S₉.f1, S₉.n2⟩
  have K₁₀ := K₉.trans (k₁₀.mono fun p q => by rw [List.mem_singleton.mp q]; exact .tail _ (.tail _ (.head _)))
  clear F₉ S₉ K₉ k₁₀ I₁₀ e₁₀
  refine wpAny_execs_cons (wpAny_Expr (MethodCall_ (n_cell F₁₀.c4 rfl (m_push F₁₀.X S₁₀.I (n_fn (acc_keep _).2.2.1 F₁₀.X (n_arg (wpAny_BinOp (n_str fun _ _ => n_cell F₁₀.c5 rfl (n_spaces (by omega) fun us _ => n_arg (Subscript_ (n_str fun _ _ => n_local F₁₀.ns mk (n_letter hk2 fun ux _ => wpAny_items_nil ⟨F₁₀.X, ?_⟩)))))))))))) 
  refine push_acc (n := n) (ok.le (by omega)) F₁₀.X S₁₀.I (by simp; omega) fun h₁₁ _ tp2 I₁₁ k₁₁ _ e₁₁ => ?_
  have F₁₁ := F₁₀.acc S₁₀ k₁₁
  have eS : stepP ps lv (letter k) = ps.take fd ++ [mm] ++ [(spaces lv, letter k)] := by unfold stepP; rw [hfd, hmm]
  have S₁₁ : Stk h0 h₁₁ stk d (vs.take fd ++ [.ref tp] ++ [.ref tp2]) (stepP ps lv (letter k)) := ⟨by simpa using I₁₁, by rw [eS]; exact (S₁₀.P.kp k₁₁ (NT.acc S₁₀.I).one).snoc e₁₁, S₁₀.f1, S₁₀.n2⟩
  have K₁₁ := K₁₀.trans (k₁₁.mono fun p q => by rw [List.mem_singleton.mp q]; exact .tail _ (.tail _ (.head _)))
  refine wpAny_execs_cons (wpAny_If (wpAny_isTrue_Compare1 (MethodCall_ (n_cell F₁₁.c4 rfl (m_count F₁₁.X S₁₁.I (c_count (n := n + 4) ok F₁₁.X S₁₁.I fun h₁₂ _ _ k₁₂ => ?_))))))
  have F₁₂ := F₁₁.keep k₁₂
  refine wpAny_BinOp (n_cell F₁₂.c5 rfl (n_int fun _ _ => n_add fun _ _ => n_gt (wpAny_truthy_bool ?_)))
  have hlen := S₁₁.P.length
  rw [if_neg (by rw [List.size_toArray, hlen]; simp; omega)]
  refine wpAny_execs_nil (wpAny_execs_nil ?_)
  exact hq h₁₂ _ _ _ _ F₁₂ (S₁₁.keep k₁₂) rfl rfl (K₁₁.trans (k₁₂.nil _))
end Mine
namespace Mine
/-- the stack behind the k-th run -/
noncomputable def stackAt (lv : Nat → Nat) : Nat → List (Str × Str)
  | 0 => [(Str.ofString "", Str.ofString "a")]
  | k + 1 => stepP (stackAt lv k) (lv (k + 1)) (letter (k + 1))
theorem stackAt_ne (lv : Nat → Nat) : ∀ k, stackAt lv k ≠ []
  | 0 => by simp [stackAt]
  | k + 1 => by simp [stackAt, stepP]
/-- the frame without the names in it -/
structure FrmC (P : Params) (h0 h : Heap) (cw cm cd cs cl : Option Value) : Prop where
  X0 : HX (hd.heap_39 P) h0
  X : HX (hd.heap_39 P) h
  k : Kp [] h0 h
  c1 : h.IsCell (h0.objs.size + 1) cw
  c2 : h.IsCell (h0.objs.size + 1 + 1) cm
  c3 : h.IsCell (h0.objs.size + 1 + 1 + 1) cd
  c4 : h.IsCell (h0.objs.size + 1 + 1 + 1 + 1) cs
  c5 : h.IsCell (h0.objs.size + 1 + 1 + 1 + 1 + 1) cl
section
variable {P : Params} {h0 h h' : Heap} {stk d I : Addr} {vs : List Value} {ps : List (Str × Str)} {m m' : Str → Option Value} {cw cm cd cs cl : Option Value}
theorem Frm.c (F : Frm P h0 h m cw cm cd cs cl) : FrmC P h0 h cw cm cd cs cl := ⟨F.X0, F.X, F.k, F.c1, F.c2, F.c3, F.c4, F.c5⟩
theorem FrmC.frm (F : FrmC P h0 h cw cm cd cs cl) (n : h.Ns h0.objs.size m) : Frm P h0 h m cw cm cd cs cl := ⟨F.X0, F.X, n, F.k, F.c1, F.c2, F.c3, F.c4, F.c5⟩
theorem FrmC.kp2 (F : FrmC P h0 h cw cm cd cs cl) (k : Kp [h0.objs.size, I] h h') (hI : h0.get? I = none) (hc : ∀ j < 5, I ≠ h0.objs.size + 1 + j) : FrmC P h0 h' cw cm cd cs cl := by
  refine ⟨F.X0, in_keep F.X k ?_, fun b o _ e => k b o ?_ (F.k b o nomem e), IsCell.kp F.c1 k (in2 (notin1 (by omega)) (notin1 (hc 0 (by decide)).symm)), IsCell.kp F.c2 k (in2 (notin1 (by omega)) (notin1 (hc 1 (by decide)).symm)), IsCell.kp F.c3 k (in2 (notin1 (by omega)) (notin1 (hc 2 (by decide)).symm)), IsCell.kp F.c4 k (in2 (notin1 (by omega)) (notin1 (hc 3 (by decide)).symm)), IsCell.kp F.c5 k (in2 (notin1 (by omega)) (notin1 (hc 4 (by decide)).symm))⟩
  · intro a q
    rcases List.mem_cons.mp q with rfl | q
    · exact NK.of_none F.X0 (new_of (Nat.le_refl _))
    · rw [List.mem_singleton.mp q]; exact NK.of_none F.X0 hI
  · refine in2 (notin1 (by have := ltOf e; omega)) fun q => ?_
    rw [List.mem_singleton.mp q, hI] at e; cases e
end
set_option maxRecDepth 100000 in
set_option maxHeartbeats 0 in
theorem law2 : ∀ {w : World} {A : Around} {n N : Nat} {h0 h : Heap} {g : Array GenState} {dr : Drawn} {t : Nat} {os : OsState} {m : Str → Option Value} {W : Int} {dp : Nat} {lv : Nat → Nat} {D1 D2 D3 : Addr} {u1 u3 : Tok} {v1 v2 v3 : List Value} {ls cs : List Int} {Q : Flow → Shared → Prop} {E : Value → Shared → Prop},
    Ok (n + 6) A → HX (hd.heap_39 w.params) h → Frm w.params h0 h m (some (.int W u1)) (some (.ref D2)) (some (.int (dp : Int) u3)) none none →
    m "lengths" = some (.ref D1) → m "cells" = some (.ref D3) → h0.get? D1 = none → h0.get? D2 = none → h0.get? D3 = none → h.PlainList D1 v1.toArray → IntsAre v1 ls → h.PlainList D2 v2.toArray → h.PlainList D3 v3.toArray → IntsAre v3 cs → ls.length = N → cs.length = N → 1 ≤ N → N ≤ 11 →
    (∀ k, 1 ≤ k → k < N → (dp : Int) - ((Builtin.Int.intBits (Builtin.bitXor (cs.getD (k - 1) 0) (cs.getD k 0)) : Int) - 1) = (lv k : Int) ∧ lv k < 60 ∧ (stackAt lv k).length ≤ lv k + 1) →
    (∀ k, k < N → (stackAt lv k).length ≤ 15 ∧ ∀ p ∈ stackAt lv k, p.1.length ≤ 100 ∧ p.2.length ≤ 1000) →
    (∀ h' t' m' stk d vs' cl', Frm w.params h0 h' m' (some (.int W u1)) (some (.ref D2)) (some (.int (dp : Int) u3)) (some (.ref stk)) cl' → Stk h0 h' stk d vs' (stackAt lv (N - 1)) → m' "lengths" = some (.ref D1) → h'.PlainList D1 v1.toArray → h'.PlainList D2 v2.toArray →
      wpAny (model PySem.Challenge.rw_rl0011_01.row.prog w) A (execs ((bodyOf (fdOf w.params 143)).drop 11) (callEnvC (fdOf w.params 143) h0.objs.size 143)) Q E ⟨h', g, dr, t', os⟩) →
    wpAny (model PySem.Challenge.rw_rl0011_01.row.prog w) A (execs ((bodyOf (fdOf w.params 143)).drop 8) (callEnvC (fdOf w.params 143) h0.objs.size 143)) Q E ⟨h, g, dr, t, os⟩ := by
  k_fill
  intro w A n N h0 h g dr t os m W dp lv D1 D2 D3 u1 u3 v1 v2 v3 ls cs Q E ok _ F mL mC fD1 fD2 fD3 p1 i1 p2 p3 i3 hls hcs hN1 hN2 hlv hst
  have turn := @turn_c w A n h0
  revert turn
  refine' open_body (P := w.params) (f := 143) ?ho fun e => ?_
  case ho => k_is
  rw [e]
  intro turn hq
  dsimp only [bodyOf, forBody, List.getD_cons_succ, List.getD_cons_zero] at turn
  dsimp only [bodyOf, List.drop_succ_cons, List.drop_zero]
  refine wpAny_execs_cons (wpAny_Assign_Name (wpAny_Call_NameR (name_own F.X (own_fns _).2.2.2.2 (callWith_K0 F.X.x (keep_fns _).2.2.2.2 ?_))))
  refine create_acc (n := n + 2) ok F.X fun h₁ _ stk d I₁ f1 f2 k₁ => ?_
  have F₁ := F.keep k₁
  have dL : d ≠ h0.objs.size := fun q => by obtain ⟨_, _, _, q', _⟩ := F.ns; rw [q] at f2; rw [f2] at q'; cases q'
  have S₁ : Stk h0 h₁ stk d [] [] := ⟨I₁, .nil, F.old f1, dL⟩
  refine n_cellset F₁.c4 rfl fun h₂ _ c₂ k₂ => ?_
  have F₂ := F₁.set4 c₂ k₂
  have S₂ := S₁.cell F₁.c4 k₂
  refine wpAny_execs_cons (wpAny_Expr (MethodCall_ (n_cell F₂.c4 rfl (m_push F₂.X S₂.I (n_fn (acc_keep _).2.2.1 F₂.X (n_arg (n_str fun _ _ => n_arg (n_str fun _ _ => wpAny_items_nil ⟨F₂.X, ?_⟩))))))))
  refine push_acc (n := n) (ok.le (by omega)) F₂.X S₂.I (by simp) fun h₃ _ tp I₃ k₃ _ e₃ => ?_
  have F₃ := F₂.acc S₂ k₃
  have S₃ : Stk h0 h₃ stk d [.ref tp] (stackAt lv 0) := ⟨by simpa using I₃, .cons e₃ .nil, S₂.f1, S₂.n2⟩
  have q1 := pl_kp (pl_kp (pl_kp p1 k₁ nomem) k₂ (pl_cell (pl_kp p1 k₁ nomem) F₁.c4)) k₃ (S₂.I.notPl (pl_kp (pl_kp p1 k₁ nomem) k₂ (pl_cell (pl_kp p1 k₁ nomem) F₁.c4)))
  have q2 := pl_kp (pl_kp (pl_kp p2 k₁ nomem) k₂ (pl_cell (pl_kp p2 k₁ nomem) F₁.c4)) k₃ (S₂.I.notPl (pl_kp (pl_kp p2 k₁ nomem) k₂ (pl_cell (pl_kp p2 k₁ nomem) F₁.c4)))
  have q3 := pl_kp (pl_kp (pl_kp p3 k₁ nomem) k₂ (pl_cell (pl_kp p3 k₁ nomem) F₁.c4)) k₃ (S₂.I.notPl (pl_kp (pl_kp p3 k₁ nomem) k₂ (pl_cell (pl_kp p3 k₁ nomem) F₁.c4)))
  clear k₁ k₂ k₃ p1 p2 p3 F F₁ F₂ S₁ S₂ I₁ I₃ e₃ c₂ f1 f2
  have hv1 := i1.length
  refine wpAny_execs_cons (wpAny_For ?_)
  refine wpAny_Call_NameR (name_range F₃.X ?_)
  refine n_type (n_arg (n_int fun _ _ => n_arg ?_))
  refine wpAny_Call_NameR (name_len F₃.X ?_)
  refine n_bi (n_arg (n_local F₃.ns mL (wpAny_items_nil (n_lenl q1.isList (by simp; omega) fun _ _ => wpAny_items_nil ?_))))
  rw [show (v1.toArray.size : Int) = (N : Int) by simp [hv1, hls]]
  have hrs : Builtin.Range.rangeSize 1 (N : Int) 1 = ((N - 1 : Nat) : Int) := by
    unfold Builtin.Range.rangeSize
    rw [if_pos (by decide)]
    by_cases h1 : (N : Int) > 1
    · rw [if_pos (by omega)]; simp; omega
    · rw [if_neg (by omega)]; omega
  refine n_range2 (by decide) (by omega) hrs (by omega) fun H t₄ I k₄ nI hI => ?_
  have F₄ := F₃.keep k₄
  have S₄ := S₃.keep k₄
  have hIL : h0.objs.size ≠ I := fun e => by obtain ⟨_, _, _, q, _⟩ := F₃.ns; rw [e] at q; rw [nI] at q; cases q
  have hI0 : h0.get? I = none := F₃.old nI
  have hIs : stk ∉ [I] ∧ d ∉ [I] := by
    obtain ⟨_, _, ⟨_, q1⟩, ⟨_, _, _, _, q2⟩⟩ := S₃.I
    exact ⟨(fun q => by rw [List.mem_singleton.mp q, nI] at q1; cases q1), (fun q => by rw [List.mem_singleton.mp q, nI] at q2; cases q2)⟩
  have hIpl : ∀ {D x}, h₃.PlainList D x → D ∉ [I] := fun p q => by obtain ⟨_, p⟩ := p; rw [List.mem_singleton.mp q, nI] at p; cases p
  have hIc : ∀ {a v}, h₃.IsCell a v → I ≠ a := fun c q => by obtain ⟨_, q', _⟩ := c; rw [← q, nI] at q'; cases q'
  have sL : stk ∉ [h0.objs.size] := fun q => S₃.notNs m (by rw [List.mem_singleton.mp q]; exact F₃.ns)
  have a1 : D1 ∉ [h0.objs.size, I] := in2 (pl_ns q1 F₃.ns) (hIpl q1)
  have a2 : D2 ∉ [h0.objs.size, I] := in2 (pl_ns q2 F₃.ns) (hIpl q2)
  have a3 : D3 ∉ [h0.objs.size, I] := in2 (pl_ns q3 F₃.ns) (hIpl q3)
  have hIj : ∀ j < 5, I ≠ h0.objs.size + 1 + j := fun j hj => by
    match j, hj with
    | 0, _ => exact hIc F₃.c1
    | 1, _ => exact hIc F₃.c2
    | 2, _ => exact hIc F₃.c3
    | 3, _ => exact hIc F₃.c4
    | 4, _ => exact hIc F₃.c5
  refine forWalk (Walks.range ok.hh I 1 1 (N - 1)) rfl rfl (show h0.objs.size ∉ [I] from notin1 hIL) (fun i m' hh => ∃ vs cl, FrmC w.params h0 hh (some (.int W u1)) (some (.ref D2)) (some (.int (dp : Int) u3)) (some (.ref stk)) cl ∧ IsAcc hh stk d vs.toArray ∧ Pieces hh vs (stackAt lv i) ∧ Value.ref h0.objs.size ∉ vs ∧ Value.ref I ∉ vs ∧ m' "lengths" = some (.ref D1) ∧ m' "cells" = some (.ref D3) ∧ hh.PlainList D1 v1.toArray ∧ hh.PlainList D2 v2.toArray ∧ hh.PlainList D3 v3.toArray) ?_ ?_ ?_ F₄.ns ?_ ?_
  · rintro i m' ha hb k ⟨vs, cl, x1, x2, x3, x4, x5, x6, x7, x8, x9, x10⟩
    change Kp [h0.objs.size, I] ha hb at k
    refine ⟨vs, cl, x1.kp2 k hI0 hIj, x2.kp k (in2 sL hIs.1) (in2 (notin1 dL) hIs.2), x3.kpo k ?_, x4, x5, x6, x7, pl_kp x8 k a1, pl_kp x9 k a2, pl_kp x10 k a3⟩
    intro a q
    rcases List.mem_cons.mp q with rfl | q
    · exact x4
    · rw [List.mem_singleton.mp q]; exact x5
  · exact ⟨_, _, F₄.c, S₄.I, S₄.P, S₄.P.off (NT.ns F₄.ns), S₄.P.off (NT.fields hI), mL, mC, pl_kp q1 k₄ nomem, pl_kp q2 k₄ nomem, pl_kp q3 k₄ nomem⟩
  · have : ((1 : Int) + ((0 : Nat) : Int) * 1) = 1 := by omega
    rw [this, show (((N - 1 : Nat) : Int) - ((0 : Nat) : Int)) = ((N - 1 : Nat) : Int) by omega]
    exact hI
  · rintro i v m' hh tt hi ⟨tv, rfl⟩ ⟨vs, cl, x1, x2, x3, x4, x5, x6, x7, x8, x9, x10⟩ ns st
    change hh.Ns h0.objs.size _ at ns
    have ei : (1 + (i : Int) * 1) = ((i + 1 : Nat) : Int) := by omega
    rw [ei] at ns
    obtain ⟨l1, l2, l3⟩ := hlv (i + 1) (by omega) (by omega)
    obtain ⟨l4, l5⟩ := hst i (by omega)
    have S : Stk h0 hh stk d vs (stackAt lv i) := ⟨x2, x3, S₃.f1, dL⟩
    have F := x1.frm ns
    refine turn (k := i + 1) (lv := lv (i + 1)) (a := cs.getD i 0) (b := cs.getD (i + 1) 0) ok x1.X F S (stackAt_ne _ _) l4 l5 rfl x7 x10 i3 (by omega) (by omega) ?_ ?_ l1 l2 l3 ?_
    · show cs[i]? = _
      rw [List.getD_eq_getElem?_getD, List.getElem?_eq_getElem (by omega)]; rfl
    · rw [List.getD_eq_getElem?_getD, List.getElem?_eq_getElem (by omega)]; rfl
    intro h' t' m'' vs' cl' F' S' e1 e2 k'
    have kI : I ∉ [h0.objs.size, h0.objs.size + 1 + 1 + 1 + 1 + 1, stk] := fun q => by
      rcases List.mem_cons.mp q with q | q
      · exact hIL q.symm
      · rcases List.mem_cons.mp q with q | q
        · exact hIc F₃.c5 q
        · exact hIs.1 (by rw [List.mem_singleton.mp q]; exact .head _)
    have kP : ∀ {D x}, hh.PlainList D x → D ∉ [h0.objs.size, h0.objs.size + 1 + 1 + 1 + 1 + 1, stk] := fun p q => by
      rcases List.mem_cons.mp q with q | q
      · exact pl_ns p ns (by rw [q]; exact .head _)
      · rcases List.mem_cons.mp q with q | q
        · exact pl_cell p F.c5 (by rw [q]; exact .head _)
        · exact S.I.notPl p q
    refine .inl ⟨rfl, h', t', m'', _, rfl, F'.ns, ⟨vs', cl', F'.c, S'.I, S'.P, S'.P.off (NT.ns F'.ns), S'.P.off (NT.fields (k' _ _ kI st)), ?_, ?_, pl_kp x8 k' (kP x8), pl_kp x9 k' (kP x9), pl_kp x10 k' (kP x10)⟩, k', ?_⟩
    · rw [e1]; exact x6
    · rw [e2]; exact x7
    · intro b hb
      rw [List.mem_singleton.mp hb]; exact kI
  · rintro m' hh tt ⟨vs, cl, x1, x2, x3, x4, x5, x6, x7, x8, x9, x10⟩ ns
    exact hq hh _ m' stk d vs cl (x1.frm ns) ⟨x2, x3, S₃.f1, dL⟩ x6 x8 x9
end Mine
namespace Mine
/-- the tree of the runs i to k by the levels of the borders (border m: ahead of run m) -/
inductive TT (lv : Nat → Nat) : Nat → Nat → Str → Prop
  | leaf (i : Nat) : TT lv i i (letter i)
  | node {i j k : Nat} {a b : Str} : TT lv i j a → TT lv (j + 1) k b → (∀ m, i < m → m ≤ j → lv (j + 1) < lv m) → (∀ m, j + 1 < m → m ≤ k → lv (j + 1) < lv m) → TT lv i k (nodeT a (lv (j + 1)) b)
theorem TT.le {lv : Nat → Nat} {i k : Nat} {s : Str} (h : TT lv i k s) : i ≤ k := by
  induction h with
  | leaf => exact Nat.le_refl _
  | node _ _ _ _ h1 h2 => omega
theorem TT.unique {lv : Nat → Nat} {i k : Nat} {s : Str} (h : TT lv i k s) : ∀ {s' : Str}, TT lv i k s' → s = s' := by
  induction h with
  | leaf i =>
    intro s' h'
    cases h' with
    | leaf => rfl
    | node h1 h2 _ _ =>
      have := h1.le
      have := h2.le
      omega
  | @node i j k a b h1 h2 l r ih1 ih2 =>
    intro s' h'
    cases h' with
    | leaf =>
      have := h1.le
      have := h2.le
      omega
    | @node _ j' _ a' b' h1' h2' l' r' =>
      have e1 := h1.le
      have e2 := h2.le
      have e3 := h1'.le
      have e4 := h2'.le
      by_cases hj : j = j'
      · subst hj
        rw [ih1 h1', ih2 h2']
      · rcases Nat.lt_or_gt_of_ne hj with hj | hj
        · have x := r (j' + 1) (by omega) (by omega)
          have y := l' (j + 1) (by omega) (by omega)
          omega
        · have x := l (j' + 1) (by omega) (by omega)
          have y := r' (j + 1) (by omega) (by omega)
          omega
theorem letter_len (k : Nat) : (letter k).length = 1 := rfl
theorem TT.len {lv : Nat → Nat} {i k : Nat} {s : Str} (h : TT lv i k s) (hl : ∀ m, i < m → m ≤ k → lv m ≤ 20) : s.length + 24 ≤ 25 * (k + 1 - i) := by
  induction h with
  | leaf i => rw [letter_len]; omega
  | @node i j k a b h1 h2 l r ih1 ih2 =>
    have e1 := h1.le
    have e2 := h2.le
    have := nodeT_len a (lv (j + 1)) b
    have := hl (j + 1) (by omega) (by omega)
    have := ih1 fun m a b => hl m (by omega) (by omega)
    have := ih2 fun m a b => hl m (by omega) (by omega)
    omega
/-- the pieces on the stack: the runs i to k, the first one's lead l -/
inductive Chn (lv : Nat → Nat) : Nat → Nat → Nat → List (Str × Str) → Prop
  | one {i l : Nat} {p : Str × Str} : p.2 = letter i → p.1.length = l → Chn lv i i l [p]
  | cons {i j k l : Nat} {p : Str × Str} {r : List (Str × Str)} : TT lv i j p.2 → p.1.length = l → l < lv (j + 1) → (∀ m, i < m → m ≤ j → lv (j + 1) < lv m) → Chn lv (j + 1) k (lv (j + 1)) r → Chn lv i k l (p :: r)
section
variable {lv : Nat → Nat} {i k l : Nat} {ps : List (Str × Str)}
theorem Chn.le (h : Chn lv i k l ps) : i ≤ k := by
  induction h with
  | one => exact Nat.le_refl _
  | cons h _ _ _ _ ih => have := h.le; omega
theorem Chn.head (h : Chn lv i k l ps) : ∃ p r, ps = p :: r ∧ p.1.length = l := by
  cases h with
  | one _ h => exact ⟨_, _, rfl, h⟩
  | cons _ h _ _ _ => exact ⟨_, _, rfl, h⟩
theorem Chn.merged (h : Chn lv i k l ps) : TT lv i k (mergedT ps).2 ∧ (mergedT ps).1.length = l ∧ ∀ m, i < m → m ≤ k → l < lv m := by
  induction h with
  | @one i l p h1 h2 =>
    refine ⟨?_, h2, fun m a b => by omega⟩
    show TT lv i i p.2
    rw [h1]; exact .leaf i
  | @cons i j k l p r h1 h2 h3 h4 h5 ih =>
    obtain ⟨q, r', rfl, _⟩ := h5.head
    obtain ⟨t1, t2, t3⟩ := ih
    refine ⟨?_, h2, fun m a b => ?_⟩
    · show TT lv i k (nodeT p.2 (mergedT (q :: r')).1.length (mergedT (q :: r')).2)
      rw [t2]
      exact .node h1 t1 h4 t3
    · rcases Nat.lt_trichotomy m (j + 1) with c | c | c
      · have := h4 m a (by omega); omega
      · rw [c]; exact h3
      · have := t3 m c b; omega
theorem stepP_one (p : Str × Str) (n : Nat) (x : Str) : stepP [p] n x = [p, (spaces n, x)] := rfl
theorem stepP_deep {p q : Str × Str} {r : List (Str × Str)} {n : Nat} {x : Str} (h : n < q.1.length) : stepP (p :: q :: r) n x = [mergedT (p :: q :: r), (spaces n, x)] := by
  unfold stepP firstDeep
  rw [List.tail_cons, List.findIdx_cons, decide_eq_true h]
  rfl
theorem stepP_skip {p q : Str × Str} {r : List (Str × Str)} {n : Nat} {x : Str} (h : ¬ n < q.1.length) : stepP (p :: q :: r) n x = p :: stepP (q :: r) n x := by
  unfold stepP firstDeep
  rw [List.tail_cons, List.findIdx_cons, decide_eq_false h, List.tail_cons]
  simp only [cond_false]
  rw [show 1 + (List.findIdx (fun p : Str × Str => decide (n < p.1.length)) r + 1) - 1 = (List.findIdx (fun p : Str × Str => decide (n < p.1.length)) r) + 1 by omega, show 1 + List.findIdx (fun p : Str × Str => decide (n < p.1.length)) r - 1 = List.findIdx (fun p : Str × Str => decide (n < p.1.length)) r by omega]
  rfl
theorem Chn.step (h : Chn lv i k l ps) (hl : l < lv (k + 1)) (hs : lv (k + 1) < 64) (hP : ∀ m, i < m → m ≤ k → lv m = lv (k + 1) → ∃ q, m < q ∧ q ≤ k ∧ lv q < lv m) :
    Chn lv i (k + 1) l (stepP ps (lv (k + 1)) (letter (k + 1))) := by
  induction h with
  | @one i l p h1 h2 =>
    rw [stepP_one]
    refine .cons (by rw [h1]; exact .leaf i) h2 hl (fun m a b => by omega) (.one rfl (spaces_len _ hs))
  | @cons i j k l p r h1 h2 h3 h4 h5 ih =>
    have M := h5.merged
    have e1 := h1.le
    have e2 := h5.le
    obtain ⟨q, r', rfl, hq⟩ := h5.head
    by_cases hd : lv (k + 1) < q.1.length
    · rw [stepP_deep hd]
      have MM := (Chn.cons h1 h2 h3 h4 h5).merged
      refine .cons MM.1 MM.2.1 hl (fun m a b => ?_) (.one rfl (spaces_len _ hs))
      rw [hq] at hd
      rcases Nat.lt_trichotomy m (j + 1) with c | c | c
      · have := h4 m a (by omega); omega
      · rw [c]; exact hd
      · have := M.2.2 m c b; omega
    · rw [stepP_skip hd]
      rw [hq] at hd
      have hne : lv (j + 1) ≠ lv (k + 1) := fun e => by
        obtain ⟨q', a, b, c⟩ := hP (j + 1) (by omega) (by omega) e
        have := M.2.2 q' a b
        omega
      exact .cons h1 h2 h3 h4 (ih (by omega) hs fun m a b c => hP m (by omega) b c)
theorem Chn.length (h : Chn lv i k l ps) : ps.length + l ≤ (if i = k then l else lv k) + 1 := by
  induction h with
  | one h1 h2 => simp; omega
  | @cons i j k l p r h1 h2 h3 h4 h5 ih =>
    have e1 := h1.le
    have e2 := h5.le
    rw [if_neg (by omega)]
    rw [List.length_cons]
    by_cases c : j + 1 = k
    · subst c
      rw [if_pos rfl] at ih
      omega
    · rw [if_neg c] at ih
      omega
theorem Chn.small (h : Chn lv i k l ps) (hl : ∀ m, i < m → m ≤ k → lv m ≤ 20) (h0 : l ≤ 20) (hk : k ≤ 20) : ∀ p ∈ ps, p.1.length ≤ 100 ∧ p.2.length ≤ 1000 := by
  induction h with
  | one h1 h2 =>
    intro p hp
    rw [List.mem_singleton.mp hp, h1, h2, letter_len]
    omega
  | @cons i j k l p r h1 h2 h3 h4 h5 ih =>
    have e1 := h1.le
    have e2 := h5.le
    intro x hx
    rcases List.mem_cons.mp hx with rfl | hx
    · have := h1.len fun m a b => hl m a (by omega)
      omega
    · exact ih (fun m a b => hl m (by omega) b) (hl _ (by omega) (by omega)) hk x hx
end
theorem stackAt_chn {lv : Nat → Nat} : ∀ k, (∀ m, 1 ≤ m → m ≤ k → 1 ≤ lv m ∧ lv m < 64) → (∀ m n, 1 ≤ m → m < n → n ≤ k → lv m = lv n → ∃ q, m < q ∧ q < n ∧ lv q < lv m) → Chn lv 0 k 0 (stackAt lv k)
  | 0, _, _ => .one (by decide +kernel) (by decide +kernel)
  | k + 1, h1, h2 => by
    have ih := stackAt_chn k (fun m a b => h1 m a (by omega)) fun m n a b c e => h2 m n a b (by omega) e
    have := h1 (k + 1) (by omega) (by omega)
    refine ih.step (by omega) this.2 fun m a b e => ?_
    obtain ⟨q, x, y, z⟩ := h2 m (k + 1) (by omega) (by omega) (by omega) e
    exact ⟨q, x, by omega, z⟩
end Mine
namespace Mine
/-- the part of the l-th halving in which a middle lies -/
def pre (W : Nat) (mid : Nat → Nat) (l j : Nat) : Nat := mid j * 2 ^ l / (2 * W)
def lvOf (D : Nat) (W : Nat) (mid : Nat → Nat) (k : Nat) : Nat := D - (pre W mid D (k - 1) ^^^ pre W mid D k).log2
section
variable {W D N : Nat} {mid : Nat → Nat}
theorem pre_half (l j : Nat) : pre W mid (l + 1) j / 2 = pre W mid l j := by
  unfold pre
  rw [Nat.div_div_eq_div_mul, Nat.pow_succ, ← Nat.mul_assoc, Nat.mul_div_mul_right _ _ (by decide)]
theorem pre_shift (l j : Nat) : ∀ d, pre W mid (l + d) j / 2 ^ d = pre W mid l j
  | 0 => by simp
  | d + 1 => by
    rw [Nat.pow_succ, Nat.mul_comm, ← Nat.div_div_eq_div_mul, ← Nat.add_assoc, pre_half, pre_shift l j d]
theorem pre_mono (l : Nat) {a b : Nat} (h : mid a ≤ mid b) : pre W mid l a ≤ pre W mid l b := Nat.div_le_div_right (Nat.mul_le_mul_right _ h)
theorem pre_strict {a b : Nat} (hW : 0 < W) (hD : W ≤ 2 ^ D) (h : mid a + 2 ≤ mid b) : pre W mid D a < pre W mid D b := by
  unfold pre
  rw [Nat.lt_iff_add_one_le, Nat.le_div_iff_mul_le (by omega)]
  have h1 : mid a * 2 ^ D / (2 * W) * (2 * W) ≤ mid a * 2 ^ D := Nat.div_mul_le_self _ _
  have h2 : (mid a + 2) * 2 ^ D ≤ mid b * 2 ^ D := Nat.mul_le_mul_right _ h
  have h3 : (mid a * 2 ^ D / (2 * W) + 1) * (2 * W) = mid a * 2 ^ D / (2 * W) * (2 * W) + 2 * W := by rw [Nat.add_mul, Nat.one_mul]
  have h4 : (mid a + 2) * 2 ^ D = mid a * 2 ^ D + 2 * 2 ^ D := by rw [Nat.add_mul]
  omega
theorem pre_zero {a : Nat} (h : mid a < 2 * W) : pre W mid 0 a = 0 := by
  unfold pre
  rw [Nat.pow_zero, Nat.mul_one, Nat.div_eq_of_lt h]
theorem pre_lt {a : Nat} (h : mid a < 2 * W) : pre W mid D a < 2 ^ D := by
  unfold pre
  rw [Nat.div_lt_iff_lt_mul (by omega), Nat.mul_comm]
  exact Nat.mul_lt_mul_of_pos_left h (Nat.pow_pos (by decide))
theorem xor_div {a b d : Nat} : a / 2 ^ d = b / 2 ^ d ↔ a ^^^ b < 2 ^ d := by
  rw [← Nat.shiftRight_eq_div_pow, ← Nat.shiftRight_eq_div_pow]
  have h : (a ^^^ b) >>> d = a >>> d ^^^ b >>> d := Nat.shiftRight_xor_distrib
  have h0 : a ^^^ b < 2 ^ d ↔ (a ^^^ b) >>> d = 0 := by
    rw [Nat.shiftRight_eq_div_pow, Nat.div_eq_zero_iff]
    have : 0 < 2 ^ d := Nat.pow_pos (by decide)
    omega
  rw [h0, h]
  constructor
  · intro e; rw [e, Nat.xor_self]
  · intro e
    have : (a >>> d ^^^ b >>> d) ^^^ b >>> d = 0 ^^^ b >>> d := by rw [e]
    rw [Nat.xor_assoc, Nat.xor_self, Nat.xor_zero, Nat.zero_xor] at this
    exact this
/-- what the levels are -/
structure Lev (W D N : Nat) (mid lv : Nat → Nat) : Prop where
  W0 : 0 < W
  inc : ∀ j, j + 1 < N → mid j + 2 ≤ mid (j + 1)
  top : ∀ j, j < N → mid j < 2 * W
  fit : W ≤ 2 ^ D
  one : ∀ m, 1 ≤ m → m < N → 1 ≤ lv m ∧ lv m ≤ D
  eq : ∀ m, 1 ≤ m → m < N → ∀ l, l ≤ D → (pre W mid l (m - 1) = pre W mid l m ↔ l < lv m)
theorem lev_of (W0 : 0 < W) (inc : ∀ j, j + 1 < N → mid j + 2 ≤ mid (j + 1)) (top : ∀ j, j < N → mid j < 2 * W) (fit : W ≤ 2 ^ D) : Lev W D N mid (lvOf D W mid) := by
  have key : ∀ m, 1 ≤ m → m < N → (pre W mid D (m - 1) ^^^ pre W mid D m) ≠ 0 ∧ (pre W mid D (m - 1) ^^^ pre W mid D m).log2 < D := fun m h1 h2 => by
    have h3 := inc (m - 1) (by omega)
    rw [show m - 1 + 1 = m by omega] at h3
    have h4 := pre_strict W0 fit h3
    have hx : pre W mid D (m - 1) ^^^ pre W mid D m < 2 ^ D := Nat.xor_lt_two_pow (pre_lt (top _ (by omega))) (pre_lt (top _ h2))
    have h0 : pre W mid D (m - 1) ^^^ pre W mid D m ≠ 0 := fun e => by
      have := (xor_div (a := pre W mid D (m - 1)) (b := pre W mid D m) (d := 0)).mpr (by rw [e]; decide)
      simp at this
      omega
    exact ⟨h0, (Nat.log2_lt h0).mpr hx⟩
  refine ⟨W0, inc, top, fit, fun m h1 h2 => ?_, fun m h1 h2 l hl => ?_⟩
  · have := (key m h1 h2).2
    unfold lvOf
    omega
  · obtain ⟨k1, k2⟩ := key m h1 h2
    have e1 := pre_shift (W := W) (mid := mid) l (m - 1) (D - l)
    have e2 := pre_shift (W := W) (mid := mid) l m (D - l)
    rw [show l + (D - l) = D by omega] at e1 e2
    rw [← e1, ← e2, xor_div, ← Nat.log2_lt k1]
    unfold lvOf
    omega
variable {lv : Nat → Nat}
theorem Lev.mono (L : Lev W D N mid lv) {a : Nat} : ∀ {b : Nat}, a ≤ b → b < N → mid a ≤ mid b
  | 0, h, _ => by
    have : a = 0 := by omega
    rw [this]; exact Nat.le_refl _
  | b + 1, h, hb => by
    by_cases e : a = b + 1
    · rw [e]; exact Nat.le_refl _
    · have := L.mono (a := a) (b := b) (by omega) (by omega)
      have := L.inc b hb
      omega
/-- a stretch without a border of a low level lies in one part -/
theorem Lev.const (L : Lev W D N mid lv) {l : Nat} (hl : l ≤ D) {a : Nat} : ∀ {b : Nat}, a ≤ b → b < N → (∀ m, a < m → m ≤ b → l < lv m) → pre W mid l a = pre W mid l b
  | 0, h, _, _ => by
    have : a = 0 := by omega
    rw [this]
  | b + 1, h, hb, hm => by
    by_cases e : a = b + 1
    · rw [e]
    · rw [L.const hl (a := a) (b := b) (by omega) (by omega) fun m x y => hm m x (by omega)]
      exact (L.eq (b + 1) (by omega) hb l hl).mpr (hm (b + 1) (by omega) (by omega))
theorem Lev.between (L : Lev W D N mid lv) {a b : Nat} (ha : 1 ≤ a) (hab : a < b) (hb : b < N) (e : lv a = lv b) : ∃ q, a < q ∧ q < b ∧ lv q < lv a := by
  refine Classical.byContradiction fun hc => ?_
  have hc' : ∀ m, a < m → m < b → lv a ≤ lv m := fun m x y => Nat.le_of_not_lt fun z => hc ⟨m, x, y, z⟩
  obtain ⟨o1, o2⟩ := L.one a ha (by omega)
  have c := L.const (l := lv a - 1) (by omega) (a := a - 1) (b := b) (by omega) hb fun m x y => by
    by_cases e1 : m = a
    · rw [e1]; omega
    · by_cases e2 : m = b
      · rw [e2]; omega
      · have := hc' m (by omega) (by omega); omega
  have s1 : pre W mid (lv a) (a - 1) ≠ pre W mid (lv a) a := fun q => by
    have := (L.eq a ha (by omega) (lv a) o2).mp q; omega
  have s2 : pre W mid (lv a) (b - 1) ≠ pre W mid (lv a) b := fun q => by
    have := (L.eq b (by omega) hb (lv a) o2).mp q; omega
  have m1 := pre_mono (W := W) (lv a) (L.mono (a := a - 1) (b := a) (by omega) (by omega))
  have m2 := pre_mono (W := W) (lv a) (L.mono (a := a) (b := b - 1) (by omega) (by omega))
  have m3 := pre_mono (W := W) (lv a) (L.mono (a := b - 1) (b := b) (by omega) (by omega))
  have h1 := pre_half (W := W) (mid := mid) (lv a - 1) (a - 1)
  have h2 := pre_half (W := W) (mid := mid) (lv a - 1) b
  rw [show lv a - 1 + 1 = lv a by omega] at h1 h2
  omega
theorem Lev.stack (L : Lev W D N mid lv) (hD : D ≤ 15) {k : Nat} (hk : k < N) : Chn lv 0 k 0 (stackAt lv k) :=
  stackAt_chn k (fun m a b => by have := L.one m a (by omega); omega) fun m n a b c e => L.between a b (by omega) e
def seg (g : Nat → Int × Str) (i n : Nat) : List (Int × Str) := (List.range' i n).map g
theorem seg_split {g : Nat → Int × Str} {c : Int} : ∀ n i, (∀ j, i ≤ j → j + 1 < i + n → (g (j + 1)).1 < c → (g j).1 < c) → ∃ m, m ≤ n ∧ (∀ j, i ≤ j → j < i + m → (g j).1 < c) ∧ (∀ j, i + m ≤ j → j < i + n → ¬ (g j).1 < c) ∧
    (seg g i n).filter (fun r => decide (r.1 < c)) = seg g i m ∧ (seg g i n).filter (fun r => decide (r.1 ≥ c)) = seg g (i + m) (n - m)
  | 0, i, _ => ⟨0, Nat.le_refl _, fun j a b => by omega, fun j a b => by omega, rfl, rfl⟩
  | n + 1, i, h => by
    obtain ⟨m, h1, h2, h3, h4, h5⟩ := seg_split (g := g) (c := c) n (i + 1) fun j a b => h j (by omega) (by omega)
    have e : seg g i (n + 1) = g i :: seg g (i + 1) n := by unfold seg; rw [List.range'_succ, List.map_cons]
    by_cases hi : (g i).1 < c
    · refine ⟨m + 1, by omega, fun j a b => ?_, fun j a b => h3 j (by omega) (by omega), ?_, ?_⟩
      · by_cases ej : j = i
        · rw [ej]; exact hi
        · exact h2 j (by omega) (by omega)
      · rw [e, List.filter_cons_of_pos (by simpa using hi), h4]
        unfold seg; rw [List.range'_succ, List.map_cons]
      · rw [e, List.filter_cons_of_neg (by simpa using hi), h5]
        rw [show i + 1 + m = i + (m + 1) by omega, show n + 1 - (m + 1) = n - m by omega]
    · have hm : m = 0 := by
        rcases Nat.eq_zero_or_pos m with q | q
        · exact q
        · exact absurd (h i (Nat.le_refl _) (by omega) (h2 (i + 1) (by omega) (by omega))) hi
      subst hm
      refine ⟨0, by omega, fun j a b => by omega, fun j a b => ?_, ?_, ?_⟩
      · by_cases ej : j = i
        · rw [ej]; exact hi
        · exact h3 j (by omega) (by omega)
      · rw [e, List.filter_cons_of_neg (by simpa using hi), h4]; rfl
      · rw [e, List.filter_cons_of_pos (by simp; omega), h5]
        unfold seg
        simp only [Nat.add_zero, Nat.sub_zero, List.range'_succ, List.map_cons]
theorem seg_nil {g : Nat → Int × Str} {i n : Nat} : seg g i n = [] ↔ n = 0 := by
  unfold seg
  simp
theorem seg_len {g : Nat → Int × Str} {i n : Nat} : (seg g i n).length = n := by
  unfold seg
  simp
/-- the cut and the part -/
theorem cut_iff {l p j : Nat} (h1 : 1 ≤ l) (h2 : l ≤ 13) (hW : 0 < W) : (4096 * (mid j : Int) < ((p * (W * 2 ^ (14 - l)) + W * 2 ^ (13 - l) : Nat) : Int)) ↔ pre W mid l j < 2 * p + 1 := by
  unfold pre
  rw [Nat.div_lt_iff_lt_mul (by omega)]
  have e : (4096 * (mid j : Int) < ((p * (W * 2 ^ (14 - l)) + W * 2 ^ (13 - l) : Nat) : Int)) ↔ 4096 * mid j < p * (W * 2 ^ (14 - l)) + W * 2 ^ (13 - l) := by omega
  rw [e]
  have e1 : p * (W * 2 ^ (14 - l)) + W * 2 ^ (13 - l) = ((2 * p + 1) * W) * 2 ^ (13 - l) := by
    rw [show 14 - l = 13 - l + 1 by omega, Nat.pow_succ, Nat.add_mul, Nat.add_mul]
    congr 1
    · rw [← Nat.mul_assoc, ← Nat.mul_assoc, Nat.mul_comm (p * W * 2 ^ (13 - l)) 2, ← Nat.mul_assoc, ← Nat.mul_assoc]
    · rw [Nat.one_mul]
  have e2 : 4096 * mid j = (mid j * 2 ^ (l - 1)) * 2 ^ (13 - l) := by
    rw [Nat.mul_assoc, ← Nat.pow_add, show l - 1 + (13 - l) = 12 by omega, Nat.mul_comm]
  have e3 : mid j * 2 ^ l = 2 * (mid j * 2 ^ (l - 1)) := by
    rw [show l = l - 1 + 1 by omega, Nat.pow_succ, Nat.add_sub_cancel, ← Nat.mul_assoc, Nat.mul_comm]
  have e4 : (2 * p + 1) * (2 * W) = 2 * ((2 * p + 1) * W) := by rw [Nat.mul_left_comm]
  rw [e1, e2, e3, e4, Nat.mul_lt_mul_right (Nat.pow_pos (by decide))]
  omega
theorem Lev.halved (L : Lev W D N mid lv) (hD : D ≤ 13) {g : Nat → Int × Str} (hg : ∀ j, g j = (4096 * (mid j : Int), letter j)) : ∀ (f l i n p : Nat), 1 ≤ l → l ≤ D + 1 → D + 2 ≤ f + l → 1 ≤ n → i + n ≤ N → (∀ j, i ≤ j → j < i + n → pre W mid (l - 1) j = p) →
    ∃ s, halvedO f (seg g i n) ((p * (W * 2 ^ (14 - l)) : Nat) : Int) ((W * 2 ^ (14 - l) : Nat) : Int) l = some s ∧ TT lv i (i + n - 1) s
  | 0, l, i, n, p, h1, h2, h3, _, _, _ => by omega
  | f + 1, l, i, n, p, h1, h2, h3, h4, h5, hp => by
    by_cases hn : n = 1
    · subst hn
      have e : seg g i 1 = [g i] := rfl
      rw [e, halvedO_one, hg]
      exact ⟨_, rfl, .leaf i⟩
    · have hlD : l ≤ D := by
        refine Nat.le_of_lt_succ (Nat.lt_of_le_of_ne h2 fun e => ?_)
        have x := hp i (by omega) (by omega)
        have y := hp (i + 1) (by omega) (by omega)
        rw [e, Nat.succ_sub_one] at x y
        have := pre_strict L.W0 L.fit (L.inc i (by omega))
        omega
      rw [halvedO_many (by rw [seg_len]; exact hn)]
      have es : ((W * 2 ^ (14 - l) : Nat) : Int).fdiv 2 = ((W * 2 ^ (14 - (l + 1)) : Nat) : Int) := by
        rw [show 14 - l = 14 - (l + 1) + 1 by omega, Nat.pow_succ, ← Nat.mul_assoc]
        rw [Int.fdiv_eq_ediv_of_nonneg _ (by decide)]
        omega
      have e13 : 14 - (l + 1) = 13 - l := by omega
      have ec : ((p * (W * 2 ^ (14 - l)) : Nat) : Int) + ((W * 2 ^ (14 - (l + 1)) : Nat) : Int) = ((p * (W * 2 ^ (14 - l)) + W * 2 ^ (13 - l) : Nat) : Int) := by rw [e13]; omega
      have ed : p * (W * 2 ^ (14 - l)) = (2 * p) * (W * 2 ^ (14 - (l + 1))) := by
        rw [show 14 - l = 14 - (l + 1) + 1 by omega, Nat.pow_succ, ← Nat.mul_assoc W, Nat.mul_comm (W * 2 ^ (14 - (l + 1))) 2, ← Nat.mul_assoc, Nat.mul_comm p 2]
      have eu : p * (W * 2 ^ (14 - l)) + W * 2 ^ (13 - l) = (2 * p + 1) * (W * 2 ^ (14 - (l + 1))) := by
        rw [ed, e13, Nat.add_mul, Nat.one_mul]
      have hlow : ∀ j, ((g j).1 < ((p * (W * 2 ^ (14 - l)) + W * 2 ^ (13 - l) : Nat) : Int)) ↔ pre W mid l j < 2 * p + 1 := fun j => by
        rw [hg]; exact cut_iff h1 (by omega) L.W0
      have hhalf : ∀ j, i ≤ j → j < i + n → pre W mid l j / 2 = p := fun j a b => by
        have e := pre_half (W := W) (mid := mid) (l - 1) j
        rw [show l - 1 + 1 = l by omega] at e
        rw [e]; exact hp j a b
      rw [es, ec]
      obtain ⟨m, m1, m2, m3, m4, m5⟩ := seg_split (g := g) (c := ((p * (W * 2 ^ (14 - l)) + W * 2 ^ (13 - l) : Nat) : Int)) n i fun j a b c => by
        rw [hlow] at c ⊢
        have := pre_mono (W := W) l (L.mono (a := j) (b := j + 1) (by omega) (by omega))
        omega
      rw [m4, m5]
      simp only [seg_nil]
      have q2 : ∀ j, i ≤ j → j < i + m → pre W mid l j = 2 * p := fun j a b => by
        have := (hlow j).mp (m2 j a b)
        have := hhalf j a (by omega)
        omega
      have q3 : ∀ j, i + m ≤ j → j < i + n → pre W mid l j = 2 * p + 1 := fun j a b => by
        have c : ¬ pre W mid l j < 2 * p + 1 := fun c => m3 j a b ((hlow j).mpr c)
        have := hhalf j (by omega) b
        omega
      by_cases c0 : m = 0
      · rw [if_pos c0]
        subst c0
        rw [eu, Nat.add_zero, Nat.sub_zero]
        exact L.halved hD hg f (l + 1) i n (2 * p + 1) (by omega) (by omega) (by omega) h4 h5 fun j a b => by rw [Nat.add_sub_cancel]; exact q3 j (by omega) b
      · rw [if_neg c0]
        by_cases c1 : n - m = 0
        · rw [if_pos c1]
          have : m = n := by omega
          subst this
          rw [ed]
          exact L.halved hD hg f (l + 1) i m (2 * p) (by omega) (by omega) (by omega) h4 h5 fun j a b => by rw [Nat.add_sub_cancel]; exact q2 j a b
        · rw [if_neg c1, eu, ed]
          obtain ⟨sa, ea, ta⟩ := L.halved hD hg f (l + 1) i m (2 * p) (by omega) (by omega) (by omega) (by omega) (by omega) fun j a b => by rw [Nat.add_sub_cancel]; exact q2 j a b
          obtain ⟨sb, eb, tb⟩ := L.halved hD hg f (l + 1) (i + m) (n - m) (2 * p + 1) (by omega) (by omega) (by omega) (by omega) (by omega) fun j a b => by rw [Nat.add_sub_cancel]; exact q3 j a (by omega)
          rw [ea, eb]
          refine ⟨_, rfl, ?_⟩
          have hlv : lv (i + m) = l := by
            have x := L.eq (i + m) (by omega) (by omega) (l - 1) (by omega)
            have y := L.eq (i + m) (by omega) (by omega) l hlD
            rw [q2 (i + m - 1) (by omega) (by omega), q3 (i + m) (by omega) (by omega)] at y
            rw [hp (i + m - 1) (by omega) (by omega), hp (i + m) (by omega) (by omega)] at x
            have x' := x.mp rfl
            have y' : ¬ l < lv (i + m) := fun z => by have := y.mpr z; omega
            omega
          have := TT.node (lv := lv) (i := i) (j := i + m - 1) (k := i + n - 1) (a := sa) (b := sb) ta (by rw [show i + m - 1 + 1 = i + m by omega]; rw [show i + m + (n - m) - 1 = i + n - 1 by omega] at tb; exact tb) ?_ ?_
          · rw [show i + m - 1 + 1 = i + m by omega, hlv] at this
            exact this
          · intro q a b
            rw [show i + m - 1 + 1 = i + m by omega, hlv]
            refine (L.eq q (by omega) (by omega) l hlD).mp ?_
            rw [q2 (q - 1) (by omega) (by omega), q2 q (by omega) (by omega)]
          · intro q a b
            rw [show i + m - 1 + 1 = i + m by omega, hlv]
            refine (L.eq q (by omega) (by omega) l hlD).mp ?_
            rw [q3 (q - 1) (by omega) (by omega), q3 q (by omega) (by omega)]
end
end Mine
namespace Mine
noncomputable def runsOf (ls : List Int) : List (Int × Str) := (List.range ls.length).map fun k => (4096 * (mids 0 ls).getD k 0, letter k)
noncomputable def midOf (ls : List Int) (j : Nat) : Nat := ((mids 0 ls).getD j 0).toNat
theorem mids_get : ∀ (ls : List Int) (st : Int) (j : Nat), (∀ x ∈ ls, 1 ≤ x ∧ x ≤ 40) → j < ls.length → 2 * st < (mids st ls).getD j 0 ∧ (mids st ls).getD j 0 < 2 * st + 2 * ls.sum ∧ (j + 1 < ls.length → (mids st ls).getD j 0 + 2 ≤ (mids st ls).getD (j + 1) 0)
  | [], _, _, _, h => by simp at h
  | a :: r, st, 0, h, _ => by
    have ha := h a (.head _)
    have hr := sum_range (l := r) fun y hy => h y (.tail _ hy)
    refine ⟨?_, ?_, fun hl => ?_⟩
    · show 2 * st < 2 * st + a; omega
    · show 2 * st + a < _; rw [List.sum_cons]; omega
    · show 2 * st + a + 2 ≤ (mids (st + a) r).getD 0 0
      have := mids_get r (st + a) 0 (fun y hy => h y (.tail _ hy)) (by simpa using hl)
      have hx : ∃ b q, r = b :: q := by
        cases r with
        | nil => simp at hl
        | cons b q => exact ⟨b, q, rfl⟩
      obtain ⟨b, q, rfl⟩ := hx
      have hb := h b (.tail _ (.head _))
      show 2 * st + a + 2 ≤ 2 * (st + a) + b
      omega
  | a :: r, st, j + 1, h, hl => by
    have ha := h a (.head _)
    obtain ⟨h1, h2, h3⟩ := mids_get r (st + a) j (fun y hy => h y (.tail _ hy)) (by simpa using hl)
    refine ⟨?_, ?_, fun hl => ?_⟩
    · show 2 * st < (mids (st + a) r).getD j 0; omega
    · show (mids (st + a) r).getD j 0 < _; rw [List.sum_cons]; omega
    · exact h3 (by simpa using hl)
theorem xor_sum : ∀ n a b : Nat, a ≤ n → b ≤ n → a + b = (a ^^^ b) + 2 * (a &&& b)
  | 0, a, b, ha, hb => by
    have h1 : a = 0 := by omega
    have h2 : b = 0 := by omega
    rw [h1, h2]; decide
  | n + 1, a, b, ha, hb => by
    have ih := xor_sum n (a / 2) (b / 2) (by omega) (by omega)
    rw [← Nat.xor_div_two, ← Nat.and_div_two] at ih
    have h1 : (a ^^^ b) % 2 = 1 ↔ ¬ (a % 2 = 1 ↔ b % 2 = 1) := Nat.xor_mod_two_eq_one
    have h2 : (a &&& b) % 2 = 1 ↔ a % 2 = 1 ∧ b % 2 = 1 := Nat.and_mod_two_eq_one
    generalize a ^^^ b = X at *
    generalize a &&& b = Y at *
    rcases Nat.mod_two_eq_zero_or_one a with x | x <;> rcases Nat.mod_two_eq_zero_or_one b with y | y <;> rw [x, y] at h1 h2 <;> simp at h1 h2 <;> omega
theorem xor_nat (a b : Nat) : Builtin.bitXor (a : Int) (b : Int) = ((a ^^^ b : Nat) : Int) := by
  rw [bitXor_and, bitAnd_pp (by omega) (by omega), Int.toNat_natCast, Int.toNat_natCast]
  have := xor_sum (max a b) a b (by omega) (by omega)
  omega
theorem str_empty {x : Str} (h : x.length = 0) : x = Str.empty := by
  cases x with
  | mk c =>
    have : c.size = 0 := h
    have : c = #[] := Array.eq_empty_of_size_eq_zero this
    rw [this]; rfl
theorem plain (script : List Int) : ∃ lv : Nat → Nat,
    (∀ k, 1 ≤ k → k < (lengthsOf script).length → ((depthOf (lengthsOf script).sum.toNat : Nat) : Int) - ((Builtin.Int.intBits (Builtin.bitXor ((cellsOf (lengthsOf script)).getD (k - 1) 0) ((cellsOf (lengthsOf script)).getD k 0)) : Int) - 1) = (lv k : Int) ∧ lv k < 60 ∧ (stackAt lv k).length ≤ lv k + 1) ∧
    (∀ k, k < (lengthsOf script).length → (stackAt lv k).length ≤ 15 ∧ ∀ p ∈ stackAt lv k, p.1.length ≤ 100 ∧ p.2.length ≤ 1000) ∧
    ∃ s : Str, mergedT (stackAt lv ((lengthsOf script).length - 1)) = (Str.empty, s) ∧ s.length ≤ 1000 ∧ halvedO (depthOf (lengthsOf script).sum.toNat + 1) (runsOf (lengthsOf script)) 0 (4096 * 2 * (lengthsOf script).sum) 1 = some s := by
  obtain ⟨W, hW, hW1, hW2⟩ := whole_range script
  obtain ⟨n1, n2⟩ := lengths_length script
  have hr : ∀ x ∈ lengthsOf script, 1 ≤ x ∧ x ≤ 40 := fun x hx => lengths_range hx
  generalize lengthsOf script = ls at *
  have hWn : ls.sum.toNat = W := by rw [hW]; rfl
  rw [hWn]
  obtain ⟨d1, d2, d3⟩ := depth_facts W hW2 (by omega)
  generalize hD : depthOf W = D at *
  have hm : ∀ j, j < ls.length → (mids 0 ls).getD j 0 = (midOf ls j : Int) ∧ midOf ls j < 2 * W ∧ (j + 1 < ls.length → midOf ls j + 2 ≤ midOf ls (j + 1)) := fun j hj => by
    obtain ⟨a, b, c⟩ := mids_get ls 0 j hr hj
    have e : (mids 0 ls).getD j 0 = (midOf ls j : Int) := by unfold midOf; omega
    rw [hW] at b
    refine ⟨e, by omega, fun h => ?_⟩
    obtain ⟨a', b', c'⟩ := mids_get ls 0 (j + 1) hr h
    have e' : (mids 0 ls).getD (j + 1) 0 = (midOf ls (j + 1) : Int) := by unfold midOf; omega
    have := c h
    omega
  have L : Lev W D ls.length (midOf ls) (lvOf D W (midOf ls)) := lev_of (by omega) (fun j h => (hm j (by omega)).2.2 h) (fun j h => (hm j h).2.1) d1
  have hc : ∀ j, j < ls.length → (cellsOf ls).getD j 0 = (pre W (midOf ls) D j : Int) := fun j hj => by
    have hl : j < (mids 0 ls).length := by rw [mids_length]; exact hj
    obtain ⟨e, _, _⟩ := hm j hj
    unfold cellsOf pre
    rw [List.getD_eq_getElem?_getD, List.getElem?_eq_getElem (by simpa using hl)] at e ⊢
    simp only [Option.getD_some, List.getElem_map] at e ⊢
    rw [e, hWn, hD, hW, Int.fdiv_eq_ediv_of_nonneg _ (by omega)]
    simp
  refine ⟨lvOf D W (midOf ls), fun k h1 h2 => ?_, fun k hk => ?_, ?_⟩
  · have C := L.stack (by omega) h2
    have cl := C.length
    rw [if_neg (by omega)] at cl
    obtain ⟨o1, o2⟩ := L.one k h1 h2
    refine ⟨?_, by omega, by omega⟩
    rw [hc _ (by omega), hc k h2, xor_nat]
    have hx : 0 < (pre W (midOf ls) D (k - 1) ^^^ pre W (midOf ls) D k) := by
      refine Nat.pos_of_ne_zero fun e => ?_
      have h3 := L.inc (k - 1) (by omega)
      rw [show k - 1 + 1 = k by omega] at h3
      have h4 := pre_strict L.W0 L.fit h3
      have := (xor_div (a := pre W (midOf ls) D (k - 1)) (b := pre W (midOf ls) D k) (d := 0)).mpr (by rw [e]; decide)
      simp at this
      omega
    rw [bits_nat hx]
    unfold lvOf at o1 ⊢
    omega
  · have C := L.stack (by omega) hk
    have cl := C.length
    refine ⟨?_, C.small (fun m a b => by have := L.one m (by omega) (by omega); omega) (by omega) (by omega)⟩
    by_cases e : 0 = k
    · rw [if_pos e] at cl; omega
    · rw [if_neg e] at cl
      have := L.one k (by omega) hk
      omega
  · have C := L.stack (by omega) (k := ls.length - 1) (by omega)
    obtain ⟨t1, t2, t3⟩ := C.merged
    have tl := t1.len fun m a b => by have := L.one m (by omega) (by omega); omega
    refine ⟨(mergedT (stackAt (lvOf D W (midOf ls)) (ls.length - 1))).2, by rw [← str_empty t2], by omega, ?_⟩
    obtain ⟨s, e, ts⟩ := L.halved (g := fun j => (4096 * (midOf ls j : Int), letter j)) (by omega) (fun _ => rfl) (D + 1) 1 0 ls.length 0 (by omega) (by omega) (by omega) (by omega) (by omega) fun j a b => by rw [Nat.sub_self]; exact pre_zero (L.top j (by omega))
    have er : runsOf ls = seg (fun j => (4096 * (midOf ls j : Int), letter j)) 0 ls.length := by
      unfold runsOf seg
      rw [List.range_eq_range']
      refine List.map_congr_left fun j hj => ?_
      have : j < ls.length := by simpa using hj
      rw [(hm j this).1]
    have ez : (4096 * 2 * ls.sum : Int) = ((W * 2 ^ (14 - 1) : Nat) : Int) := by rw [hW]; simp; omega
    rw [er, ez]
    rw [Nat.zero_mul] at e
    rw [show (0 : Int) = ((0 : Nat) : Int) from rfl, e]
    rw [show 0 + ls.length - 1 = ls.length - 1 by omega] at ts
    rw [ts.unique t1]
end Mine
namespace Mine
set_option maxRecDepth 100000 in
set_option maxHeartbeats 0 in
theorem law3 : ∀ {w : World} {A : Around} {n : Nat} {h0 h : Heap} {g : Array GenState} {dr : Drawn} {t : Nat} {os : OsState} {m : Str → Option Value} {D1 D2 stk d : Addr} {cw cm cd cl : Option Value} {vs v1 v2 : List Value} {ps : List (Str × Str)} {Q : Flow → Shared → Prop} {E : Value → Shared → Prop},
    Ok (n + 6) A → HX (hd.heap_39 w.params) h → Frm w.params h0 h m cw cm cd (some (.ref stk)) cl → Stk h0 h stk d vs ps → ps ≠ [] → ps.length ≤ 15 → (∀ p ∈ ps, p.1.length ≤ 100 ∧ p.2.length ≤ 1000) →
    m "lengths" = some (.ref D1) → h.PlainList D1 v1.toArray → h.PlainList D2 v2.toArray →
    (∀ h' t' m' vs' cl', Frm w.params h0 h' m' cw cm cd (some (.ref stk)) cl' → Stk h0 h' stk d vs' [mergedT ps] → m' "lengths" = some (.ref D1) → h'.PlainList D1 v1.toArray → h'.PlainList D2 v2.toArray →
      wpAny (model PySem.Challenge.rw_rl0011_01.row.prog w) A (execs ((bodyOf (fdOf w.params 143)).drop 12) (callEnvC (fdOf w.params 143) h0.objs.size 143)) Q E ⟨h', g, dr, t', os⟩) →
    wpAny (model PySem.Challenge.rw_rl0011_01.row.prog w) A (execs ((bodyOf (fdOf w.params 143)).drop 11) (callEnvC (fdOf w.params 143) h0.objs.size 143)) Q E ⟨h, g, dr, t, os⟩ := by
  k_fill
  intro w A n h0 h g dr t os m D1 D2 stk d cw cm cd cl vs v1 v2 ps Q E ok _ F S hne hpl hpz mL p1 p2
  refine' open_body (P := w.params) (f := 143) ?ho fun e => ?_
  case ho => k_is
  rw [e]
  intro hq
  dsimp only [bodyOf, List.drop_succ_cons, List.drop_zero]
  have hpos : 0 < ps.length := List.length_pos_iff.mpr hne
  have e0 : ps.take (ps.length - 1) ++ [mergedT (ps.drop (ps.length - 1))] = ps := by
    have h1 : ps.drop (ps.length - 1) = [ps[ps.length - 1]] := by
      rw [List.drop_eq_getElem_cons (by omega), show ps.length - 1 + 1 = ps.length by omega, List.drop_length]
    have h2 := List.take_append_drop (ps.length - 1) ps
    rw [h1] at h2 ⊢
    exact h2
  refine wpAny_execs_cons (wpAny_While ?_)
  refine codeAny_whileLoop (fun j s => ∃ h' t' m' vs' cl', s = (⟨h', g, dr, t', os⟩ : Shared) ∧ j < ps.length ∧ Frm w.params h0 h' m' cw cm cd (some (.ref stk)) cl' ∧ Stk h0 h' stk d vs' (ps.take j ++ [mergedT (ps.drop j)]) ∧ m' "lengths" = some (.ref D1) ∧ h'.PlainList D1 v1.toArray ∧ h'.PlainList D2 v2.toArray) ?_ (ps.length - 1) ⟨h, t, m, vs, cl, rfl, by omega, F, by rw [e0]; exact S, mL, p1, p2⟩
  rintro j s ⟨h, t, m, vs, cl, rfl, hj, F, S, mL, p1, p2⟩
  have hvl := S.P.length
  have hvl2 : vs.length = j + 1 := by rw [hvl, List.length_append, List.length_take]; simp; omega
  refine wpAny_isTrue_Compare1 (MethodCall_ (n_cell F.c4 rfl (m_count F.X S.I (c_count (n := n + 4) ok F.X S.I fun h₁ _ _ k₁ => n_int fun _ _ => n_gt (wpAny_truthy_bool ?_)))))
  have F₁ := F.keep k₁
  have S₁ := S.keep k₁
  have q1 := pl_kp p1 k₁ nomem
  have q2 := pl_kp p2 k₁ nomem
  clear k₁ F S p1 p2
  by_cases hj0 : j = 0
  · subst hj0
    rw [if_neg (by rw [List.size_toArray, hvl2]; decide)]
    refine wpAny_execs_nil ?_
    exact hq h₁ _ m vs cl F₁ (by simpa using S₁) mL q1 q2
  rw [if_pos (by rw [List.size_toArray, hvl2]; simp; omega)]
  generalize hmm : mergedT (ps.drop j) = mm at S₁
  have hmz := mergedT_len (ps.drop j) (fun p q => hpz p (List.mem_of_mem_drop q))
  rw [hmm, List.length_drop] at hmz
  obtain ⟨a, ta, tb, ev, ea⟩ := S₁.P.get (i := j) (p := mm) (by
    have hl : (ps.take j).length = j := by rw [List.length_take]; omega
    rw [List.getElem?_append_right (by omega), hl, Nat.sub_self]; rfl)
  have el : vs.getLast? = some (.ref a) := by rw [List.getLast?_eq_getElem?, hvl2]; exact ev
  refine wpAny_execs_cons (Assign_Tuple (MethodCall_ (n_cell F₁.c4 rfl (m_pop F₁.X S₁.I (callWith_K0 F₁.X.x (acc_keep _).2.2.2 ?_)))))
  refine pop_acc (n := n + 2) ok F₁.X S₁.I (by simp; omega) (by simpa using el) fun h₂ _ I₂ k₂ => ?_
  have F₂ := F₁.acc S₁ k₂
  have ea2 := k₂ _ _ (fun q => (NT.acc S₁.I) _ (by rw [← List.mem_singleton.mp q]; exact ea)) ea
  have P₂ := (S₁.P.kp k₂ (NT.acc S₁.I).one).take j
  rw [List.take_append_of_le_length (by rw [List.length_take]; omega), List.take_take, Nat.min_self] at P₂
  have V₂ : vs.toArray.pop = (vs.take j).toArray := by
    rw [List.pop_toArray, List.dropLast_eq_take, hvl2]; rfl
  rw [V₂] at I₂
  have S₂ : Stk h0 h₂ stk d (vs.take j) (ps.take j) := ⟨I₂, P₂, S₁.f1, S₁.n2⟩
  have r1 := pl_kp q1 k₂ (S₁.I.notPl q1)
  have r2 := pl_kp q2 k₂ (S₁.I.notPl q2)
  refine unpack2 ok.hh ea2 rfl rfl rfl F₂.ns fun h₃ _ ns₃ k₃ => ?_
  have F₃ := F₂.store ns₃ k₃
  have S₃ := S₂.store F₂.ns k₃
  have s1 := pl_kp r1 k₃ (pl_ns r1 F₂.ns)
  have s2 := pl_kp r2 k₃ (pl_ns r2 F₂.ns)
  clear F₁ S₁ F₂ S₂ k₂ k₃ q1 q2 r1 r2 I₂ P₂ V₂ ea ea2 ev el
  have hjl : j - 1 < ps.length := by omega
  have hlt : (ps.take j).length = j := by rw [List.length_take]; omega
  have hvt : (vs.take j).length = j := by rw [List.length_take]; omega
  obtain ⟨b, tc, td, ev, eb⟩ := S₃.P.get (i := j - 1) (p := ps[j - 1]) (by rw [List.getElem?_take_of_lt (by omega), List.getElem?_eq_getElem hjl])
  have el : (vs.take j).getLast? = some (.ref b) := by rw [List.getLast?_eq_getElem?, hvt]; exact ev
  refine wpAny_execs_cons (Assign_Tuple (MethodCall_ (n_cell F₃.c4 rfl (m_pop F₃.X S₃.I (callWith_K0 F₃.X.x (acc_keep _).2.2.2 ?_)))))
  refine pop_acc (n := n + 2) ok F₃.X S₃.I (by simp; omega) (by simpa using el) fun h₄ _ I₄ k₄ => ?_
  have F₄ := F₃.acc S₃ k₄
  have eb2 := k₄ _ _ (fun q => (NT.acc S₃.I) _ (by rw [← List.mem_singleton.mp q]; exact eb)) eb
  have P₄ := (S₃.P.kp k₄ (NT.acc S₃.I).one).take (j - 1)
  rw [List.take_take, List.take_take, show min (j - 1) j = j - 1 by omega] at P₄
  have V₄ : (vs.take j).toArray.pop = (vs.take (j - 1)).toArray := by
    rw [List.pop_toArray, List.dropLast_eq_take, hvt, List.take_take, show min (j - 1) j = j - 1 by omega]
  rw [V₄] at I₄
  have S₄ : Stk h0 h₄ stk d (vs.take (j - 1)) (ps.take (j - 1)) := ⟨I₄, P₄, S₃.f1, S₃.n2⟩
  have r1 := pl_kp s1 k₄ (S₃.I.notPl s1)
  have r2 := pl_kp s2 k₄ (S₃.I.notPl s2)
  refine unpack2 ok.hh eb2 rfl rfl rfl F₄.ns fun h₅ _ ns₅ k₅ => ?_
  have F₅ := F₄.store ns₅ k₅
  have S₅ := S₄.store F₄.ns k₅
  have q1 := pl_kp r1 k₅ (pl_ns r1 F₄.ns)
  have q2 := pl_kp r2 k₅ (pl_ns r2 F₄.ns)
  clear F₃ S₃ F₄ S₄ k₄ k₅ s1 s2 r1 r2 I₄ P₄ V₄ eb eb2 ev el
  have hpj := hpz ps[j - 1] (List.getElem_mem _)
  have c1 : (Str.ofString "(").length = 1 := by decide +kernel
  have c2 : (Str.ofString ")").length = 1 := by decide +kernel
  have hnl := numT_len mm.1.length
  refine wpAny_execs_cons (wpAny_Expr (MethodCall_ (n_cell F₅.c4 rfl (m_push F₅.X S₅.I ?_))))
  refine n_fn (acc_keep _).2.2.1 F₅.X (n_arg (n_local F₅.ns rfl (n_arg ?_)))
  refine wpAny_BinOp (wpAny_BinOp (wpAny_BinOp (wpAny_BinOp (n_str fun _ _ => n_local F₅.ns rfl (n_adds (by omega) fun _ _ => ?_)))))
  refine wpAny_Call_NameR (name_str F₅.X (n_type (n_arg (wpAny_Call_NameR (name_len F₅.X (n_bi (n_arg (n_local F₅.ns rfl (wpAny_items_nil (n_lens (by omega) fun _ _ => wpAny_items_nil (n_strn (by omega) fun _ _ => ?_)))))))))))
  refine n_adds (by simp only [Str.length_append]; omega) fun _ _ => n_local F₅.ns rfl (n_adds (by simp only [Str.length_append]; omega) fun _ _ => n_str fun _ _ => n_adds (by simp only [Str.length_append]; omega) fun t3 _ => wpAny_items_nil ⟨F₅.X, ?_⟩)
  refine push_acc (n := n) (ok.le (by omega)) F₅.X S₅.I (by simp; omega) fun h₆ _ tp I₆ k₆ _ e₆ => ?_
  have eM : mergedT (ps.drop (j - 1)) = (ps[j - 1].1, nodeT ps[j - 1].2 mm.1.length mm.2) := by
    rw [mergedT_drop (k := j - 1) (p := ps[j - 1]) (by simp) (by omega), show j - 1 + 1 = j by omega, hmm]
  refine wpAny_execs_nil ⟨j - 1, by omega, h₆, _, _, vs.take (j - 1) ++ [.ref tp], cl, rfl, by omega, F₅.acc S₅ k₆, ⟨by simpa using I₆, ?_, S₅.f1, S₅.n2⟩, mL, pl_kp q1 k₆ (S₅.I.notPl q1), pl_kp q2 k₆ (S₅.I.notPl q2)⟩
  rw [eM]
  exact (S₅.P.kp k₆ (NT.acc S₅.I).one).snoc e₆
end Mine
namespace Mine
section
variable {w : World} {A : Around} {h : Heap} {g : Array GenState} {dr : Drawn} {t : Nat} {os : OsState} {env : Env} {pos : Pos} {Q E : Value → Shared → Prop}
theorem n_range1 {n : Nat} {u : Tok} {Q : Value → Shared → Prop} (hz : n ≤ 1000000)
    (hq : ∀ h' t' I, Kp [] h h' → h.get? I = none → IsRangeIter h' I 0 n 1 → Q (.ref I) ⟨h', g, dr, t', os⟩) :
    wpAny (model PySem.Challenge.rw_rl0011_01.row.prog w) A (call (.type "range") [.int (n : Int) u]) (fun x s₁ => wpAny (model PySem.Challenge.rw_rl0011_01.row.prog w) A (pyIter x) Q E s₁) E ⟨h, g, dr, t, os⟩ := by
  have hn : Builtin.Range.rangeSize 0 (n : Int) 1 = (n : Int) := by
    unfold Builtin.Range.rangeSize
    rw [if_pos (by decide)]
    by_cases h1 : (n : Int) > 0
    · rw [if_pos (by omega)]; simp
    · rw [if_neg (by omega)]; omega
  refine call_range_1 ?_
  refine wpAny_pyIter_range (Heap.get?_push_size _ rfl) (range_small (by decide) (by omega) (.inl rfl) hn hz) ?_
  rw [hn]
  refine hq _ _ _ ((Kp.push _ _).trans (Kp.push _ _)) (new_of ?_) (Heap.get?_push_size _ rfl)
  show h.objs.size ≤ (h.push _).objs.size
  rw [Heap.size_push]; omega
end
theorem runsOf_length (ls : List Int) : (runsOf ls).length = ls.length := by unfold runsOf; simp
theorem runsOf_get {ls : List Int} {i : Nat} (h : i < ls.length) : (runsOf ls)[i]? = some (4096 * (mids 0 ls).getD i 0, letter i) := by
  unfold runsOf
  rw [List.getElem?_map, List.getElem?_range h]
  rfl
theorem runsOf_small (ls : List Int) : ∀ r ∈ runsOf ls, r.2.length ≤ 900 := fun r hr => by
  obtain ⟨k, _, rfl⟩ := List.mem_map.mp hr
  show (letter k).length ≤ 900
  rw [letter_len]; omega
set_option maxRecDepth 100000 in
set_option maxHeartbeats 0 in
theorem law4 : ∀ {w : World} {A : Around} {n f : Nat} {h0 h : Heap} {g : Array GenState} {dr : Drawn} {t : Nat} {os : OsState} {m : Str → Option Value} {D1 D2 stk d : Addr} {u1 : Tok} {cd cl : Option Value} {vs v1 v2 : List Value} {ls : List Int} {ps : List (Str × Str)} {s : Str} {Q : Flow → Shared → Prop} {E : Value → Shared → Prop},
    Ok (n + f + 6) A → HX (hd.heap_39 w.params) h → Frm w.params h0 h m (some (.int ls.sum u1)) (some (.ref D2)) cd (some (.ref stk)) cl → Stk h0 h stk d vs ps →
    m "lengths" = some (.ref D1) → h.PlainList D1 v1.toArray → IntsAre v1 ls → h.PlainList D2 v2.toArray → IntsAre v2 (mids 0 ls) → ls.length ≤ 11 → f ≤ 20 → halvedO f (runsOf ls) 0 (4096 * 2 * ls.sum) 1 = some s →
    (∀ h' t' m' u, Frm w.params h0 h' m' (some (.int ls.sum u1)) (some (.ref D2)) cd (some (.ref stk)) cl → Stk h0 h' stk d vs ps → m' "due" = some (.str s u) →
      wpAny (model PySem.Challenge.rw_rl0011_01.row.prog w) A (execs ((bodyOf (fdOf w.params 143)).drop 14) (callEnvC (fdOf w.params 143) h0.objs.size 143)) Q E ⟨h', g, dr, t', os⟩) →
    wpAny (model PySem.Challenge.rw_rl0011_01.row.prog w) A (execs ((bodyOf (fdOf w.params 143)).drop 12) (callEnvC (fdOf w.params 143) h0.objs.size 143)) Q E ⟨h, g, dr, t, os⟩ := by
  k_fill
  intro w A n f h0 h g dr t os m D1 D2 stk d u1 cd cl vs v1 v2 ls ps s Q E ok _ F S mL p1 i1 p2 i2 hls hf hs
  refine' open_body (P := w.params) (f := 143) ?ho fun e => ?_
  case ho => k_is
  rw [e]
  intro hq
  dsimp only [bodyOf, List.drop_succ_cons, List.drop_zero]
  have hv1 := i1.length
  have hv2 := i2.length
  rw [mids_length] at hv2
  refine wpAny_execs_cons (comp_walk h0.objs.size rfl rfl (by decide) rfl (by decide) rfl rfl rfl rfl (fun _ => rfl) ?_)
  refine wpAny_Call_NameR (name_range F.X (n_type (n_arg (wpAny_Call_NameR (name_len F.X (n_bi (n_arg (n_local F.ns mL (wpAny_items_nil (n_lenl p1.isList (by simp; omega) fun _ _ => wpAny_items_nil ?_))))))))))
  rw [show (v1.toArray.size : Int) = (ls.length : Int) by simp [hv1]]
  refine n_range1 (by omega) fun H t₂ I k₂ nI hI => ?_
  have F₂ := F.keep k₂
  have S₂ := S.keep k₂
  have q2 := pl_kp p2 k₂ nomem
  have hIlt : I < H.objs.size := Heap.lt_size hI
  have hIL : h0.objs.size ≠ I := fun e => by obtain ⟨_, _, _, q, _⟩ := F.ns; rw [e] at q; rw [nI] at q; cases q
  have hI0 : h0.get? I = none := F.old nI
  have hIs : stk ∉ [I] ∧ d ∉ [I] := by
    obtain ⟨_, _, ⟨_, q1⟩, ⟨_, _, _, _, q2⟩⟩ := S.I
    exact ⟨(fun q => by rw [List.mem_singleton.mp q, nI] at q1; cases q1), (fun q => by rw [List.mem_singleton.mp q, nI] at q2; cases q2)⟩
  have hIpl : ∀ {D x}, h.PlainList D x → D ∉ [I] := fun p q => by obtain ⟨_, p⟩ := p; rw [List.mem_singleton.mp q, nI] at p; cases p
  have hIc : ∀ {a v}, h.IsCell a v → a ∉ [I] := fun c q => by obtain ⟨_, q', _⟩ := c; rw [List.mem_singleton.mp q, nI] at q'; cases q'
  refine ⟨H, t₂, I, [I], [I], ls.length, _, _, m, fun i ys hh => Runs hh ys ((runsOf ls).take i), rfl, rfl, walks_lt (Walks.range ok.hh I 0 1 ls.length), by omega, ?_, ?_, notin1 hIL, F₂.ns, ?_, ?_, ?_, ?_⟩
  · have : ((0 : Int) + ((0 : Nat) : Int) * 1) = 0 := by omega
    rw [this, show ((ls.length : Int) - ((0 : Nat) : Int)) = (ls.length : Int) by omega]
    exact hI
  · intro b hb
    rw [List.mem_singleton.mp hb]; exact hIlt
  · intro i ys ha hb mc ml zs k nC nL pl st kk J
    refine J.kp kk fun a q => ?_
    rcases List.mem_cons.mp q with rfl | q
    · exact NT.ns nL
    rcases List.mem_cons.mp q with rfl | q
    · exact NT.ns nC
    rcases List.mem_cons.mp q with rfl | q
    · exact NT.pl pl
    · rw [List.mem_singleton.mp q]
      exact NT.fields st
  · intro h' _
    exact .nil
  · rintro i v ys h₃ m₃ t₃ E' hi ⟨_, tv, rfl⟩ n3 m3 k3 J
    have ei : (0 + (i : Int) * 1) = (i : Int) := by omega
    rw [ei] at m3
    have c2' := IsCell.kp F₂.c2 k3 (hIc F.c2)
    have q3 := pl_kp q2 k3 (hIpl p2)
    obtain ⟨ua, ea, _⟩ := IntsAre.get i2 (i := i) (v := v2[i]'(by omega)) (by simp)
    have ea' : v2[i]? = some (.int ((mids 0 ls).getD i 0) ua) := by rw [List.getElem?_eq_getElem (by omega), ea]
    refine n_tup2 (wpAny_BinOp (n_int fun _ _ => Subscript_ (n_cell c2' rfl (n_local n3 m3 (n_item (k := i) q3.isList (by simpa using ea') (by omega) (n_mul (by decide) fun tm _ => Subscript_ (n_str fun _ _ => n_local n3 m3 (n_letter (by omega) fun tl _ => ⟨_, _, rfl, fun h' a ka na ea => ⟨h', _, rfl, ka, ?_⟩⟩))))))))
    have et : (runsOf ls).take (i + 1) = (runsOf ls).take i ++ [(4096 * (mids 0 ls).getD i 0, letter i)] := by
      rw [List.take_add_one, runsOf_get hi]; rfl
    show Runs h' (ys ++ [.ref a]) ((runsOf ls).take (i + 1))
    rw [et]
    exact (J.kp ka (fun _ q => nomatch q)).snoc ea
  · intro h₃ t₃ ys pl₃ ns₃ k₃ J₃
    have F₃ := F₂.store2 ns₃ k₃ hI0 (fun v c => by obtain ⟨_, q, q'⟩ := c; rw [hI] at q; cases q; cases q')
    have S₃ := S₂.store2 F₂.ns k₃ hIs.1 hIs.2 (NT.fields hI)
    have eR : (runsOf ls).take ls.length = runsOf ls := by rw [← runsOf_length ls, List.take_length]
    rw [eR] at J₃
    refine wpAny_execs_cons (wpAny_Assign_Name (wpAny_Call_NameR (name_own F₃.X (own_halved _) (n_fn (keep_halved _) F₃.X (n_arg (n_local F₃.ns rfl (n_arg (n_int fun _ _ => n_arg (wpAny_BinOp (wpAny_BinOp (n_int fun _ _ => n_int fun _ _ => n_mul (by decide) fun _ _ => n_cell F₃.c1 rfl (n_mul (by decide) fun _ _ => n_arg (n_int fun _ _ => wpAny_items_nil ⟨F₃.X, ?_⟩)))))))))))))
    refine halved_c w f (lv := 1) (ok.le (by omega)) F₃.X pl₃.isList J₃ (by rw [runsOf_length]; omega) (runsOf_small ls) (by omega) hs fun h₄ t₄ u₄ k₄ => ?_
    have F₄ := F₃.keep k₄
    have S₄ := S₃.keep k₄
    refine n_store F₄.ns fun h₅ _ ns₅ k₅ => ?_
    exact hq h₅ _ _ u₄ (F₄.store ns₅ k₅) (S₄.store F₄.ns k₅) rfl
end Mine
namespace Mine
theorem acc_more (P : Params) : findIn (hd.heap_39 P) (.ref 115) "__iter__" = some (some (.builtin "list.__iter__")) ∧ findIn (hd.heap_39 P) (.ref 115) "__len__" = some (some (.ref 82)) ∧ findIn (hd.heap_39 P) (.ref 115) "__str__" = some (some (.ref 89)) ∧ typeIn (hd.heap_39 P) (.ref 82) = some (.type "function") ∧ typeIn (hd.heap_39 P) (.ref 89) = some (.type "function") :=
  ⟨by kernel_rfl, by kernel_rfl, by kernel_rfl, by kernel_rfl, by kernel_rfl⟩
/-- the module of the machine's names -/
def M4 (h : Heap) : Prop := ∃ ob, h.get? 4 = some ob ∧ ob.cls = .type "module" ∧ ob.dict = some builtinsNs ∧ ob.data = .plain
theorem M4.kp {h h' : Heap} {W : List Addr} (M : M4 h) (k : Kp W h h') (n : (4 : Addr) ∉ W) : M4 h' := by
  obtain ⟨ob, e, r⟩ := M
  exact ⟨ob, k _ _ n e, r⟩
section
variable {w : World} {A : Around} {h : Heap} {g : Array GenState} {dr : Drawn} {t : Nat} {os : OsState} {E : Value → Shared → Prop} {stk d : Addr} {items : Array Value}
theorem iter_acc {Q : Value → Shared → Prop} (X : HX (hd.heap_39 w.params) h) (I : IsAcc h stk d items) (hq : Q (.ref h.objs.size) ⟨h.push { cls := .type "list_iterator", data := .fields #[.ref stk, .int 0 0] }, g, dr, t, os⟩) :
    wpAny (model PySem.Challenge.rw_rl0011_01.row.prog w) A (pyIter (.ref stk)) Q E ⟨h, g, dr, t, os⟩ := by
  obtain ⟨ox, od, J, _⟩ := I.inst
  have hc : wpAny (model PySem.Challenge.rw_rl0011_01.row.prog w) A (call (.builtin "list.__iter__") [.ref stk]) (fun it s' => ∃ T' r, s'.TypeIs it T' ∧ typeLookup (.type T') "__next__" = pure (some r) ∧ Q it s') E ⟨h, g, dr, t, os⟩ := by
    refine call_bi slot_list_iter.plain entry_list_iter (.inr (by decide +kernel)) (owner := "list") (n := "__iter__") (by decide +kernel) (acc_isList X I) (args_list_iter _) ?_
    show wpAny _ _ (do ret (← newFields "list_iterator" [.ref stk, rawInt 0])) _ _ _
    exact wpAny_bind (wpAny_newObj_type (wpAny_pure ⟨_, rfl, "list_iterator", _, ⟨_, Heap.get?_push_size _ rfl, rfl⟩, slot_listiter_next.lookup, hq⟩))
  unfold pyIter
  refine wpAny_bind (wpAny_bind (J.type.here ((looks_findIn X.x (acc_more _).1).here ?_)))
  show wpAny _ A (callSpecialIfBoundUnlessNone? (.ref stk) "__iter__" _ >>= _) Q E _
  refine wpAny_bind ?_
  simp only [callSpecialIfBoundUnlessNone?, bindSpecialIfBound?]
  refine wpAny_holding (wpAny_bind (wpAny_bind (wpAny_bind (J.type.here ((looks_findIn X.x (acc_more _).1).here ?_)))))
  simp only [slot_list_iter.bind]
  refine wpAny_bind (wpAny_askSetting (wpAny_ite ?_))
  have fin : ∀ {refuse : Sem Value}, wpAny (model PySem.Challenge.rw_rl0011_01.row.prog w) A (if (Value.builtin "list.__iter__" == Value.none) = true then (refuse >>= fun v => pure (some v)) else (call (.builtin "list.__iter__") [.ref stk] >>= fun v => pure (some v))) (fun r s' => wpAny (model PySem.Challenge.rw_rl0011_01.row.prog w) A (match r with
      | some it => specialOf it "__next__" >>= fun r => match r with
        | none => (do rule "iter.non-iterator"; raiseError "TypeError" s!"iter() returned non-iterator of type '{← typeNameOf it}'")
        | some _ => pure it
      | none => bindSpecialIfBound? (.ref stk) "__getitem__" >>= fun r => match r with
        | none => (do rule "iter.not-iterable"; raiseError "TypeError" s!"'{← typeNameOf (.ref stk)}' object is not iterable")
        | some _ => (do rule "iter.getitem-fallback"; newFields "iterator" [.ref stk, ← mkInt 0])) Q E s') E ⟨h, g, dr, t, os⟩ := by
    intro refuse
    rw [if_neg (by simp)]
    refine wpAny_bind (wpAny_mono hc (fun it s' z => wpAny_pure ?_) fun _ _ z => z)
    obtain ⟨T', r, hT', hl, hQ⟩ := z
    exact wpAny_bind (wpAny_specialOf hT' hl (wpAny_pure hQ))
  split
  · exact wpAny_bind (wpAny_pure (wpAny_pure fin))
  · exact wpAny_tryCatch (wpAny_bind (wpAny_pure (wpAny_pure fin)))
end
end Mine
namespace Mine
local macro_rules | `(tactic| x_close) => `(tactic| ((rename (∀ _, _) => hq); exact hq _ _ (Kp.refl _ _)))
local macro_rules | `(tactic| x_close) => `(tactic| ((rename Mem _ _ _ _ => D); (rename (∀ _, _) => hq); exact hq _ _ (Kp.mem D)))
set_option maxRecDepth 100000 in
set_option maxHeartbeats 0 in
theorem attr_acc0 : ∀ {w : World} {h : Heap} {g : Array GenState} {dr : Drawn} {t : Nat} {os : OsState} {stk d : Addr} {items : Array Value} {n nd : Nat} {hs : Int} {tk tv ta : Tok} {fr : List Env} {gd : Option (List Code)} {Q E : Value → Shared → Prop},
    HX (hd.heap_39 w.params) h → h.get? stk = some ⟨.ref 115, some d, .seq items n, #[]⟩ → h.get? d = some ⟨.type "dict", none, .dict #[⟨hs, .str "_initial_size" tk, .int 0 tv⟩] nd, #[]⟩ →
    (∀ h' t', Kp [] h h' → Q (.int 0 tv) ⟨h', g, dr, t', os⟩) →
    wpAny (model PySem.Challenge.rw_rl0011_01.row.prog w) (A0 fr gd) (call (.builtin "list.__getattribute__") [.ref stk, .str "_initial_size" ta]) Q E ⟨h, g, dr, t, os⟩ := by
  k_fill
  intro w h g dr t os stk d items n nd hs tk tv ta fr gd Q E KX h1 h2 hq
  have KX1 := KX.x
  revert hq
  intro hq
  x_run
end Mine
namespace Mine
section
variable {w : World} {A : Around} {h : Heap} {g : Array GenState} {dr : Drawn} {t : Nat} {os : OsState} {env : Env} {pos : Pos} {E : Value → Shared → Prop} {stk d : Addr} {items : Array Value}
theorem getattr_acc {n : Nat} {Q : Value → Shared → Prop} (ok : Ok n A) (X : HX (hd.heap_39 w.params) h) (I : IsAcc h stk d items) (hq : ∀ h' t' tk, Kp [] h h' → Q (.int 0 tk) ⟨h', g, dr, t', os⟩) :
    wpAny (model PySem.Challenge.rw_rl0011_01.row.prog w) A (getAttr (.ref stk) "_initial_size" true) Q E ⟨h, g, dr, t, os⟩ := by
  obtain ⟨ox, od, J, _⟩ := I.inst
  obtain ⟨_, ne, ⟨k, ho⟩, ⟨hs, tk, tv, nd, hd⟩⟩ := I
  unfold getAttr getAttrBy
  refine wpAny_bind (wpAny_mkText (wpAny_holding (wpAny_bind (J.type.here (wpAny_bind ((looks_findIn X.x (acc_facts _).1).here ?_))))))
  show wpAny _ _ (if (onTheHeap (.ref 115) && Value.builtin "list.__getattribute__" == .builtin "object.__getattribute__") = true then _ else getAttrByItsOwn (.ref stk) (.str "_initial_size" t) (.ref 115) (.builtin "list.__getattribute__") true true) _ _ _
  rw [if_neg (by decide)]
  unfold getAttrByItsOwn hookBefore callGetattribute boundAndCalled
  rw [if_pos (show onTheHeap (.ref 115) = true from rfl), if_neg (show ¬ (true && onTheHeap (.builtin "list.__getattribute__")) = true from by decide)]
  refine wpAny_bind ((looks_findIn X.x (acc_facts _).2.1).here ?_)
  refine wpAny_bind (wpAny_attempt (wpAny_holding ?_))
  show wpAny _ _ (bindSpecial (.builtin "list.__getattribute__") (.ref stk) >>= _) _ _ _
  refine wpAny_bind (wpAny_of_eq (a := (Value.builtin "list.__getattribute__", [Value.ref stk])) (by kernel_rfl) ?_)
  refine wp_at0 ok fun fr gd => attr_acc0 X ho hd fun h' t' k' => ?_
  exact wpAny_pure (hq _ _ _ k')
end
end Mine
section
set_option maxRecDepth 100000
namespace Mine
section
variable {prog : Program} {w : World} {A : Around} {E : Value → Shared → Prop} {s : Shared}
theorem args_sum2 (a b : Value) : argsOk "sum" ⟨[a, b], []⟩ := by unfold argsOk; kernel_rfl
/-- a sum with a start, which is 0 -/
theorem sum_start {x : Value} {u : Tok} {Q : Value → Shared → Prop}
    (h : wpAny (model prog w) A.in1 (pyIter x) (fun it s₂ => ∃ I fp wr G n P St val, it = .ref I ∧ WalksS prog w A.in1 I fp wr G n P St ∧ St 0 s₂ ∧ (∀ b ∈ fp, b < s₂.heap.objs.size) ∧
      (∀ i v, P i v → NumOf (val i) v) ∧ ∀ s' t', Moved wr G s₂ s' → Q (.int (preSum val n) t') s') E s) :
    wpAny (model prog w) A (call (.builtin "sum") [x, .int 0 u]) Q E s := by
  refine call_function_tree F.kind_sum F.plain_sum F.entry_sum (args_sum2 _ _) ?_
  unfold Builtin.«sum»
  simp only [List.length_cons, List.length_nil]
  rw [if_neg (by decide)]
  refine wpAny_bind (wpAny_of_eq (show Builtin.Builtins.bindParams "sum" ["start"] 0 ⟨[.int 0 u], []⟩ = pure [some (.int 0 u)] from rfl) ?_)
  refine wpAny_bind (wpAny_mono h (fun it s₂ h₂ => ?_) fun _ _ e => e)
  obtain ⟨I, fp, wr, G, n, P, St, val, rfl, W, hst, hfp, hval, hQ⟩ := h₂
  dsimp only
  rw [if_pos (by decide +kernel)]
  refine wpAny_bind (wpAny_rule (wpAny_bind (wpAny_mkInt (wpAny_bind (wpAny_pure ?_)))))
  simp only [List.forIn_cons, List.forIn_nil]
  refine wpAny_bind (wpAny_bind (wpAny_bind (wpAny_isInstance (T := "int") (b := false) (typeIs_int _ _ _) PySem.sub_int_str ?_)))
  simp only [Bool.false_eq_true, if_false]
  refine wpAny_pure (wpAny_bind (wpAny_bind (wpAny_isInstance (T := "int") (b := false) (typeIs_int _ _ _) PySem.sub_int_bytes ?_)))
  simp only [Bool.false_eq_true, if_false]
  refine wpAny_pure (wpAny_bind (wpAny_bind (wpAny_isInstance (T := "int") (b := false) (typeIs_int _ _ _) PySem.sub_int_bytearray ?_)))
  simp only [Bool.false_eq_true, if_false]
  refine wpAny_pure (wpAny_pure ?_)
  refine wpAny_bind (wpAny_newObj_type ?_)
  have hSf : s₂.heap.objs.size ∉ fp := fun hm => Nat.lt_irrefl _ (hfp _ hm)
  refine wpAny_pure ⟨plainId_quiet F.plain_sum_loop _, codeAny_sum_loopAnyB W val hval s₂.heap.objs.size hSf n 0 _ s₂.toks 0 0 (.inl rfl) rfl (Nat.zero_le _)
    (W.frame 0 s₂ _ _ hst (by first | exact Nat.le_refl _ | exact Nat.le_succ _ | omega) fun b _ o e => Heap.get?_push_of_some _ e) (Heap.get?_push_size _ rfl) fun s' t' hm => ?_⟩
  exact hQ s' t' (hm.drop_new (by first | exact Nat.le_refl _ | exact Nat.le_succ _ | omega))
/-- the turns of an iterator over a list of a class of its own -/
theorem next_item {it l : Addr} {i n : Nat} {items : Array Value} {ol : Obj} {x : Value} {Q : Option Value → Shared → Prop} (hit : s.heap.IsListIter it l i) (hol : s.heap.get? l = some ol) (hdl : ol.data = .seq items n) (hx : items[i]? = some x)
    (hQ : ∀ h', h'.IsListIter it l (i + 1) → Heap.SameBut it s.heap h' → Q (some x) { s with heap := h' }) : wpAny (model prog w) A (pyNext (.ref it)) Q E s := by
  obtain ⟨o, ho, hc, hd⟩ := id hit
  unfold pyNext
  refine wpAny_bind (wpAny_attempt (wpAny_callSpecial?_slot (name := Str.ofString "__next__") hit.typeIs slot_listiter_next (wpAny_call_entry slot_listiter_next hit.typeIs entry_listiter_next ?_ (args_listiter_next _))))
  show wpAny _ _ (field (.ref it) 0 >>= _) _ _ s
  refine wpAny_bind (wpAny_field ho hd (x := .ref l) rfl ?_)
  show wpAny _ _ (if (Value.ref l == Value.none) = true then _ else _) _ _ s
  rw [if_neg (by simp)]
  show wpAny _ _ (field (.ref it) 1 >>= _) _ _ s
  refine wpAny_bind (wpAny_field ho hd (x := .int i 0) rfl ?_)
  show wpAny _ _ (seqItems? (.ref l) >>= _) _ _ s
  refine wpAny_bind (wpAny_seqItems hol hdl ?_)
  simp only [Int.toNat_natCast, hx]
  refine wpAny_bind (wpAny_setField ho hd (by simp) (wpAny_pure ⟨x, rfl, wpAny_pure (hQ _ ?_ (Heap.SameBut.update ..))⟩))
  refine ⟨_, Heap.get?_update_self _ ho (Obj.isFreed_of_fields (Obj.data_mapFields hd _)), (Obj.cls_mapFields ..).trans hc, ?_⟩
  rw [Obj.data_mapFields hd]; simp [rawInt]
theorem next_end {it l : Addr} {i n : Nat} {items : Array Value} {ol : Obj} {Q : Option Value → Shared → Prop} (hh : A.handled = none) (hit : s.heap.IsListIter it l i) (hol : s.heap.get? l = some ol) (hdl : ol.data = .seq items n) (hx : items[i]? = none)
    (hQ : ∀ h', Heap.ExtBut it s.heap h' → Q none { s with heap := h' }) : wpAny (model prog w) A (pyNext (.ref it)) Q E s := by
  obtain ⟨o, ho, hc, hd⟩ := id hit
  unfold pyNext
  refine wpAny_bind (wpAny_attempt (wpAny_callSpecial?_slot (name := Str.ofString "__next__") hit.typeIs slot_listiter_next (wpAny_call_entry slot_listiter_next hit.typeIs entry_listiter_next ?_ (args_listiter_next _))))
  show wpAny _ _ (field (.ref it) 0 >>= _) _ _ s
  refine wpAny_bind (wpAny_field ho hd (x := .ref l) rfl ?_)
  show wpAny _ _ (if (Value.ref l == Value.none) = true then _ else _) _ _ s
  rw [if_neg (by simp)]
  show wpAny _ _ (field (.ref it) 1 >>= _) _ _ s
  refine wpAny_bind (wpAny_field ho hd (x := .int i 0) rfl ?_)
  show wpAny _ _ (seqItems? (.ref l) >>= _) _ _ s
  refine wpAny_bind (wpAny_seqItems hol hdl ?_)
  simp only [Int.toNat_natCast, hx]
  refine wpAny_bind (wpAny_rule (wpAny_bind (wpAny_setField ho hd (by simp) ?_)))
  show wpAny _ _ (newExc (.type "StopIteration") [] >>= _) _ _ _
  refine wpAny_bind ?_
  simp only [newExc, newTuple]
  refine wpAny_bind (wpAny_newObj_type ?_ (by size_fits))
  refine wpAny_bind (m := firstArgMember _ _) (wpAny_of_eq (a := Value.none) (by first | rfl | (simp only [firstArgMember]; rfl)) ?_)
  refine wpAny_newObj_type ?_ (by size_fits)
  simp only [raiseNew]
  refine wpAny_bind (wpAny_handled ?_)
  rw [show A.in1.handled = none from hh]
  refine wpAny_bind (wpAny_pure (wpAny_throw ?_))
  refine wpAny_bind (wpAny_isInstance (T := "StopIteration") (b := true) ⟨_, Heap.get?_push_size _ rfl, rfl⟩ isSubtype_stop ?_)
  exact wpAny_pure (hQ _ (((Heap.SameBut.update ..).extBut.push _).push _))
end
/-- the stack with one piece, walked -/
structure OneAcc (h : Heap) (stk d tp : Addr) (ta tb : Tok) (x y : Str) : Prop where
  I : IsAcc h stk d #[.ref tp]
  T : h.get? tp = some (tupO [.str x ta, .str y tb])
theorem OneAcc.kp {h h' : Heap} {stk d tp : Addr} {ta tb : Tok} {x y : Str} {W : List Addr} (O : OneAcc h stk d tp ta tb x y) (k : Kp W h h') (h1 : stk ∉ W) (h2 : d ∉ W) (h3 : tp ∉ W) : OneAcc h' stk d tp ta tb x y := ⟨O.I.kp k h1 h2, k _ _ h3 O.T⟩
theorem walk_acc {prog : Program} {w : World} {A : Around} (hh : A.handled = none) (I : Addr) {stk d tp : Addr} {ta tb : Tok} {x y : Str} (h1 : stk ≠ I) (h2 : d ≠ I) (h3 : tp ≠ I) :
    WalksU prog w A I [I, stk, d, tp] [I] 1 (fun _ v => v = #[.str x ta, .str y tb]) (fun j h => h.IsListIter I stk j ∧ OneAcc h stk d tp ta tb x y) (fun j T h => (j < 1 ∧ T = tp) ∧ h.IsListIter I stk (j + 1) ∧ OneAcc h stk d tp ta tb x y) where
  sub := fun b hb => by rw [List.mem_singleton.mp hb]; exact .head _
  frame := fun _ _ _ st hk => ⟨st.1.at fun o e => hk I (by simp) o e, by
    obtain ⟨⟨nk, ne, ⟨k, a⟩, ⟨hs, tk, tv, n, b⟩⟩, c⟩ := st.2
    exact ⟨⟨nk, ne, ⟨k, hk stk (by simp) _ a⟩, ⟨hs, tk, tv, n, hk d (by simp) _ b⟩⟩, hk tp (by simp) _ c⟩⟩
  item := fun i s Q E hi st hQ => by
    have hi0 : i = 0 := by omega
    subst hi0
    obtain ⟨_, _, ⟨k, a⟩, _⟩ := st.2.I
    refine next_item st.1 a rfl (x := .ref tp) rfl fun h' hit' hs' => ?_
    have O' := st.2.kp (Kp.same hs') (notin1 h1) (notin1 h2) (notin1 h3)
    exact hQ tp _ h' s.toks rfl ⟨_, O'.T, rfl, 0, rfl⟩ ⟨⟨hi, rfl⟩, hit', O'⟩ fun b o hb e => hs'.extBut b o (fun h => hb (by simp [h])) e
  go := fun _ _ _ _ _ s Q _ hm hQ => wpAny_letOwnedTupleGo_listiter hm.2.1 (hQ s.heap hm.2 fun _ _ _ e => e)
  apart := fun j T _ hm hmem => h3 (hm.1.2 ▸ List.mem_singleton.mp hmem)
  done := fun s Q E st hQ => by
    obtain ⟨_, _, ⟨k, a⟩, _⟩ := st.2.I
    exact next_end hh st.1 a rfl rfl fun h' he' => hQ h' s.toks fun b o hb e => he' b o (fun h => hb (by simp [h])) e
  self := fun _ _ _ _ st hQ => wpAny_pyIter_listiter st.1 hQ
end Mine
end
section
set_option maxRecDepth 100000
namespace Mine
section
variable {w : World} {A : Around} {h : Heap} {g : Array GenState} {dr : Drawn} {t : Nat} {os : OsState} {env : Env} {pos : Pos} {Q E : Value → Shared → Prop}
/-- the length of an object whose class has a method for it -/
theorem len_inst {x C f : Addr} {ox : Obj} {od : Option Obj} (X : HX (hd.heap_39 w.params) h) (I : InstAt h x ox C od) (hs : findIn (hd.heap_39 w.params) (.ref C) "__len__" = some (some (.ref f))) (hf : typeIn (hd.heap_39 w.params) (.ref f) = some (.type "function"))
    (hq : wpAny (model PySem.Challenge.rw_rl0011_01.row.prog w) A.in1 (call (.ref f) [.ref x]) (PySem.W.LenBack Q) E ⟨h, g, dr, t, os⟩) :
    wpAny (model PySem.Challenge.rw_rl0011_01.row.prog w) A (call (.builtin "len") [.ref x]) Q E ⟨h, g, dr, t, os⟩ := by
  refine Calls.call_function_entry kind_len plain_len entry_len (args_len1 _) ?_
  unfold Builtin.«len»
  refine wpAny_bind (m := oneArg "len" _) (wpAny_pure ?_)
  refine wpAny_bind (m := callSpecial? (.ref x) (Str.ofString "__len__")) (special_fn (s := ⟨h, g, dr, t, os⟩) X.x I hs hf (wpAny_mono hq (fun r s' hr => ?_) fun _ _ y => y))
  cases r <;> first | exact hr.elim | skip
  rename_i n u
  obtain ⟨⟨h0, h1⟩, hq⟩ := hr
  refine wpAny_bind (wpAny_holding (wpAny_pure (wpAny_bind (wpAny_letGo ?_))))
  show wpAny _ _ (if n < 0 then _ else _) _ _ _
  rw [if_neg (by omega)]
  show wpAny _ _ (if n ≥ 2 ^ 63 then _ else _) _ _ _
  rw [if_neg (by omega)]
  exact wpAny_bind (wpAny_mkInt (wpAny_pure ⟨_, rfl, hq⟩))
end
theorem bmod_ns (P : Params) : nsFind (nsEs P 3) "__builtins__" = some (.ref 4) := by kernel_rfl
theorem nk_tab : NK 77 ∧ NK 84 := by
  refine ⟨⟨fun P q => ?_, by decide⟩, ⟨fun P q => ?_, by decide⟩⟩
  · have : ((hd.heap_39 P).map (·.1)).contains 77 = false := by kernel_rfl
    rw [List.contains_iff_mem.mpr q] at this; cases this
  · have : ((hd.heap_39 P).map (·.1)).contains 84 = false := by kernel_rfl
    rw [List.contains_iff_mem.mpr q] at this; cases this
set_option maxHeartbeats 0 in
theorem len_acc : ∀ {w : World} {A : Around} {n : Nat} {h : Heap} {g : Array GenState} {dr : Drawn} {t : Nat} {os : OsState} {stk d tp : Addr} {ta tb : Tok} {x y : Str} {Q E : Value → Shared → Prop},
    Ok (n + 3) A → HX (hd.heap_39 w.params) h → M4 h → h.get? 77 = some (tableObj #[]) → OneAcc h stk d tp ta tb x y → AllBare g → x.length ≤ 100 → y.length ≤ 1000 →
    (∀ h' g' t' tk more, AllBare g' → Kp [77] h h' → h.TableAt 81 77 #[] → h'.TableAt 81 77 (#[] ++ more) → Q (.int ((x.length + y.length : Nat) : Int) tk) ⟨h', g', dr, t', os⟩) →
    wpAny (model PySem.Challenge.rw_rl0011_01.row.prog w) A (call (.builtin "len") [.ref stk]) Q E ⟨h, g, dr, t, os⟩ := by
  k_fill
  intro w A n h g dr t os stk d tp ta tb x y Q E ok X M h77 O G hx hy hq
  obtain ⟨ox, od, J, _⟩ := O.I.inst
  refine len_inst X J (acc_more _).2.1 (acc_more _).2.2.2.1 ?_
  refine' call_def [("self", .ref stk)] ok.in1 X ?ho ?hb ?hcd ?hbi ?hce ?hlo ?hco ?hge ?hk ?_
  case ho => k_is
  case hb => exact rfl
  case hcd => k_is
  case hbi => exact BindsTo.of_eq rfl
  case hce => decide
  case hlo => exact locs rfl
  case hco => exact rfl
  case hge => exact rfl
  case hk => exact rfl
  intro h₀ hn k₀
  have X₀ := in_keep X k₀ .nil
  have M₀ := M.kp k₀ nomem
  have O₀ := O.kp k₀ nomem nomem nomem
  have t₀ := k₀ _ _ nomem h77
  refine wpAny_execs_cons (wpAny_Return_some ?_)
  refine wpAny_Call_NameR (name_sum X₀ ?_)
  refine n_bi (n_arg ?_)
  refine' wpAny_GeneratorExp_walksQT (ok.in1.deeper _).hh rfl ?hclos ?hcell rfl rfl rfl (by decide) rfl (ok.in1.deeper _).room ?_ ?hs
  case hclos => exact rfl
  case hcell => decide
  case hs => intro _; with_unfolding_all rfl
  refine n_local hn rfl ?_
  refine iter_acc X₀ O₀.I ?_
  have k₁ := Kp.push h₀ { cls := .type "list_iterator", data := .fields #[.ref stk, .int 0 0] }
  have hI : (h₀.push { cls := .type "list_iterator", data := .fields #[.ref stk, .int 0 0] }).IsListIter h₀.objs.size stk 0 := ⟨_, Heap.get?_push_size _ rfl, rfl, rfl⟩
  have sI : h₀.objs.size < (h₀.push { cls := .type "list_iterator", data := .fields #[.ref stk, .int 0 0] }).objs.size := by rw [Heap.size_push]; omega
  generalize h₀.push { cls := .type "list_iterator", data := .fields #[.ref stk, .int 0 0] } = h₁ at *
  have X₁ := in_keep X₀ k₁ .nil
  have M₁ := M₀.kp k₁ nomem
  have O₁ := O₀.kp k₁ nomem nomem nomem
  have t₁ := k₁ _ _ nomem t₀
  have n₁ : h₁.Ns h.objs.size _ := hn.at' fun o e => k₁ _ o nomem e
  obtain ⟨_, _, ⟨ks, os₀⟩, ⟨q1, q2, q3, q4, od₀⟩⟩ := id O₀.I
  have l1 : stk < h₀.objs.size := Heap.lt_size os₀
  have l2 : d < h₀.objs.size := Heap.lt_size od₀
  have l3 : tp < h₀.objs.size := Heap.lt_size O₀.T
  refine ⟨noLimit_of X₁, ?_⟩
  have T₁ : h₁.TableAt 81 77 #[] := ⟨⟨_, _, X₁.x 81 _ rfl, rfl, rfl, rfl⟩, t₁⟩
  have C₁ : h₁.IsCode 81 77 #[] := ⟨_, _, _, _, _, _, _, _, _, _, X₁.x 81 _ rfl, rfl, rfl, rfl, rfl, rfl, rfl, t₁, rfl, trivial, by decide⟩
  refine wpAny_genexprCodeX rfl C₁ T₁ rfl fun c' h₂ t₂ hx₂ hge hlt _ _ T₂ _ => ?_
  have k₂ : Kp [77] h₁ h₂ := fun b o hb e => hx₂ b o (fun q => hb (by rw [q]; exact .head _)) e
  have X₂ := in_keep X₁ k₂ nk_tab.1.one
  obtain ⟨o4, e4, f4, g4, i4⟩ := M₁.kp k₂ (by decide)
  have ns77 : ∀ {a : Addr} {o : Obj}, h₁.get? a = some o → o.cls ≠ .none → a ∉ ([77] : List Addr) := fun e hc q => by
    rw [List.mem_singleton.mp q, t₁] at e; cases e; exact hc rfl
  have O₂ := O₁.kp k₂ (ns77 (k₁ _ _ nomem os₀) (by intro q; cases q)) (ns77 (k₁ _ _ nomem od₀) (by intro q; cases q)) (ns77 O₁.T (by intro q; cases q))
  have n₂ : h₂.Ns h.objs.size _ := n₁.at' fun o e => k₂ _ o (by
    intro q
    obtain ⟨_, _, _, e', dd, _⟩ := n₁
    rw [List.mem_singleton.mp q, t₁] at e'; cases e'; cases dd) e
  have hI₂ : h₂.IsListIter h₀.objs.size stk 0 := by
    obtain ⟨o, e, c, dd⟩ := hI
    exact ⟨o, k₂ _ _ (ns77 e (by rw [c]; intro q; cases q)) e, c, dd⟩
  have z₁ : h₁.objs.size ≤ h₂.objs.size := Nat.le_trans hge (Nat.le_of_lt hlt)
  refine wpAny_builtinsFor (globals_of X₂) (bmod_ns _) (by decide) e4 f4 g4 i4 ?_
  refine ⟨h₀.objs.size, [h₀.objs.size, stk, d, tp], [h₀.objs.size], 1, _, _, _, fun _ => true, fun _ v => ∃ u, v = .int ((x.length + y.length : Nat) : Int) u, rfl, fun A' hA => walk_acc hA h₀.objs.size (x := x) (y := y) (ta := ta) (tb := tb) (Nat.ne_of_lt l1) (Nat.ne_of_lt l2) (Nat.ne_of_lt l3), fun _ v e => ⟨_, _, e⟩, ⟨hI₂, O₂⟩, ?_, noLimit_of X₂, ?_, ?_, ?_⟩
  · intro b hb
    show b < h₂.objs.size
    have z₂ := Nat.lt_of_lt_of_le sI z₁
    rcases List.mem_cons.mp hb with rfl | hb
    · exact z₂
    rcases List.mem_cons.mp hb with rfl | hb
    · exact Nat.lt_trans l1 z₂
    rcases List.mem_cons.mp hb with rfl | hb
    · exact Nat.lt_trans l2 z₂
    · rw [List.mem_singleton.mp hb]; exact Nat.lt_trans l3 z₂
  · intro q
    have c2 : h₀.get? cStatics ≠ none := by
      rw [show (cStatics : Addr) = 2 from rfl, X₀.x 2 _ rfl]; simp
    rw [List.mem_singleton.mp q] at c2
    exact c2 (new_of (Nat.le_refl _))
  · intro href hhref
    refine ⟨fun A' E' i va vb s₂ m₂ hA hP hns ha hb hk => ?_, fun A' E' i va vb s₂ m₂ hA hP _ hns ha hb hk => ?_⟩
    · obtain ⟨h5, g5, dr5, t5, os5⟩ := s₂
      exact wpAny_pure ⟨rfl, (Kp.refl [] h5).keeps⟩
    · obtain ⟨rfl, rfl⟩ : va = .str x ta ∧ vb = .str y tb := by simpa using congrArg Array.toList hP
      obtain ⟨h5, g5, dr5, t5, os5⟩ := s₂
      dsimp only at hns hk
      have up : ∀ {a : Addr} {o : Obj}, h₂.get? a = some o → a ≠ h₀.objs.size → h5.get? a = some o := fun e hne => hk _ (List.mem_range.mpr (Heap.lt_size e)) (notin1 hne) _ (hhref _ _ e)
      have X5 : HX (hd.heap_39 w.params) h5 := by
        refine ⟨fun a o e => up (X₂.x a o e) (Nat.ne_of_lt (Heap.lt_size (X₀.x a o e))), ?_⟩
        obtain ⟨mb, nb, hb⟩ := X₂.b
        obtain ⟨_, nb0, _⟩ := X₀.b
        exact ⟨mb, nb.at' fun o e => up e (Nat.ne_of_lt nb0.lt), hb⟩
      refine wpAny_BinOp (wpAny_Call_NameR (name_len X5 (n_bi (n_arg (n_local hns ha (wpAny_items_nil (n_lens (by omega) fun _ _ => ?_)))))))
      refine wpAny_Call_NameR (name_len X5 (n_bi (n_arg (n_local hns hb (wpAny_items_nil (n_lens (by omega) fun _ _ => n_add fun u _ => ?_))))))
      exact ⟨⟨u, by simp⟩, (Kp.refl [] h5).keeps⟩
  intro a h₅ tk gs hgb ha5 hz5 hk5 W hat
  have k₅ : Kp [] h₂ h₅ := Kp.of hk5
  have X₅ := in_keep X₂ k₅ .nil
  have O₅ := O₂.kp k₅ nomem nomem nomem
  have n₅ : h₅.Ns h.objs.size _ := n₂.at' fun o e => k₅ _ o nomem e
  refine n_arg (Attribute_Name_ (n_local n₅ rfl (wpAny_with_toks (Nat.le_refl _) (getattr_acc (n := n + 1) (ok.in1.deeper _) X₅ O₅.I fun h₆ t₆ u₆ k₆ hle => wpAny_items_nil ?_))))
  have hst := W.frame 0 _ h₆ t₆ hat hle fun b _ o e => k₆ _ _ nomem e
  have hga : ∃ o, h₆.get? a = some o := by
    obtain ⟨o, _, _, ho, _⟩ := hst.1
    exact ⟨o, ho⟩
  obtain ⟨og, hog⟩ := hga
  have a6 : a < h₆.objs.size := Heap.lt_size hog
  refine sum_start (W.in4_1.self 0 _ _ _ hst ⟨a, _, _, _, _, _, _, fun _ => ((x.length + y.length : Nat) : Int), rfl, W.in4_1, hst, ?_, ?_, fun s' t' hm => ?_⟩)
  · intro b hb
    rcases List.mem_cons.mp hb with rfl | hb
    · exact a6
    rcases List.mem_cons.mp hb with rfl | hb
    · exact Nat.lt_trans ha5 a6
    · exact Nat.lt_trans (List.mem_range.mp hb) (Nat.lt_trans ha5 a6)
  · rintro j v ⟨i, _, u, rfl⟩
    exact .inl ⟨u, rfl⟩
  obtain ⟨h', g', dr', t'', os'⟩ := s'
  have e1 := hm.drawn
  have e2 := hm.os
  dsimp only at e1 e2
  subst e1 e2
  have kM : Kp [h₂.objs.size, h₀.objs.size] h₆ h' := hm.heap
  have up : ∀ {b : Addr} {o : Obj}, h₂.get? b = some o → b ≠ h₀.objs.size → h'.get? b = some o := fun {b o} e hne => kM b o (in2 (notin1 (Nat.ne_of_lt (Heap.lt_size e))) (notin1 hne)) (k₆ b o nomem (k₅ b o nomem e))
  have hp : preSum (fun _ => ((x.length + y.length : Nat) : Int)) (passing (fun _ => true) 1 0).length = ((x.length + y.length : Nat) : Int) := by
    show preSum (fun _ => ((x.length + y.length : Nat) : Int)) 1 = _
    simp [preSum]
  have hg := hm.gens.bare (AllBare.push G hgb)
  show PySem.W.LenBack Q (.int (preSum (fun _ => ((x.length + y.length : Nat) : Int)) (passing (fun _ => true) 1 0).length) t') _
  rw [hp]
  obtain ⟨⟨o, vs, e, r⟩, tt⟩ := T₂
  have h81 : h₀.get? 81 = some _ := X₀.x 81 _ rfl
  have hT : h'.TableAt 81 77 (#[] ++ _) := ⟨⟨o, vs, up e (Nat.ne_of_lt (Heap.lt_size h81)), r⟩, up tt (Nat.ne_of_lt (Heap.lt_size t₀))⟩
  refine ⟨⟨by omega, by omega⟩, hq h' g' _ _ _ hg ?_ ⟨⟨_, _, X.x 81 _ rfl, rfl, rfl, rfl⟩, h77⟩ hT⟩
  intro b o hb e
  have e0 := k₀ b o nomem e
  exact up (k₂ b o hb (k₁ b o nomem e0)) (Nat.ne_of_lt (Heap.lt_size e0))
end Mine
end
section
set_option maxRecDepth 100000
namespace Mine
theorem empty_str (P : Params) : nsFind (nsEs P 3) "EMPTYSTRING" = some (.str (Str.ofString "") 212) := by kernel_rfl
theorem join_two (x y : Str) : Txt.join (Str.ofString "") [x, y] = x ++ y := by
  have e : Str.ofString "" = ⟨#[]⟩ := by decide +kernel
  rw [e]
  unfold Txt.join
  show (⟨_⟩ : Str) = ⟨_⟩
  simp
theorem join_one (x : Str) : Txt.join (Str.ofString "") [x] = x := by
  have e : Str.ofString "" = ⟨#[]⟩ := by decide +kernel
  rw [e]
  unfold Txt.join
  show (⟨_⟩ : Str) = ⟨_⟩
  simp
set_option maxHeartbeats 0 in
theorem str_acc : ∀ {w : World} {A : Around} {n : Nat} {h : Heap} {g : Array GenState} {dr : Drawn} {t : Nat} {os : OsState} {stk d tp : Addr} {ta tb : Tok} {x y : Str} {Q E : Value → Shared → Prop},
    Ok (n + 4) A → HX (hd.heap_39 w.params) h → M4 h → h.get? 84 = some (tableObj #[]) → OneAcc h stk d tp ta tb x y → AllBare g → x.length ≤ 100 → y.length ≤ 1000 →
    (∀ h' g' t' tk more, AllBare g' → Kp [84] h h' → h.TableAt 88 84 #[] → h'.TableAt 88 84 (#[] ++ more) → Q (.str (x ++ y) tk) ⟨h', g', dr, t', os⟩) →
    wpAny (model PySem.Challenge.rw_rl0011_01.row.prog w) A (call (.type "str") [.ref stk]) Q E ⟨h, g, dr, t, os⟩ := by
  k_fill
  intro w A n h g dr t os stk d tp ta tb x y Q E ok X M h84 O G hx hy hq
  obtain ⟨ox, od, J, _⟩ := O.I.inst
  refine kso_call (by have := ok.un; unfold cLine; show A.units + 1 + 1 < _; omega) X.x J (acc_more _).2.2.1 (by kernel_rfl) ?_
  refine' call_def [("self", .ref stk)] ok.in1.in1 X ?ho ?hb ?hcd ?hbi ?hce ?hlo ?hco ?hge ?hk ?_
  case ho => k_is
  case hb => exact rfl
  case hcd => k_is
  case hbi => exact BindsTo.of_eq rfl
  case hce => decide
  case hlo => exact locs rfl
  case hco => exact rfl
  case hge => exact rfl
  case hk => exact rfl
  intro h₀ hn k₀
  have X₀ := in_keep X k₀ .nil
  have M₀ := M.kp k₀ nomem
  have O₀ := O.kp k₀ nomem nomem nomem
  have t₀ := k₀ _ _ nomem h84
  refine wpAny_execs_cons (wpAny_Return_some ?_)
  refine MethodCall_ (name_own X₀ (empty_str _) (GM.join (n_bi (n_arg ?_))))
  refine' wpAny_GeneratorExp_walksQT (ok.in1.in1.deeper _).hh rfl ?hclos ?hcell rfl rfl rfl (by decide) rfl (ok.in1.in1.deeper _).room ?_ ?hs
  case hclos => exact rfl
  case hcell => decide
  case hs => intro _; with_unfolding_all rfl
  refine n_local hn rfl ?_
  refine iter_acc X₀ O₀.I ?_
  have k₁ := Kp.push h₀ { cls := .type "list_iterator", data := .fields #[.ref stk, .int 0 0] }
  have hI : (h₀.push { cls := .type "list_iterator", data := .fields #[.ref stk, .int 0 0] }).IsListIter h₀.objs.size stk 0 := ⟨_, Heap.get?_push_size _ rfl, rfl, rfl⟩
  have sI : h₀.objs.size < (h₀.push { cls := .type "list_iterator", data := .fields #[.ref stk, .int 0 0] }).objs.size := by rw [Heap.size_push]; omega
  generalize h₀.push { cls := .type "list_iterator", data := .fields #[.ref stk, .int 0 0] } = h₁ at *
  have X₁ := in_keep X₀ k₁ .nil
  have M₁ := M₀.kp k₁ nomem
  have O₁ := O₀.kp k₁ nomem nomem nomem
  have t₁ := k₁ _ _ nomem t₀
  have n₁ : h₁.Ns h.objs.size _ := hn.at' fun o e => k₁ _ o nomem e
  obtain ⟨_, _, ⟨ks, os₀⟩, ⟨q1, q2, q3, q4, od₀⟩⟩ := id O₀.I
  have l1 : stk < h₀.objs.size := Heap.lt_size os₀
  have l2 : d < h₀.objs.size := Heap.lt_size od₀
  have l3 : tp < h₀.objs.size := Heap.lt_size O₀.T
  refine ⟨noLimit_of X₁, ?_⟩
  have T₁ : h₁.TableAt 88 84 #[] := ⟨⟨_, _, X₁.x 88 _ rfl, rfl, rfl, rfl⟩, t₁⟩
  have C₁ : h₁.IsCode 88 84 #[] := ⟨_, _, _, _, _, _, _, _, _, _, X₁.x 88 _ rfl, rfl, rfl, rfl, rfl, rfl, rfl, t₁, rfl, trivial, by decide⟩
  refine wpAny_genexprCodeX rfl C₁ T₁ rfl fun c' h₂ t₂ hx₂ hge hlt _ _ T₂ _ => ?_
  have k₂ : Kp [84] h₁ h₂ := fun b o hb e => hx₂ b o (fun q => hb (by rw [q]; exact .head _)) e
  have X₂ := in_keep X₁ k₂ nk_tab.2.one
  obtain ⟨o4, e4, f4, g4, i4⟩ := M₁.kp k₂ (by decide)
  have ns84 : ∀ {a : Addr} {o : Obj}, h₁.get? a = some o → o.cls ≠ .none → a ∉ ([84] : List Addr) := fun e hc q => by
    rw [List.mem_singleton.mp q, t₁] at e; cases e; exact hc rfl
  have O₂ := O₁.kp k₂ (ns84 (k₁ _ _ nomem os₀) (by intro q; cases q)) (ns84 (k₁ _ _ nomem od₀) (by intro q; cases q)) (ns84 O₁.T (by intro q; cases q))
  have n₂ : h₂.Ns h.objs.size _ := n₁.at' fun o e => k₂ _ o (by
    intro q
    obtain ⟨_, _, _, e', dd, _⟩ := n₁
    rw [List.mem_singleton.mp q, t₁] at e'; cases e'; cases dd) e
  have hI₂ : h₂.IsListIter h₀.objs.size stk 0 := by
    obtain ⟨o, e, c, dd⟩ := hI
    exact ⟨o, k₂ _ _ (ns84 e (by rw [c]; intro q; cases q)) e, c, dd⟩
  have z₁ : h₁.objs.size ≤ h₂.objs.size := Nat.le_trans hge (Nat.le_of_lt hlt)
  refine wpAny_builtinsFor (globals_of X₂) (bmod_ns _) (by decide) e4 f4 g4 i4 ?_
  refine ⟨h₀.objs.size, [h₀.objs.size, stk, d, tp], [h₀.objs.size], 1, _, _, _, fun _ => true, fun _ v => ∃ u, v = .str (x ++ y) u, rfl, fun A' hA => walk_acc hA h₀.objs.size (x := x) (y := y) (ta := ta) (tb := tb) (Nat.ne_of_lt l1) (Nat.ne_of_lt l2) (Nat.ne_of_lt l3), fun _ v e => ⟨_, _, e⟩, ⟨hI₂, O₂⟩, ?_, noLimit_of X₂, ?_, ?_, ?_⟩
  · intro b hb
    show b < h₂.objs.size
    have z₂ := Nat.lt_of_lt_of_le sI z₁
    rcases List.mem_cons.mp hb with rfl | hb
    · exact z₂
    rcases List.mem_cons.mp hb with rfl | hb
    · exact Nat.lt_trans l1 z₂
    rcases List.mem_cons.mp hb with rfl | hb
    · exact Nat.lt_trans l2 z₂
    · rw [List.mem_singleton.mp hb]; exact Nat.lt_trans l3 z₂
  · intro q
    have c2 : h₀.get? cStatics ≠ none := by
      rw [show (cStatics : Addr) = 2 from rfl, X₀.x 2 _ rfl]; simp
    rw [List.mem_singleton.mp q] at c2
    exact c2 (new_of (Nat.le_refl _))
  · intro href hhref
    refine ⟨fun A' E' i va vb s₂ m₂ hA hP hns ha hb hk => ?_, fun A' E' i va vb s₂ m₂ hA hP _ hns ha hb hk => ?_⟩
    · obtain ⟨h5, g5, dr5, t5, os5⟩ := s₂
      exact wpAny_pure ⟨rfl, (Kp.refl [] h5).keeps⟩
    · obtain ⟨rfl, rfl⟩ : va = .str x ta ∧ vb = .str y tb := by simpa using congrArg Array.toList hP
      obtain ⟨h5, g5, dr5, t5, os5⟩ := s₂
      dsimp only at hns hk
      have up : ∀ {a : Addr} {o : Obj}, h₂.get? a = some o → a ≠ h₀.objs.size → h5.get? a = some o := fun e hne => hk _ (List.mem_range.mpr (Heap.lt_size e)) (notin1 hne) _ (hhref _ _ e)
      have X5 : HX (hd.heap_39 w.params) h5 := by
        refine ⟨fun a o e => up (X₂.x a o e) (Nat.ne_of_lt (Heap.lt_size (X₀.x a o e))), ?_⟩
        obtain ⟨mb, nb, hb⟩ := X₂.b
        obtain ⟨_, nb0, _⟩ := X₀.b
        exact ⟨mb, nb.at' fun o e => up e (Nat.ne_of_lt nb0.lt), hb⟩
      refine MethodCall_ (name_own X5 (empty_str _) (GM.join (n_bi (n_arg (n_tup2 (n_local hns ha (n_local hns hb ⟨_, _, rfl, fun h7 a k7 _ e7 => wpAny_items_nil ?_⟩)))))))
      refine join_tupleW (items := #[.str x ta, .str y tb]) (ys := [x, y]) ⟨_, e7, rfl, _, rfl⟩ (.cons _ _ (.cons _ _ .nil)) (by decide) (by simp; omega) fun t' k => ?_
      rw [join_two]
      exact ⟨⟨t', rfl⟩, k7.keeps⟩
  intro a h₅ tk gs hgb ha5 hz5 hk5 W hat
  have k₅ : Kp [] h₂ h₅ := Kp.of hk5
  have X₅ := in_keep X₂ k₅ .nil
  have O₅ := O₂.kp k₅ nomem nomem nomem
  have n₅ : h₅.Ns h.objs.size _ := n₂.at' fun o e => k₅ _ o nomem e
  refine wpAny_items_nil ?_
  have hga : ∃ o, h₅.get? a = some o := by
    obtain ⟨o, _, _, ho, _⟩ := hat.1
    exact ⟨o, ho⟩
  obtain ⟨og, hog⟩ := hga
  have a6 : a < h₅.objs.size := Heap.lt_size hog
  refine SC.joinGen W.in4_2 (fun i s st => st.1.typeIs) hat ?_ List.mem_cons_self (fun i v hv => ?_) fun s' l hm hacc => ?_
  · intro b hb
    rcases List.mem_cons.mp hb with rfl | hb
    · exact a6
    rcases List.mem_cons.mp hb with rfl | hb
    · exact Nat.lt_trans ha5 a6
    · exact Nat.lt_trans (List.mem_range.mp hb) (Nat.lt_trans ha5 a6)
  · obtain ⟨_, _, u, rfl⟩ := hv
    exact ⟨_, _, rfl⟩
  have hl : l.map (·.1) = [x ++ y] := by
    obtain ⟨h1, h2⟩ := hacc
    match l, h1, h2 with
    | [p], _, h2 =>
      obtain ⟨_, _, u, hv⟩ := h2 0 (.str p.1 p.2) rfl
      injection hv with hv _
      rw [← hv]; rfl
    | [], h1, _ => exact absurd h1 (by decide)
    | p :: q :: r, h1, _ =>
      have h3 : (passing (fun _ => true) 1 0).length = 1 := rfl
      rw [h3] at h1
      simp [strValues] at h1
  rw [hl, join_one]
  refine ⟨joinOk_of_weight (by simp [Str.length_append]; omega) (by decide), fun t' k => ?_⟩
  obtain ⟨h', g', dr', t'', os'⟩ := s'
  have e1 := hm.drawn
  have e2 := hm.os
  dsimp only at e1 e2
  subst e1 e2
  have kM : Kp [h₂.objs.size, h₀.objs.size] h₅ h' := hm.heap
  have up : ∀ {b : Addr} {o : Obj}, h₂.get? b = some o → b ≠ h₀.objs.size → h'.get? b = some o := fun {b o} e hne => kM b o (in2 (notin1 (Nat.ne_of_lt (Heap.lt_size e))) (notin1 hne)) (k₅ b o nomem e)
  have hg := hm.gens.bare (AllBare.push G hgb)
  obtain ⟨⟨o, vs, e, r⟩, tt⟩ := T₂
  have h88 : h₀.get? 88 = some _ := X₀.x 88 _ rfl
  have hT : h'.TableAt 88 84 (#[] ++ _) := ⟨⟨o, vs, up e (Nat.ne_of_lt (Heap.lt_size h88)), r⟩, up tt (Nat.ne_of_lt (Heap.lt_size t₀))⟩
  refine hq h' g' _ _ _ hg ?_ ⟨⟨_, _, X.x 88 _ rfl, rfl, rfl, rfl⟩, h84⟩ hT
  intro b o hb e
  have e0 := k₀ b o nomem e
  exact up (k₂ b o hb (k₁ b o nomem e0)) (Nat.ne_of_lt (Heap.lt_size e0))
end Mine
end
namespace Mine
theorem stk_one {h0 h : Heap} {stk d : Addr} {vs : List Value} {x y : Str} (S : Stk h0 h stk d vs [(x, y)]) : ∃ tp ta tb, vs = [.ref tp] ∧ OneAcc h stk d tp ta tb x y := by
  obtain ⟨I, P, _, _⟩ := S
  cases P with
  | cons e r =>
    cases r
    exact ⟨_, _, _, rfl, I, e⟩
set_option maxRecDepth 100000 in
set_option maxHeartbeats 0 in
theorem law5 : ∀ {w : World} {A : Around} {n : Nat} {h0 h : Heap} {dr : Drawn} {t : Nat} {os : OsState} {m : Str → Option Value} {stk d : Addr} {u : Tok} {cw cm cd cl : Option Value} {vs : List Value} {s : Str} {Q : Flow → Shared → Prop} {E : Value → Shared → Prop},
    Ok (n + 6) A → HX (hd.heap_39 w.params) h → M4 h0 → h0.get? 77 = some (tableObj #[]) → h0.get? 84 = some (tableObj #[]) → Frm w.params h0 h m cw cm cd (some (.ref stk)) cl → Stk h0 h stk d vs [(Str.empty, s)] → m "due" = some (.str s u) → s.length ≤ 1000 →
    (∀ h' g' t', AllBare g' → OldK h0 h' → Q (.ret (.bool true)) ⟨h', g', dr, t', os⟩) →
    wpAny (model PySem.Challenge.rw_rl0011_01.row.prog w) A (execs ((bodyOf (fdOf w.params 143)).drop 14) (callEnvC (fdOf w.params 143) h0.objs.size 143)) Q E ⟨h, #[], dr, t, os⟩ := by
  k_fill
  intro w A n h0 h dr t os m stk d u cw cm cd cl vs s Q E ok _ M0 t77 t84 F S mD hs hq
  refine' open_body (P := w.params) (f := 143) ?ho fun e => ?_
  case ho => k_is
  rw [e]
  dsimp only [bodyOf, List.drop_succ_cons, List.drop_zero]
  obtain ⟨tp, ta, tb, rfl, O⟩ := stk_one S
  obtain ⟨_, ne, ⟨k, ho⟩, ⟨q1, q2, q3, q4, hd'⟩⟩ := id O.I
  refine wpAny_execs_cons (wpAny_Return_some (BoolOp_and ?_))
  refine wpAny_Compare1 (wpAny_Call_NameR (name_str F.X (n_type (n_arg (n_cell F.c4 rfl (wpAny_items_nil ?_))))))
  have M := M0.kp F.k nomem
  have h84 : h.get? 84 = some (tableObj #[]) := F.k _ _ nomem t84
  refine str_acc (n := n) (ok.le (by omega)) F.X M h84 O .empty (by decide) hs fun h₁ g₁ t₁ u₁ more₁ G₁ k₁ T₀ T₁ => ?_
  have hzs : Str.empty ++ s = s := by
    show (⟨_⟩ : Str) = _
    cases s
    simp [Str.empty]
  rw [hzs]
  have no84 : ∀ {a : Addr} {o : Obj}, h.get? a = some o → o.cls ≠ .none → a ∉ ([84] : List Addr) := fun e hc q => by
    rw [List.mem_singleton.mp q, h84] at e; cases e; exact hc rfl
  have X₁ := in_keep F.X k₁ nk_tab.2.one
  have O₁ := O.kp k₁ (no84 ho (by intro q; cases q)) (no84 hd' (by intro q; cases q)) (no84 O.T (by intro q; cases q))
  have L84 : h0.objs.size ∉ ([84] : List Addr) := notin1 (Nat.ne_of_gt (ltOf t84))
  have L77 : h0.objs.size ∉ ([77] : List Addr) := notin1 (Nat.ne_of_gt (ltOf t77))
  have n₁ : h₁.Ns h0.objs.size m := F.ns.at' fun o e => k₁ _ o L84 e
  have s84 : h0.objs.size + 1 + 1 + 1 + 1 ∉ ([84] : List Addr) := notin1 (by have := ltOf t84; omega)
  have c₁ := IsCell.kp F.c4 k₁ s84
  refine n_local n₁ mD (PyProof.Rows.eq_str (wpAny_truthy_bool ?_))
  rw [if_pos (by simp)]
  refine BoolOp_one (wpAny_Compare1 (wpAny_Call_NameR (name_len X₁ (n_bi (n_arg (n_cell c₁ rfl (wpAny_items_nil ?_)))))))
  have h77 : h₁.get? 77 = some (tableObj #[]) := k₁ 77 _ (notin1 (by decide)) (F.k _ _ nomem t77)
  refine len_acc (n := n) (ok.le (by omega)) X₁ (M.kp k₁ (by decide)) h77 O₁ G₁ (by decide) hs fun h₂ g₂ t₂ u₂ more G₂ k₂ T₂ T₃ => ?_
  have X₂ := in_keep X₁ k₂ nk_tab.1.one
  have n₂ : h₂.Ns h0.objs.size m := n₁.at' fun o e => k₂ _ o L77 e
  refine wpAny_Call_NameR (name_len X₂ (n_bi (n_arg (n_local n₂ mD (wpAny_items_nil (n_lens (by omega) fun _ _ => n_eq ?_))))))
  have he : ((((Str.empty.length + s.length : Nat) : Int)) == ((s.length : Nat) : Int)) = true := by
    have : Str.empty.length = 0 := by decide
    rw [this]; simp
  rw [he]
  refine hq h₂ g₂ _ G₂ ?_
  have K₁ : OldK h0 h₁ := (OldK.of_keep F.k.all).step_table (c₀ := 88) (ps₀ := #[]) ⟨⟨_, _, F.X0.x 88 _ rfl, rfl, rfl, rfl⟩, t84⟩ T₀ T₁ (fun b o hb e => k₁ b o (notin1 hb) e) (by decide)
  exact K₁.step_table (c₀ := 81) (ps₀ := #[]) ⟨⟨_, _, F.X0.x 81 _ rfl, rfl, rfl, rfl⟩, t77⟩ T₂ T₃ (fun b o hb e => k₂ b o (notin1 hb) e) (by decide)
end Mine
namespace Mine
theorem cells_length (ls : List Int) : (cellsOf ls).length = ls.length := by
  unfold cellsOf
  rw [List.length_map, mids_length]
set_option maxRecDepth 100000 in
set_option maxHeartbeats 0 in
theorem law_all {w : World} {A : Around} {h0 h : Heap} {dr : Drawn} {t : Nat} {os : OsState} {m : Str → Option Value} {l : Addr} {vs : List Value} {script : List Int} {Q : Flow → Shared → Prop} {E : Value → Shared → Prop}
    (ok : Ok 40 A) (X : HX (hd.heap_39 w.params) h) (M0 : M4 h0) (t77 : h0.get? 77 = some (tableObj #[])) (t84 : h0.get? 84 = some (tableObj #[])) (F : Frm w.params h0 h m none none none none none) (ms : m "script" = some (.ref l)) (hl : h.IsList l vs.toArray) (hi : IntsAre vs script) (hlen : script.length ≤ 63)
    (hq : ∀ h' g' t', AllBare g' → OldK h0 h' → Q (.ret (.bool true)) ⟨h', g', dr, t', os⟩) :
    wpAny (model PySem.Challenge.rw_rl0011_01.row.prog w) A (execs (bodyOf (fdOf w.params 143)) (callEnvC (fdOf w.params 143) h0.objs.size 143)) Q E ⟨h, #[], dr, t, os⟩ := by
  obtain ⟨n1, n2⟩ := lengths_length script
  obtain ⟨W, hW, hW1, hW2⟩ := whole_range script
  obtain ⟨lv, p1, p2, s, p3, p4, p5⟩ := plain script
  obtain ⟨_, _, d3⟩ := depth_facts W hW2 (by omega)
  have hWn : (lengthsOf script).sum.toNat = W := by rw [hW]; rfl
  refine law1 (n := 0) (ok.le (by omega)) X F ms hl hi hlen fun h₁ t₁ m₁ D1 D2 D3 u1 u2 v1 v2 v3 F₁ a1 a2 a3 a4 a5 a6 a7 a8 a9 a10 a11 => ?_
  refine law2 (n := 0) (N := (lengthsOf script).length) (ls := lengthsOf script) (cs := cellsOf (lengthsOf script)) (lv := lv) (ok.le (by omega)) F₁.X F₁ a1 a2 a3 a4 a5 a6 a7 a8 a10 a11 rfl (cells_length _) (by omega) n2 p1 p2 fun h₂ t₂ m₂ stk d vs₂ cl₂ F₂ S₂ b1 b2 b3 => ?_
  refine law3 (n := 0) (ok.le (by omega)) F₂.X F₂ S₂ (stackAt_ne _ _) (p2 _ (by omega)).1 (p2 _ (by omega)).2 b1 b2 b3 fun h₃ t₃ m₃ vs₃ cl₃ F₃ S₃ c1 c2 c3 => ?_
  rw [p3] at S₃
  refine law4 (n := 0) (f := depthOf (lengthsOf script).sum.toNat + 1) (ls := lengthsOf script) (ok.le (by rw [hWn]; omega)) F₃.X F₃ S₃ c1 c2 a7 c3 a9 n2 (by rw [hWn]; omega) p5 fun h₄ t₄ m₄ u₄ F₄ S₄ e1 => ?_
  exact law5 (n := 0) (ok.le (by omega)) F₄.X M0 t77 t84 F₄ S₄ e1 p4 hq
end Mine
namespace Mine
theorem okCaller : Ok 41 callerA := ⟨rfl, ⟨_, rfl⟩, by decide, by decide⟩
set_option maxRecDepth 100000 in
set_option maxHeartbeats 0 in
theorem law_c : ∀ {w : World} {h : Heap} {dr : Drawn} {t : Nat} {os : OsState} {l : Addr} {vs : List Value} {script : List Int} {Q E : Value → Shared → Prop},
    HX (hd.heap_39 w.params) h → M4 h → h.get? 77 = some (tableObj #[]) → h.get? 84 = some (tableObj #[]) → h.IsList l vs.toArray → IntsAre vs script → script.length ≤ 63 →
    (∀ h' g' t', AllBare g' → OldK h h' → Q (.bool true) ⟨h', g', dr, t', os⟩) →
    wpAny (model PySem.Challenge.rw_rl0011_01.row.prog w) callerA (call (.ref 143) [.ref l]) Q E ⟨h, #[], dr, t, os⟩ := by
  k_fill
  intro w h dr t os l vs script Q E X M t77 t84 hl hi hlen hq
  refine' open_body (P := w.params) (f := 143) ?ho1 fun e => ?_
  case ho1 => k_is
  refine' call_defC [("script", .ref l)] okCaller X ?ho ?hb ?hcd ?hbi ?hce ?hlo ?hco ?hge ?hk ?_
  case ho => k_is
  case hb => exact rfl
  case hcd => k_is
  case hbi => exact rfl
  case hce => exact rfl
  case hlo => exact locs rfl
  case hco => exact rfl
  case hge => exact rfl
  case hk => exact rfl
  intro h₀ t₀ ns₀ cells₀ k₀
  obtain ⟨_, c1⟩ := cells₀ "whole" (h.objs.size + 1) rfl
  obtain ⟨_, c2⟩ := cells₀ "middles" (h.objs.size + 1 + 1) rfl
  obtain ⟨_, c3⟩ := cells₀ "depth" (h.objs.size + 1 + 1 + 1) rfl
  obtain ⟨_, c4⟩ := cells₀ "stack" (h.objs.size + 1 + 1 + 1 + 1) rfl
  obtain ⟨_, c5⟩ := cells₀ "level" (h.objs.size + 1 + 1 + 1 + 1 + 1) rfl
  have F : Frm w.params h h₀ _ none none none none none := ⟨X, in_keep X k₀ .nil, ns₀, k₀, c1, c2, c3, c4, c5⟩
  have H := fun A (ok : Ok 40 A) => law_all (A := A) (dr := dr) (t := t₀) (os := os) (Q := fun fl s' => Q (match fl with | .ret v => v | _ => .none) s') (E := fun _ _ => False) ok F.X M t77 t84 F rfl (hl.at fun o e => k₀ _ o nomem e) hi hlen hq
  rw [e] at H
  exact H _ (okCaller.deeper _)
set_option maxRecDepth 100000 in
set_option maxHeartbeats 0 in
theorem fin : PySem.Challenge.rw_rl0011_01.Holds := by
  refine Mine.hd ?_
  k_fill
  intro w s₀ s₁ mg mb G Y fa o pm cd doc dV kV ho hdd hcd hD hmg hg args vals as hpre hlay hrd hwl hlo
  have KX := km_in_of Y
  have KT := km_tabs_of Y
  have X := (Ground.X G).1
  have V := (Ground.X G).2
  refine Ground.open G ?_
  intro T B D TE TW
  wrow_args hpre hlay hrd hwl hlo
  x_fa T KX hmg
  have HB : BI s₁.heap := ⟨mb, T.b, T.builtins⟩
  have HM : M4 s₁.heap := by
    obtain ⟨bm, ob, e1, _, e2, e3, e4, e5⟩ := T.bmain
    have e6 := mg_of (n := Str.ofString "__builtins__") (v := .ref 4) KX T.g (by kernel_rfl)
    rw [e6] at e1
    cases e1
    exact ⟨ob, e2, e3, e4, e5⟩
  have t77 : s₁.heap.get? 77 = some (tableObj #[]) := KT 77 (.head _)
  have t84 : s₁.heap.get? 84 = some (tableObj #[]) := KT 84 (.tail _ (.head _))
  clear hmg ho hcd hD hdd TW TE D B T V X KT
  rename s₁.heap.IsList _ _ => hl
  rename IntsAre _ _ => hi
  rename ¬ _ < _ => hle
  obtain ⟨h, g, dr, t, os⟩ := s₁
  dsimp only at hg
  subst hg
  refine law_c ⟨KX, HB⟩ HM t77 t84 hl hi (by omega) fun h' g' t' G' K' => ?_
  refine ⟨.inl ⟨_, _, [], rfl, fun _ => rfl, ReadsW.bool true, ?_, fun _ => ⟨List.nodup_nil, fun _ hm => nomatch hm⟩⟩, K', rfl, G'⟩
  first | rfl | wrow_post
end Mine
set_option maxRecDepth 100000 in
set_option maxHeartbeats 0 in
theorem PySem.Challenge.cw_rl0011_01_holds : PySem.Challenge.rw_rl0011_01.Holds := by
  exact Mine.fin
