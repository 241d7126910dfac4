import PyProof.Rows.All
import Wide.All
import OpenK.AllK
import Wide.FinOn
import PySem.Challenge.RW_dp0028_01
set_option Elab.async false
set_option linter.unusedVariables false
/-! part Hd -/
noncomputable section
open PySem PySem.W PySem.W.X PyProof.Rows
namespace Mine
section
/-- no head here: this only lays out the top's objects (frag.heap..) for the hook below -/
local macro_rules | `(tactic| o_head $_) => `(tactic| contradiction)
set_option maxRecDepth 100000 in
set_option maxHeartbeats 0 in
theorem frag (no : False) : PySem.Challenge.rw_dp0028_01.row.Holds := by k_head
end
/-- the written part of the heap: the objects that k_head lays out, the module builtins and the two empty code tables -/
noncomputable def top (P : Params) : Frag := (4, { cls := .type "module", dict := some 0 }) :: (16, { cls := .none, data := .fields #[] }) :: (67, { cls := .none, data := .fields #[] }) :: Mine.frag.heap_1 P
def topAt : List Addr := [4, 16, 67, 2, 3, 6, 15, 17, 18, 20, 21, 22, 23, 24, 26, 27, 29, 30, 31, 33, 34, 36, 37, 38, 40, 41, 43, 44, 45, 47, 48, 50, 51, 52, 54, 55, 57, 58, 59, 61, 62, 64, 65, 66, 69, 70]
/-- what is seen at the top's end: the written part, and the name of builtins -/
def Seen (w : World) (h : Heap) : Prop := (top w.params).In h ∧ h.nsMap builtinsNs "__name__" = some (.str "builtins" 160)
theorem top_at : ∀ P, topAt = (top P).map (·.1) := fun _ => by kernel_rfl
theorem Seen.of (w : World) (s : Shared) (e : (topAt.map s.heap.get?, s.heap.nsMap builtinsNs "__name__") = ((top w.params).map (fun p => some p.2), some (.str "builtins" 160))) : Seen w s.heap :=
  ⟨InK.of top_at w s (congrArg Prod.fst e), congrArg Prod.snd e⟩
theorem Seen.keeps (w : World) (h h' : Heap) (x : Seen w h) (k : ∀ b o, h.get? b = some o → h'.get? b = some o) : Seen w h' := by
  refine ⟨Frag.In.keeps x.1 k, ?_⟩
  have e := x.2
  unfold Heap.nsMap at e ⊢
  cases ho : h.get? builtinsNs with
  | none => rw [ho] at e; cases e
  | some o => rw [k _ _ ho]; rw [ho] at e; exact e
noncomputable abbrev hook : Hook := ⟨List (Option Obj) × Option Value, fun s => (topAt.map s.heap.get?, s.heap.nsMap builtinsNs "__name__"), fun w => ((top w.params).map (fun p => some p.2), some (.str "builtins" 160)), Seen, Seen.of, Seen.keeps⟩
section
local macro_rules | `(tactic| k_head) => `(tactic| o_head Mine.hook)
set_option maxRecDepth 100000 in
set_option maxHeartbeats 0 in
open_top hd for PySem.Challenge.rw_dp0028_01
end
/-- the names of builtins -/
noncomputable def mbl (w : World) (x : Str) : Option Value := if x = "__name__" then some (.str "builtins" 160) else bootBuiltins x
theorem ns0_of {w : World} {h : Heap} {mb : Str → Option Value} (b : h.Ns builtinsNs mb) (e : ∀ x : Str, x ≠ "__name__" → mb x = bootBuiltins x) (n : h.nsMap builtinsNs "__name__" = some (.str "builtins" 160)) : h.Ns 0 (mbl w) := by
  obtain ⟨o, es, ep, ho, hd, hk, hf⟩ := b
  refine ⟨o, es, ep, ho, hd, hk, fun x => ?_⟩
  rw [hf x]
  unfold mbl
  by_cases hx : x = "__name__"
  · rw [if_pos hx, hx, ← hf]
    unfold Heap.nsMap at n
    rw [ho] at n
    dsimp only at n
    rw [hd] at n
    exact n
  · rw [if_neg hx, e x hx]
/-- what the walk must show, over the written part K of the heap -/
def Walk (K : Params → Frag) : Prop :=
  ∀ (w : World) (s₁ : Shared) (l : Addr) (vals : List Value) (zs : List Int), (K w.params).In s₁.heap → s₁.heap.Ns 0 (mbl w) → s₁.gens = #[] → s₁.heap.IsList l vals.toArray → IntsAre vals zs → zs.length ≤ 63 →
    wpAny (model PySem.Challenge.pw_dp0028_01 w) callerA (call (.ref 70) [.ref l])
      (fun v s' => v = .bool true ∧ OldK s₁.heap s'.heap ∧ s'.gens = #[] ∧ s'.os = s₁.os) (fun _ _ => False) s₁
set_option maxRecDepth 100000 in
set_option maxHeartbeats 0 in
theorem fin (walk : Walk Mine.top) : PySem.Challenge.rw_dp0028_01.Holds := Mine.hd (by
    intro w s₀ s₁ mg mb G Y fa o pm cd doc dV kV ho hd hcd hD hmg hg args vals as hpre hlay hrd hwl hlo
    have KX : (top w.params).In s₁.heap := Y.1
    refine Ground.open G ?_
    intro T B D TE TW
    wrow_args hpre hlay hrd hwl hlo
    x_fa T KX hmg
    refine wpAny_mono (walk w s₁ _ _ _ KX (ns0_of T.b T.builtins Y.2) hg (by assumption) (by assumption) (by omega)) (fun v s' h => ?_) (fun _ _ h => False.elim h)
    obtain ⟨rfl, hk, hgg, hos⟩ := h
    exact ⟨.inl ⟨_, _, [], rfl, fun _ => rfl, ReadsW.bool true, by first | rfl | wrow_post, fun _ => ⟨List.nodup_nil, fun _ hm => (nomatch hm)⟩⟩, hk, hos, by rw [hgg]; exact AllBare.empty⟩)
end Mine
end
/-! part C1 -/
noncomputable section
open PySem PySem.W PyProof.Rows
namespace Mine
abbrev P0 : Program := PySem.Challenge.pw_dp0028_01
/-- the written part but the two code tables that the law fills -/
structure Gl (w : World) (h : Heap) : Prop where
  all : ∀ a o, a ≠ 16 → a ≠ 67 → (top w.params).lookup a = some o → h.get? a = some o
  ns0 : h.Ns 0 (mbl w)
theorem Gl.keeps {w : World} {h h' : Heap} (G : Gl w h) (k : ∀ b o, h.get? b = some o → h'.get? b = some o) : Gl w h' := ⟨fun a o n m e => k _ _ (G.all a o n m e), let ⟨o, es, ep, ho, r⟩ := G.ns0; ⟨o, es, ep, k _ _ ho, r⟩⟩
structure Ext (s s' : Shared) : Prop where
  keep : ∀ b o, s.heap.get? b = some o → s'.heap.get? b = some o
  gens : s'.gens = s.gens
  os : s'.os = s.os
theorem Ext.refl (s : Shared) : Ext s s := ⟨fun _ _ e => e, rfl, rfl⟩
theorem Ext.trans {s s' s'' : Shared} (x : Ext s s') (y : Ext s' s'') : Ext s s'' := ⟨fun b o e => y.keep _ _ (x.keep _ _ e), y.gens.trans x.gens, y.os.trans x.os⟩
set_option maxRecDepth 100000 in
theorem Gl.nolimit {w : World} {h : Heap} (G : Gl w h) : h.NoLimit :=
  ⟨fun _ => none, ⟨_, _, _, G.all 2 _ (by decide) (by decide) rfl, rfl, fun e he => by simp at he, fun _ => rfl⟩, rfl⟩
/-- a point: a tuple of two ints -/
def Pt (h : Heap) (a : Addr) (p : Int × Int) : Prop := ∃ t u, IsTup h a [Value.int p.1 t, Value.int p.2 u].toArray
theorem Pt.keeps {h h' : Heap} {a : Addr} {p : Int × Int} (x : Pt h a p) (k : ∀ b o, h.get? b = some o → h'.get? b = some o) : Pt h' a p := by
  obtain ⟨t, u, y⟩ := x; exact ⟨t, u, y.keeps k⟩
def Bd (p : Int × Int) : Prop := 0 ≤ p.1 ∧ p.1 ≤ 63 ∧ 0 ≤ p.2 ∧ p.2 ≤ 63
def turn (o a b : Int × Int) : Int := (a.1 - o.1) * (b.2 - o.2) - (a.2 - o.2) * (b.1 - o.1)
def far (a b : Int × Int) : Int := (if a.1 - b.1 < 0 then -(a.1 - b.1) else a.1 - b.1) + (if a.2 - b.2 < 0 then -(a.2 - b.2) else a.2 - b.2)
section
variable {w : World} {A : Around} {E : Value → Shared → Prop} {s : Shared}
theorem item0 {env : Env} {x : Str} {a : Addr} {p1 p2 p3 : Pos} {kk : Nat} {m : Str → Option Value} {u v : Int} {t t' : Tok} {Q : Value → Shared → Prop} (hns : s.heap.Ns env.locals m) (hv : m x = some (.ref a)) (ht : IsTup s.heap a [Value.int u t, Value.int v t'].toArray)
    (h : Q (.int u t) { s with toks := s.toks + 1 }) (hk : env.scope.kind = .function := by rfl) (hl : env.kindOf x = some .local := by rfl) (hd : (x == ("__debug__" : Str)) = false := by decide) :
    wpAny (model P0 w) A (eval (.Subscript (.Name x p1) (.Constant (.int 0) kk p2) p3) env) Q E s :=
  Subscript_ (wpAny_Name (wpAny_loadName_local hk hl hns hv (wpAny_Constant_int (item_tupleT (s := { s with toks := s.toks + 1 }) ht (by omega) (by omega) rfl rfl h))) hd)
theorem item1 {env : Env} {x : Str} {a : Addr} {p1 p2 p3 : Pos} {kk : Nat} {m : Str → Option Value} {u v : Int} {t t' : Tok} {Q : Value → Shared → Prop} (hns : s.heap.Ns env.locals m) (hv : m x = some (.ref a)) (ht : IsTup s.heap a [Value.int u t, Value.int v t'].toArray)
    (h : Q (.int v t') { s with toks := s.toks + 1 }) (hk : env.scope.kind = .function := by rfl) (hl : env.kindOf x = some .local := by rfl) (hd : (x == ("__debug__" : Str)) = false := by decide) :
    wpAny (model P0 w) A (eval (.Subscript (.Name x p1) (.Constant (.int 1) kk p2) p3) env) Q E s :=
  Subscript_ (wpAny_Name (wpAny_loadName_local hk hl hns hv (wpAny_Constant_int (item_tupleT (s := { s with toks := s.toks + 1 }) ht (by omega) (by omega) rfl rfl h))) hd)
theorem mulOk {x y : Int} (h1 : -63 ≤ x) (h2 : x ≤ 63) (h3 : -63 ≤ y) (h4 : y ≤ 63) : IntMulOk x y := by mul_fits
set_option maxRecDepth 100000 in
set_option maxHeartbeats 4000000 in
theorem turn_c (G : Gl w s.heap) (hA : A.depth < 990) {o a b : Addr} {p q r : Int × Int} (ho : Pt s.heap o p) (ha : Pt s.heap a q) (hb : Pt s.heap b r) (bp : Bd p) (bq : Bd q) (br : Bd r)
    {Q : Value → Shared → Prop} (h : ∀ s' t, Ext s s' → Q (.int (turn p q r) t) s') : wpAny (model P0 w) A (call (.ref 37) [.ref o, .ref a, .ref b]) Q E s := by
  obtain ⟨t1, u1, ho⟩ := ho
  obtain ⟨t2, u2, ha⟩ := ha
  obtain ⟨t3, u3, hb⟩ := hb
  obtain ⟨a1, a2, a3, a4⟩ := bp
  obtain ⟨b1, b2, b3, b4⟩ := bq
  obtain ⟨c1, c2, c3, c4⟩ := br
  refine wpAny_call (codeAny_call_def (binds := [("o", .ref o), ("a", .ref a), ("b", .ref b)]) (by show A.depth < 1000; omega) (G.all 37 _ (by decide) (by decide) rfl) rfl G.nolimit ⟨_, _, _, _, rfl, G.all 36 _ (by decide) (by decide) rfl, rfl, rfl⟩ rfl (BindsTo.of_eq rfl) (by decide) (locs rfl) (fun h₁ hns hk₁ => ?_))
  have ho := ho.keeps hk₁
  have ha := ha.keeps hk₁
  have hb := hb.keeps hk₁
  refine wpAny_execs_cons (wpAny_Return_some (wpAny_BinOp (wpAny_BinOp (wpAny_BinOp (item0 hns rfl ha (item0 hns rfl ho (sub_int (wpAny_BinOp (item1 hns rfl hb (item1 hns rfl ho (sub_int (mul_int ?_ (mulOk ?_ ?_ ?_ ?_)))))))))))))
  · refine wpAny_BinOp (wpAny_BinOp (item1 hns rfl ha (item1 hns rfl ho (sub_int (wpAny_BinOp (item0 hns rfl hb (item0 hns rfl ho (sub_int (mul_int (sub_int ?_) (mulOk ?_ ?_ ?_ ?_))))))))))
    · exact h _ _ ⟨hk₁, rfl, rfl⟩
    all_goals omega
  all_goals omega
end
end Mine
end
/-! part C2 -/
noncomputable section
open PySem PySem.W PyProof.Rows PySem.Calls
namespace Mine
def esOf : Option Obj → Array DictEntry
  | some ⟨_, _, .dict es _, _⟩ => es
  | _ => #[]
noncomputable def mgl (w : World) (x : Str) : Option Value := nsFind (esOf ((Mine.top w.params).lookup 3)) x
def strKeysB (es : Array DictEntry) : Bool := es.toList.all fun e => match e.key with | .str _ _ => true | _ => false
theorem strKeys_of {es : Array DictEntry} (h : strKeysB es = true) : StrKeys es := fun e he => by
  have := List.all_eq_true.mp h e (Array.mem_toList_iff.mpr he)
  cases hk : e.key <;> simp [hk] at this
  exact ⟨_, _, rfl⟩
set_option maxRecDepth 100000 in
set_option maxHeartbeats 4000000 in
theorem Gl.ns3 {w : World} {h : Heap} (G : Gl w h) : h.Ns 3 (mgl w) := ⟨_, _, _, G.all 3 _ (by decide) (by decide) rfl, rfl, strKeys_of (by kernel_rfl), fun _ => rfl⟩
section
variable (w : World)
theorem g_turn : mgl w "_law_turn" = some (.ref 37) := by kernel_rfl
theorem g_far : mgl w "_law_far" = some (.ref 44) := by kernel_rfl
theorem g_compare : mgl w "_law_compare" = some (.ref 51) := by kernel_rfl
theorem g_push : mgl w "_law_push" = some (.ref 58) := by kernel_rfl
theorem g_isnext : mgl w "_law_is_next" = some (.ref 65) := by kernel_rfl
theorem g_ctk : mgl w "cmp_to_key" = some (.ref 21) := by kernel_rfl
theorem g_reduce : mgl w "reduce" = some (.ref 30) := by kernel_rfl
theorem g_missing : mgl w "_initial_missing" = some (.ref 22) := by kernel_rfl
theorem b_abs : mgl w "abs" = none ∧ mbl w "abs" = some (.builtin "abs") := by exact ⟨by kernel_rfl, by unfold mbl; rw [if_neg (by decide)]; boot_fast⟩
theorem b_len : mgl w "len" = none ∧ mbl w "len" = some (.builtin "len") := by exact ⟨by kernel_rfl, by unfold mbl; rw [if_neg (by decide)]; boot_fast⟩
theorem b_min : mgl w "min" = none ∧ mbl w "min" = some (.builtin "min") := by exact ⟨by kernel_rfl, by unfold mbl; rw [if_neg (by decide)]; boot_fast⟩
theorem b_sorted : mgl w "sorted" = none ∧ mbl w "sorted" = some (.builtin "sorted") := by exact ⟨by kernel_rfl, by unfold mbl; rw [if_neg (by decide)]; boot_fast⟩
theorem b_iter : mgl w "iter" = none ∧ mbl w "iter" = some (.builtin "iter") := by exact ⟨by kernel_rfl, by unfold mbl; rw [if_neg (by decide)]; boot_fast⟩
theorem b_range : mgl w "range" = none ∧ mbl w "range" = some (.type "range") := by exact ⟨by kernel_rfl, by unfold mbl; rw [if_neg (by decide)]; boot_fast⟩
theorem b_object : mgl w "object" = none ∧ mbl w "object" = some (.type "object") := by exact ⟨by kernel_rfl, by unfold mbl; rw [if_neg (by decide)]; boot_fast⟩
end
section
variable {w : World} {A : Around} {E : Value → Shared → Prop} {s : Shared} {env : Env}
theorem gname {M : Model} {x : Str} {pos : Pos} {v : Value} {Q : Value → Shared → Prop} (G : Gl w s.heap) (e : mgl w x = some v) (h : Q v s) (hg : env.globals = 3 := by rfl) (hk : env.scope.kind = .function := by rfl) (hx : env.kindOf x = some .globalImplicit := by rfl) (hd : (x == ("__debug__" : Str)) = false := by decide) :
    wpAny M A (eval (.Name x pos) env) Q E s := Name_function_global hk hx (loadGlobal_global (hg ▸ G.ns3) e h) hd
theorem bname {M : Model} {x : Str} {pos : Pos} {v : Value} {Q : Value → Shared → Prop} (G : Gl w s.heap) (e : mgl w x = none ∧ mbl w x = some v) (h : Q v s) (hg : env.globals = 3 := by rfl) (hb : env.builtins = 0 := by rfl) (hk : env.scope.kind = .function := by rfl) (hx : env.kindOf x = some .globalImplicit := by rfl) (hd : (x == ("__debug__" : Str)) = false := by decide) :
    wpAny M A (eval (.Name x pos) env) Q E s := Name_function_global hk hx (loadGlobal_builtin (hg ▸ G.ns3) e.1 (hb ▸ G.ns0) e.2 h) hd
theorem lname {M : Model} {x : Str} {pos : Pos} {v : Value} {m : Str → Option Value} {Q : Value → Shared → Prop} (hns : s.heap.Ns env.locals m) (hv : m x = some v) (h : Q v s) (hk : env.scope.kind = .function := by rfl) (hl : env.kindOf x = some .local := by rfl) (hd : (x == ("__debug__" : Str)) = false := by decide) :
    wpAny M A (eval (.Name x pos) env) Q E s := wpAny_Name (wpAny_loadName_local hk hl hns hv h) hd
set_option maxRecDepth 100000 in
set_option maxHeartbeats 4000000 in
theorem far_c (G : Gl w s.heap) (hA : A.depth < 990) {a b : Addr} {p q : Int × Int} (ha : Pt s.heap a p) (hb : Pt s.heap b q)
    {Q : Value → Shared → Prop} (h : ∀ s' t, Ext s s' → Q (.int (far p q) t) s') : wpAny (model P0 w) A (call (.ref 44) [.ref a, .ref b]) Q E s := by
  obtain ⟨t2, u2, ha⟩ := ha
  obtain ⟨t3, u3, hb⟩ := hb
  refine wpAny_call (codeAny_call_def (binds := [("a", .ref a), ("b", .ref b)]) (by show A.depth < 1000; omega) (G.all 44 _ (by decide) (by decide) rfl) rfl G.nolimit ⟨_, _, _, _, rfl, G.all 43 _ (by decide) (by decide) rfl, rfl, rfl⟩ rfl (BindsTo.of_eq rfl) (by decide) (locs rfl) (fun h₁ hns hk₁ => ?_))
  have G₁ := G.keeps hk₁
  have ha := ha.keeps hk₁
  have hb := hb.keeps hk₁
  refine wpAny_execs_cons (wpAny_Return_some (wpAny_BinOp ?_))
  refine Call_ (bname (w := w) G₁ (b_abs w) ?_)
  refine PyProof.Rows.callWith_builtin1 (args_cons (wpAny_BinOp ?_))
  refine item0 hns rfl ha (item0 hns rfl hb (sub_int (args_nil (call_abs_int fun u tk => ?_))))
  refine Call_ (bname (w := w) G₁ (b_abs w) ?_)
  refine PyProof.Rows.callWith_builtin1 (args_cons (wpAny_BinOp ?_))
  refine item1 hns rfl ha (item1 hns rfl hb (sub_int (args_nil (call_abs_int fun u tk => add_int ?_))))
  exact h _ _ ⟨hk₁, rfl, rfl⟩
end
end Mine
end
/-! part C3 -/
noncomputable section
open PySem PySem.W PyProof.Rows PySem.Calls
namespace Mine
def cmpv (o a b : Int × Int) : Int := if turn o b a ≠ 0 then turn o b a else far o a - far o b
section
variable {w : World} {A : Around} {E : Value → Shared → Prop} {s : Shared} {env : Env}
theorem lstore {M : Model} {x : Str} {v : Value} {m : Str → Option Value} {h₀ : Heap} {Q : Unit → Shared → Prop} (F : Fr h₀ env.locals s.heap m)
    (h : ∀ h', Fr h₀ env.locals h' (fun y => if y = x then some v else m y) → Heap.SameBut env.locals s.heap h' → Q () { s with heap := h', toks := s.toks + 1 })
    (hk : env.scope.kind = .function := by rfl) (hl : env.kindOf x = some .local := by rfl) : wpAny M A (storeName env x v) Q E s :=
  wpAny_storeName_local hl F.ns (fun h' hn hs => h h' (F.set hn hs) hs) (by show (env.scope.kind == .class || (env.scope.kind == .module && env.locals != env.globals)) = false; rw [hk]; rfl)
theorem Fr.on {h₀ h h' : Heap} {L : Addr} {m : Str → Option Value} (F : Fr h₀ L h m) (k : ∀ b o, h.get? b = some o → h'.get? b = some o) : Fr h₀ L h' m := ⟨F.ns.keeps k, fun b o e => k _ _ (F.keep b o e), F.above⟩
set_option maxRecDepth 100000 in
set_option maxHeartbeats 4000000 in
theorem compare_c (G : Gl w s.heap) (hA : A.depth < 980) {o a b : Addr} {p q r : Int × Int} (ho : Pt s.heap o p) (ha : Pt s.heap a q) (hb : Pt s.heap b r) (bp : Bd p) (bq : Bd q) (br : Bd r)
    {Q : Value → Shared → Prop} (h : ∀ s' t, Ext s s' → Q (.int (cmpv p q r) t) s') : wpAny (model P0 w) A (call (.ref 51) [.ref o, .ref a, .ref b]) Q E s := by
  refine wpAny_call (codeAny_call_def (binds := [("o", .ref o), ("a", .ref a), ("b", .ref b)]) (by show A.depth < 1000; omega) (G.all 51 _ (by decide) (by decide) rfl) rfl G.nolimit ⟨_, _, _, _, rfl, G.all 50 _ (by decide) (by decide) rfl, rfl, rfl⟩ rfl (BindsTo.of_eq rfl) (by decide) (locs rfl) (fun h₁ hns hk₁ => ?_))
  have F : Fr s.heap s.heap.objs.size h₁ _ := ⟨hns, hk₁, Nat.le_refl _⟩
  refine wpAny_execs_cons (wpAny_Assign_Name ?_)
  have G₁ := G.keeps hk₁
  refine Call_ (gname (w := w) G₁ (g_turn w) ?_)
  refine callWith_def (o := _) (fd := _) rfl (args_cons (lname hns rfl (args_cons (lname hns rfl (args_cons (lname hns rfl (args_nil ⟨G₁.all 37 _ (by decide) (by decide) rfl, ?_⟩)))))))
  refine turn_c G₁ (by show A.depth + 1 < 990; omega) (ho.keeps hk₁) (hb.keeps hk₁) (ha.keeps hk₁) bp br bq fun s₂ t X => ?_
  have F₂ := Fr.on F X.keep
  refine lstore F₂ fun h₃ F₃ S₃ => ?_
  have k₃ := F₃.keep
  have G₃ := G.keeps k₃
  refine wpAny_execs_cons (wpAny_Return_some (wpAny_IfExp (wpAny_isTrue_Compare1 (lname F₃.ns rfl (wpAny_Constant_int (ne_int (wpAny_truthy_bool ?_)))))))
  by_cases hz : turn p r q = 0
  · rw [hz]
    refine wpAny_BinOp (Call_ (gname (w := w) G₃ (g_far w) ?_))
    refine callWith_def (o := _) (fd := _) rfl (args_cons (lname F₃.ns rfl (args_cons (lname F₃.ns rfl (args_nil ⟨G₃.all 44 _ (by decide) (by decide) rfl, ?_⟩)))))
    refine far_c G₃ (by show A.depth + 1 < 990; omega) (ho.keeps k₃) (ha.keeps k₃) fun s₄ t₄ X₄ => ?_
    have F₄ := Fr.on F₃ X₄.keep
    have G₄ := G.keeps F₄.keep
    refine Call_ (gname (w := w) G₄ (g_far w) ?_)
    refine callWith_def (o := _) (fd := _) rfl (args_cons (lname F₄.ns rfl (args_cons (lname F₄.ns rfl (args_nil ⟨G₄.all 44 _ (by decide) (by decide) rfl, ?_⟩)))))
    refine far_c G₄ (by show A.depth + 1 < 990; omega) (ho.keeps F₄.keep) (hb.keeps F₄.keep) fun s₅ t₅ X₅ => sub_int ?_
    have e : far p q - far p r = cmpv p q r := by unfold cmpv; rw [hz]; simp
    rw [e]
    exact h _ _ ⟨(Fr.on F₄ X₅.keep).keep, (X₅.gens.trans X₄.gens).trans X.gens, (X₅.os.trans X₄.os).trans X.os⟩
  · have hb' : (turn p r q != 0) = true := by simpa using hz
    simp only [hb', if_true]
    refine lname F₃.ns rfl ?_
    have e : turn p r q = cmpv p q r := by unfold cmpv; rw [if_pos hz]
    rw [e]
    exact h _ _ ⟨k₃, X.gens, X.os⟩
end
end Mine
end
/-! part C4 -/
noncomputable section
open PySem PySem.W PyProof.Rows PySem.Calls
namespace Mine
/-- f compares two points as c does, in every heap that keeps h -/
def CmpFn (w : World) (h : Heap) (f : Addr) (c : Int × Int → Int × Int → Int) : Prop :=
  ∀ (A : Around) (E : Value → Shared → Prop) (s : Shared), (∀ b o, h.get? b = some o → s.heap.get? b = some o) → A.depth < 970 →
    ∀ a b q r, Pt s.heap a q → Pt s.heap b r → Bd q → Bd r → ∀ Q : Value → Shared → Prop, (∀ s' t, Ext s s' → Q (.int (c q r) t) s') → wpAny (model P0 w) A (call (.ref f) [.ref a, .ref b]) Q E s
theorem CmpFn.keeps {w : World} {h h' : Heap} {f : Addr} {c : Int × Int → Int × Int → Int} (x : CmpFn w h f c) (k : ∀ b o, h.get? b = some o → h'.get? b = some o) : CmpFn w h' f c :=
  fun A E s k' => x A E s fun b o e => k' _ _ (k _ _ e)
abbrev lamPs (p1 p2 : Pos) : Arguments := { posonlyargs := [], args := [{ arg := "a", annotation := none, pos := p1 }, { arg := "b", annotation := none, pos := p2 }], vararg := none, kwonlyargs := [], kw_defaults := [], kwarg := none, defaults := [] }
abbrev lamSc1 : Scope := { kind := .function, names := [("a", .local), ("b", .local), ("least", .free), ("_law_compare", .globalImplicit)], isGenerator := false, isCoroutine := false, more := [] }
abbrev lamSc0 : Scope := { kind := .function, names := [("a", .local), ("b", .local)], isGenerator := false, isCoroutine := false, more := [] }
section
variable {w : World} {A : Around} {E : Value → Shared → Prop} {s : Shared} {env : Env}
theorem lamCall {a : Addr} {o : Obj} {fd : FuncData} {body : Expr} {args : Args} {binds : List (Str × Value)} {R : Result → Shared → Prop}
    (hroom : A.depth < recursionLimit) (ho : s.heap.get? a = some o) (hdata : o.data = .func fd) (hlim : s.heap.NoLimit) (hcd : s.heap.CodeRec fd.code fd.qualname)
    (hbody : fd.body = .expr body) (hbind : BindsTo s fd args binds) (hcell : ∀ x ∈ fd.scope.names, x.2 ≠ .cell) (hloc : ∀ x ∈ binds, fd.scope.names.lookup x.1 = some .local)
    (h : ∀ h₀, h₀.Ns s.heap.objs.size (fun x => binds.reverse.lookup x) → (∀ b o, s.heap.get? b = some o → h₀.get? b = some o) →
      wpAny (model P0 w) (A.deeper (callEnv fd s.heap.objs.size a)) (eval body (callEnv fd s.heap.objs.size a)) (fun v s' => R (.ok (.ret v)) s')
        (fun e s' => wpAny (model P0 w) (A.deeper (callEnv fd s.heap.objs.size a)) (leaving (callEnv fd s.heap.objs.size a) e) (fun _ s'' => R (.error e) s'') (fun e' s'' => R (.error e') s'') s')
        { s with heap := h₀, toks := s.toks + binds.length })
    (hco : fd.scope.isCoroutine = false := by rfl) (hgen : fd.scope.isGenerator = false := by rfl) (hk : fd.scope.kind = .function := by rfl) :
    codeAny (model P0 w) A (.call (.ref a) args) R s := by
  refine kla_callFunE hroom ho hdata hco hgen hbody hcd (hbind _ _ _ _ ?_)
  refine wpAny_newFunctionEnv hcell hloc (fun h₀ hns₀ hsb₀ => ⟨hlim.fresh _ hsb₀, kla_codeExpr (h h₀ hns₀ fun b o e => ?_)⟩) hk
  exact hsb₀.extBut b o (Nat.ne_of_lt (Heap.lt_size e)) (Heap.get?_push_of_some _ e)
theorem fname {M : Model} {x : Str} {pos : Pos} {v : Value} {c : Addr} {Q : Value → Shared → Prop} (hc : env.cells.lookup x = some c) (hv : s.heap.IsCell c (some v)) (h : Q v s) (hk : env.scope.kind = .function := by rfl) (hl : env.kindOf x = some .free := by rfl) (hd : (x == ("__debug__" : Str)) = false := by decide) (hn : (x == ("__classdict__" : Str)) = false := by decide) :
    wpAny M A (eval (.Name x pos) env) Q E s := wpAny_Name (wpAny_loadName_free hk hl hc hv h hn) hd
end
set_option maxRecDepth 100000 in
set_option maxHeartbeats 4000000 in
theorem lam1_c {w : World} {h : Heap} (G : Gl w h) {f cl o : Addr} {p : Int × Int} {p1 p2 p3 p4 p5 p6 p7 : Pos} {pm cdv ct : Value}
    (hf : h.get? f = some { cls := .type "function", data := .func (kla_fn "<lambda>" "law.<locals>.<lambda>" (lamPs p1 p2) (.Call (.Name "_law_compare" p3) [.Name "least" p4, .Name "a" p5, .Name "b" p6] [] p7) lamSc1 [("least", cl)] pm cdv ct) })
    (hcd : h.CodeRec cdv "law.<locals>.<lambda>") (hc : h.IsCell cl (some (.ref o))) (ho : Pt h o p) (bp : Bd p) : CmpFn w h f (cmpv p) := by
  intro A E s k hA a b q r ha hb bq br Q hQ
  have G₀ := G.keeps k
  refine wpAny_call (lamCall (binds := [("a", .ref a), ("b", .ref b)]) (by show A.depth < 1000; omega) (k _ _ hf) rfl G₀.nolimit (hcd.keeps k) rfl (BindsTo.of_eq rfl) (by show ∀ x ∈ lamSc1.names, x.2 ≠ .cell; decide) (locs rfl) (fun h₁ hns hk₁ => ?_))
  have k₁ : ∀ b o, h.get? b = some o → h₁.get? b = some o := fun b o e => hk₁ _ _ (k _ _ e)
  have G₁ := G.keeps k₁
  refine Call_ (gname (w := w) G₁ (g_compare w) ?_)
  refine callWith_def (o := _) (fd := _) rfl (args_cons (fname (c := cl) rfl (hc.keeps k₁) (args_cons (lname hns rfl (args_cons (lname hns rfl (args_nil ⟨G₁.all 51 _ (by decide) (by decide) rfl, ?_⟩)))))))
  refine compare_c G₁ (by show A.depth + 1 < 980; omega) (ho.keeps k₁) (ha.keeps hk₁) (hb.keeps hk₁) bp bq br fun s₂ t X => ?_
  exact hQ _ _ ⟨fun b o e => X.keep _ _ (hk₁ _ _ e), X.gens, X.os⟩
set_option maxRecDepth 100000 in
set_option maxHeartbeats 4000000 in
theorem lam0_c {w : World} {h : Heap} (G : Gl w h) {f : Addr} {p1 p2 p3 : Pos} {kk : Nat} {pm cdv ct : Value}
    (hf : h.get? f = some { cls := .type "function", data := .func (kla_fn "<lambda>" "law.<locals>.<lambda>" (lamPs p1 p2) (.Constant (.int 0) kk p3) lamSc0 [] pm cdv ct) })
    (hcd : h.CodeRec cdv "law.<locals>.<lambda>") : CmpFn w h f (fun _ _ => 0) := by
  intro A E s k hA a b q r ha hb bq br Q hQ
  have G₀ := G.keeps k
  refine wpAny_call (lamCall (binds := [("a", .ref a), ("b", .ref b)]) (by show A.depth < 1000; omega) (k _ _ hf) rfl G₀.nolimit (hcd.keeps k) rfl (BindsTo.of_eq rfl) (by show ∀ x ∈ lamSc0.names, x.2 ≠ .cell; decide) (locs rfl) (fun h₁ hns hk₁ => ?_))
  exact wpAny_Constant_int (hQ _ _ ⟨hk₁, rfl, rfl⟩)
end Mine
end
/-! part C5 -/
noncomputable section
open PySem PySem.W PyProof.Rows PySem.Calls
namespace Mine
/-- the parts of a def or a class -/
def inBody : Stmt → List Stmt
  | .FunctionDef _ _ b _ _ _ _ _ _ _ => b
  | .ClassDef _ _ _ b _ _ _ _ _ _ _ => b
  | _ => []
def psOf : Stmt → Arguments
  | .FunctionDef _ a _ _ _ _ _ _ _ _ => a
  | _ => { posonlyargs := [], args := [], vararg := none, kwonlyargs := [], kw_defaults := [], kwarg := none, defaults := [] }
def scOf : Stmt → Scope
  | .FunctionDef _ _ _ _ _ _ s _ _ _ => s
  | _ => { kind := .function, names := [], isGenerator := false, isCoroutine := false, more := [] }
noncomputable def nthS : Nat → List Stmt → Stmt
  | 0, a :: _ => a
  | n + 1, _ :: l => nthS n l
  | _, [] => .Pass ⟨0, 0, 0, 0⟩
/-- the body of class K, out of the program -/
def kBody : List Stmt := inBody (nthS 0 (inBody (nthS 1 P0.main.body)))
abbrev initPs : Arguments := psOf (nthS 2 kBody)
abbrev initBody : List Stmt := inBody (nthS 2 kBody)
abbrev initSc : Scope := scOf (nthS 2 kBody)
abbrev ltPs : Arguments := psOf (nthS 3 kBody)
abbrev ltBody : List Stmt := inBody (nthS 3 kBody)
abbrev ltSc : Scope := scOf (nthS 3 kBody)
/-- what a class that cmp_to_key has made is made of -/
structure KD where
  c : Addr
  ns : Addr
  fi : Addr
  fl : Addr
  md : Addr
  cell : Addr
  hh : Nat → Int
  tt : Nat → Tok
  vv : Nat → Value
  qual : Str
  qi : Str
  ql : Str
def KD.es (D : KD) : List DictEntry := [⟨D.hh 0, .str "__module__" (D.tt 0), D.vv 0⟩, ⟨D.hh 1, .str "__firstlineno__" (D.tt 1), D.vv 1⟩, ⟨D.hh 2, .str "__slots__" (D.tt 2), D.vv 2⟩, ⟨D.hh 3, .str "__init__" (D.tt 3), .ref D.fi⟩,
  ⟨D.hh 4, .str "__lt__" (D.tt 4), .ref D.fl⟩, ⟨D.hh 5, .str "__gt__" (D.tt 5), D.vv 5⟩, ⟨D.hh 6, .str "__eq__" (D.tt 6), D.vv 6⟩, ⟨D.hh 7, .str "__le__" (D.tt 7), D.vv 7⟩, ⟨D.hh 8, .str "__ge__" (D.tt 8), D.vv 8⟩,
  ⟨D.hh 9, .str "__hash__" (D.tt 9), D.vv 9⟩, ⟨D.hh 10, .str "__static_attributes__" (D.tt 10), D.vv 10⟩, ⟨D.hh 11, .str "obj" (D.tt 11), .ref D.md⟩, ⟨D.hh 12, .str "__doc__" (D.tt 12), D.vv 12⟩]
def KD.cls (D : KD) : ClassData := { name := "K", bases := [.type "object"], mro := [.ref D.c, .type "object"], ns := D.ns, qualname := D.qual, hasDict := false, slotNames := ["obj"], subclasses := [], abstract := false, collection := none, hasDel := false }
def KD.clsO (D : KD) : Obj := ⟨.type "type", none, .cls D.cls, #[some (D.vv 20), none, some (D.vv 22), some (D.vv 23), some (.builtin "object.__new__"), some (D.vv 25)]⟩
def KD.nsO (D : KD) : Obj := dictOf D.es (D.tt 30)
def KD.mdO (D : KD) : Obj := ⟨.type "member_descriptor", none, .fields #[.str "obj" (D.tt 31), .ref D.c, .builtin "proto.slot", .builtin "proto.slot#set", .int 0 0], #[]⟩
abbrev fnK (name qual : Str) (params : Arguments) (body : List Stmt) (scope : Scope) (cl : List (Str × Addr)) (pm cdv ct doc : Value) : FuncData :=
  { name, qualname := qual, params, body := .stmts body, scope, globals := 3, closure := cl, defaults := .none, kwdefaults := .none, doc, pyModule := pm, annotations := none, code := cdv, closureTuple := ct, builtins := 0 }
def KD.fiO (D : KD) : Obj := { cls := .type "function", data := .func (fnK "__init__" D.qi initPs initBody initSc [] (D.vv 32) (D.vv 33) (D.vv 34) (D.vv 38)) }
def KD.flO (D : KD) : Obj := { cls := .type "function", data := .func (fnK "__lt__" D.ql ltPs ltBody ltSc [("mycmp", D.cell)] (D.vv 35) (D.vv 36) (D.vv 37) (D.vv 39)) }
def KD.fr (D : KD) : Frag := [(D.c, D.clsO), (D.ns, D.nsO), (D.md, D.mdO), (D.fi, D.fiO), (D.fl, D.flO)]
structure KAt (w : World) (h : Heap) (D : KD) (f : Addr) : Prop where
  inn : D.fr.In h
  a1 : @LT.lt Nat _ D.fi D.fl
  a2 : @LT.lt Nat _ D.fl D.ns
  a3 : @LT.lt Nat _ D.ns D.c
  a4 : @LT.lt Nat _ D.c D.md
  ci : h.CodeRec (D.vv 33) D.qi
  cl : h.CodeRec (D.vv 36) D.ql
  cell : h.IsCell D.cell (some (.ref f))
theorem KAt.keeps {w : World} {h h' : Heap} {D : KD} {f : Addr} (X : KAt w h D f) (k : ∀ b o, h.get? b = some o → h'.get? b = some o) : KAt w h' D f :=
  ⟨X.inn.keeps k, X.a1, X.a2, X.a3, X.a4, X.ci.keeps k, X.cl.keeps k, X.cell.keeps k⟩
section
variable {w : World} {h : Heap} {D : KD} {f : Addr}
theorem lkHere {a : Nat} {o : Obj} {l : Frag} : List.lookup a ((a, o) :: l : Frag) = some o := by simp [List.lookup]
theorem lkThere {a b : Nat} {o : Obj} {l : Frag} (hn : a ≠ b) : List.lookup a ((b, o) :: l : Frag) = List.lookup a l := by
  have : (a == b) = false := by simpa using hn
  simp [List.lookup, this]
theorem KAt.lc (X : KAt w h D f) : D.fr.lookup D.c = some D.clsO := lkHere
theorem KAt.lns (X : KAt w h D f) : D.fr.lookup D.ns = some D.nsO := (lkThere (Nat.ne_of_lt X.a3)).trans lkHere
theorem KAt.lmd (X : KAt w h D f) : D.fr.lookup D.md = some D.mdO := by
  have := X.a3; have := X.a4
  exact (lkThere (by omega)).trans ((lkThere (by omega)).trans lkHere)
theorem KAt.lfi (X : KAt w h D f) : D.fr.lookup D.fi = some D.fiO := by
  have := X.a1; have := X.a2; have := X.a3; have := X.a4
  exact (lkThere (by omega)).trans ((lkThere (by omega)).trans ((lkThere (by omega)).trans lkHere))
theorem KAt.lfl (X : KAt w h D f) : D.fr.lookup D.fl = some D.flO := by
  have := X.a1; have := X.a2; have := X.a3; have := X.a4
  exact (lkThere (by omega)).trans ((lkThere (by omega)).trans ((lkThere (by omega)).trans ((lkThere (by omega)).trans lkHere)))
theorem KAt.nsi (X : KAt w h D f) (name : Str) {r : Option (Option Value)} (e : (match D.es.find? (·.key.isStr name) with | some e => some (some e.val) | none => if D.es.any (·.refKey) then none else some none) = r) : nsIn D.fr D.ns name = r := by
  unfold nsIn
  rw [X.lns]
  exact e
theorem KAt.find (X : KAt w h D f) (name : Str) {r : Option (Option Value)} (e : (match (match D.es.find? (·.key.isStr name) with | some e => some (some e.val) | none => if D.es.any (·.refKey) then none else some none) with | some (some v) => some (some v) | some none => alongIn D.fr name [.type "object"] | none => none) = r) : findIn D.fr (.ref D.c) name = r := by
  have e1 : findIn D.fr (.ref D.c) name = (match D.fr.lookup D.c with | some ⟨_, _, .cls cd, _⟩ => alongIn D.fr name cd.mro | _ => none) := rfl
  have e2 : ownIn D.fr name (.ref D.c) = (match D.fr.lookup D.c with | some ⟨_, _, .cls cd, _⟩ => nsIn D.fr cd.ns name | _ => none) := rfl
  rw [e1, X.lc]
  show alongIn D.fr name [.ref D.c, .type "object"] = r
  unfold alongIn
  rw [e2, X.lc]
  show (match nsIn D.fr D.ns name with | some (some v) => some (some v) | some none => alongIn D.fr name [.type "object"] | none => none) = r
  rw [X.nsi name rfl]
  exact e
theorem KAt.f_init (X : KAt w h D f) : findIn D.fr (.ref D.c) "__init__" = some (some (.ref D.fi)) := X.find _ (by kernel_rfl)
theorem KAt.f_lt (X : KAt w h D f) : findIn D.fr (.ref D.c) "__lt__" = some (some (.ref D.fl)) := X.find _ (by kernel_rfl)
theorem KAt.f_obj (X : KAt w h D f) : findIn D.fr (.ref D.c) "obj" = some (some (.ref D.md)) := X.find _ (by kernel_rfl)
theorem KAt.f_set (X : KAt w h D f) : findIn D.fr (.ref D.c) "__setattr__" = some (some (.builtin "object.__setattr__")) := X.find _ (by kernel_rfl)
theorem KAt.f_ga (X : KAt w h D f) : findIn D.fr (.ref D.c) "__getattribute__" = some (some (.builtin "object.__getattribute__")) := X.find _ (by kernel_rfl)
theorem KAt.f_gat (X : KAt w h D f) : findIn D.fr (.ref D.c) "__getattr__" = some none := X.find _ (by kernel_rfl)
theorem KAt.t_fi (X : KAt w h D f) : typeIn D.fr (.ref D.fi) = some (.type "function") := by show (D.fr.lookup D.fi).map _ = _; rw [X.lfi]; rfl
theorem KAt.t_fl (X : KAt w h D f) : typeIn D.fr (.ref D.fl) = some (.type "function") := by show (D.fr.lookup D.fl).map _ = _; rw [X.lfl]; rfl
theorem KAt.t_md (X : KAt w h D f) : typeIn D.fr (.ref D.md) = some (.type "member_descriptor") := by show (D.fr.lookup D.md).map _ = _; rw [X.lmd]; rfl
theorem KAt.t_c (X : KAt w h D f) : typeIn D.fr (.ref D.c) = some (.type "type") := by show (D.fr.lookup D.c).map _ = _; rw [X.lc]; rfl
theorem KAt.clsi (X : KAt w h D f) : clsIn D.fr D.c = some D.cls := by unfold clsIn; rw [X.lc]; rfl
theorem KAt.over (X : KAt w h D f) : plainOver D.fr D.c = true := by unfold plainOver; rw [X.clsi]; rfl
theorem KAt.isC (X : KAt w h D f) : isClsIn D.fr D.c = true := by unfold isClsIn; rw [X.clsi]; rfl
theorem KAt.pget (X : KAt w h D f) (n : Str) : plainGet D.fr D.c n = true := by unfold plainGet; rw [X.f_ga, X.f_gat]; rfl
theorem KAt.sp_get (X : KAt w h D f) : specialIn D.fr (.ref D.md) "__get__" = some (some (.builtin "member_descriptor.__get__")) := by unfold specialIn; rw [X.t_md]; kernel_rfl
theorem KAt.takes (X : KAt w h D f) : takesIn D.fr (.ref D.md) = some true := by
  have e : specialIn D.fr (.ref D.md) "__set__" = some (some (.builtin "member_descriptor.__set__")) := by unfold specialIn; rw [X.t_md]; kernel_rfl
  unfold takesIn; rw [e]
theorem KAt.taker (X : KAt w h D f) : takerIn D.fr D.c "obj" = some (some (.ref D.md)) := by unfold takerIn; rw [X.f_obj]; show (takesIn D.fr (.ref D.md)).map _ = _; rw [X.takes]; rfl
theorem KAt.slot (X : KAt w h D f) : slotIn D.fr D.md D.c = some 0 := by
  have e : recIn D.fr D.md "member_descriptor" = some [.str "obj" (D.tt 31), .ref D.c, .builtin "proto.slot", .builtin "proto.slot#set", .int 0 0] := by unfold recIn; rw [X.lmd]; rfl
  unfold slotIn; rw [e, X.clsi]
  simp [KD.cls]
theorem KAt.makes (X : KAt w h D f) : makesIn D.fr D.c = true := by
  have e1 : specialIn D.fr (.ref D.c) "__call__" = some (some (.builtin "type.__call__")) := by unfold specialIn; rw [X.t_c]; kernel_rfl
  have e2 : instIn D.fr (.ref D.c) (.type "type") = some true := by unfold instIn; rw [X.t_c]; kernel_rfl
  unfold makesIn
  rw [X.lc]
  show (!D.cls.abstract && !D.cls.hasDel && _ && _ && _ && _ && _ && _) = true
  rw [e1, e2]
  simp [KD.cls]
end
end Mine
end
/-! part C6 -/
noncomputable section
open PySem PySem.W PyProof.Rows PySem.Calls
namespace Mine
/-- an instance of such a class, bearing the object a -/
def KInst (h : Heap) (D : KD) (x a : Addr) : Prop := ∃ dx od, h.get? x = some ⟨.ref D.c, some dx, .plain, #[some (.ref a)]⟩ ∧ h.get? dx = some od
theorem KInst.keeps {h h' : Heap} {D : KD} {x a : Addr} (X : KInst h D x a) (k : ∀ b o, h.get? b = some o → h'.get? b = some o) : KInst h' D x a := by
  obtain ⟨dx, od, h1, h2⟩ := X; exact ⟨dx, od, k _ _ h1, k _ _ h2⟩
theorem KInst.at {h : Heap} {D : KD} {x a : Addr} (X : KInst h D x a) : ∃ dx od, InstAt h x ⟨.ref D.c, some dx, .plain, #[some (.ref a)]⟩ D.c (some od) := by
  obtain ⟨dx, od, h1, h2⟩ := X; exact ⟨dx, od, h1, rfl, rfl, h2⟩
section
variable {w : World} {A : Around} {E : Value → Shared → Prop} {s : Shared} {D : KD} {f : Addr}
set_option maxRecDepth 100000 in
set_option maxHeartbeats 4000000 in
theorem newK_c (G : Gl w s.heap) (hA : A.depth < 950) (X : KAt w s.heap D f) {a : Addr} {Q : Value → Shared → Prop}
    (h : ∀ s' x, Ext s s' → KInst s'.heap D x a → s.heap.get? x = none → Q (.ref x) s') : wpAny (model P0 w) A (call (.ref D.c) [.ref a]) Q E s := by
  obtain ⟨hh, g, d, t, os⟩ := s
  refine wpAny_call (make_core (makes_of X.inn X.makes) (looks_findIn X.inn X.f_init) (fun self => bind_fn X.inn self X.t_fi) (.inl rfl) ?_)
  have k1 : ∀ b o, hh.get? b = some o → ((hh.push emptyDict).push (instObj D.c hh.objs.size)).get? b = some o := fun b o e => Heap.get?_push_of_some _ (Heap.get?_push_of_some _ e)
  have G1 := G.keeps k1
  have X1 := X.keeps k1
  have hx : ((hh.push emptyDict).push (instObj D.c hh.objs.size)).get? (hh.objs.size + 1) = some (instObj D.c hh.objs.size) := by heap_get
  have hdx : ((hh.push emptyDict).push (instObj D.c hh.objs.size)).get? hh.objs.size = some emptyDict := Heap.get?_push_of_some _ (Heap.get?_push_size _ rfl)
  refine codeAny_call_def (binds := [("self", .ref (hh.objs.size + 1)), ("obj", .ref a)]) (by show A.depth + 1 < 1000; omega) (X1.inn _ _ X.lfi) rfl G1.nolimit X1.ci rfl (BindsTo.of_eq rfl) (by show ∀ x ∈ initSc.names, x.2 ≠ .cell; decide) (locs rfl) (fun h₁ hns hk₁ => ?_)
  have k2 : ∀ b o, hh.get? b = some o → h₁.get? b = some o := fun b o e => hk₁ _ _ (k1 _ _ e)
  have F : Fr hh ((hh.push emptyDict).push (instObj D.c hh.objs.size)).objs.size h₁ _ := ⟨hns, k2, by simp only [Heap.size_push]; omega⟩
  have no : ∀ a, hh.objs.size ≤ a → hh.get? a = none := fun a ha => Heap.get?_none_of_le ha
  have N : News hh ((hh.push emptyDict).push (instObj D.c hh.objs.size)).objs.size h₁ [(hh.objs.size + 1, instObj D.c hh.objs.size), (hh.objs.size, emptyDict)] := by
    intro p hp
    rcases List.mem_cons.mp hp with rfl | hp
    · exact ⟨hk₁ _ _ hx, by simp only [Heap.size_push]; exact Nat.ne_of_lt (Nat.lt_succ_self _), no _ (Nat.le_succ _)⟩
    · obtain rfl := List.mem_singleton.mp hp
      exact ⟨hk₁ _ _ hdx, by simp only [Heap.size_push]; exact Nat.ne_of_lt (Nat.lt_succ_of_lt (Nat.lt_succ_self _)), no _ (Nat.le_refl _)⟩
  refine wpAny_execs_cons (plainObj_wpAny_Assign_Attribute (lname hns rfl (lname hns rfl ?_)))
  have I : InstAt h₁ (hh.objs.size + 1) (instObj D.c hh.objs.size) D.c (some emptyDict) := ⟨hk₁ _ _ hx, rfl, rfl, hk₁ _ _ hdx⟩
  refine set_slot F X.inn N I X.f_set X.over X.taker X.t_md X.slot (by decide) rfl rfl (.head fun p hp => ?_) fun h₃ F₃ N₃ => ?_
  · obtain rfl := List.mem_singleton.mp hp
    exact Nat.ne_of_lt (Nat.lt_succ_self _)
  refine wpAny_execs_nil ⟨rfl, h _ _ ⟨F₃.keep, rfl, rfl⟩ ⟨_, _, (N₃ _ (.head _)).1, (N₃ _ (.tail _ (.head _))).1⟩ (no _ (Nat.le_succ _))⟩
set_option maxRecDepth 100000 in
set_option maxHeartbeats 4000000 in
theorem lt_c (G : Gl w s.heap) (hA : A.depth < 950) (X : KAt w s.heap D f) {c : Int × Int → Int × Int → Int} (C : CmpFn w s.heap f c) {fo : Obj} {fd : FuncData} (hf : s.heap.get? f = some fo) (hfd : fo.data = .func fd) {x y a b : Addr} {p q : Int × Int} (hx : KInst s.heap D x a) (hy : KInst s.heap D y b) (ha : Pt s.heap a p) (hb : Pt s.heap b q) (bp : Bd p) (bq : Bd q)
    {Q : Value → Shared → Prop} (h : ∀ s', Ext s s' → Q (.bool (decide (c p q < 0))) s') : wpAny (model P0 w) A (call (.ref D.fl) [.ref x, .ref y]) Q E s := by
  refine wpAny_call (codeAny_call_def (binds := [("self", .ref x), ("other", .ref y)]) (by show A.depth < 1000; omega) (X.inn _ _ X.lfl) rfl G.nolimit X.cl rfl (BindsTo.of_eq rfl) (by show ∀ x ∈ ltSc.names, x.2 ≠ .cell; decide) (locs rfl) (fun h₁ hns hk₁ => ?_))
  have F : Fr s.heap s.heap.objs.size h₁ _ := ⟨hns, hk₁, Nat.le_refl _⟩
  have G1 := G.keeps hk₁
  have X1 := X.keeps hk₁
  obtain ⟨dx, ox, Ix⟩ := (hx.keeps hk₁).at
  obtain ⟨dy, oy, Iy⟩ := (hy.keeps hk₁).at
  refine wpAny_execs_cons (wpAny_Return_some (wpAny_Compare1 (Call_ (fname (c := D.cell) rfl X1.cell ?_))))
  refine callWith_def (o := fo) (fd := fd) hfd (args_cons (Attribute_Name_ (lname hns rfl ?_)))
  refine get_slot F X.inn Ix (X.pget _) X.isC X.f_obj X.sp_get X.takes X.slot (v := .ref a) rfl rfl ?_
  refine args_cons (Attribute_Name_ (lname hns rfl ?_))
  refine get_slot F X.inn Iy (X.pget _) X.isC X.f_obj X.sp_get X.takes X.slot (v := .ref b) rfl rfl ?_
  refine args_nil ⟨hk₁ _ _ hf, ?_⟩
  refine C _ _ _ hk₁ (by show A.depth + 1 < 970; omega) _ _ _ _ (ha.keeps hk₁) (hb.keeps hk₁) bp bq _ fun s₂ t X2 => ?_
  exact wpAny_Constant_int (lt_int (h _ ⟨fun b o e => X2.keep _ _ (hk₁ _ _ e), X2.gens, X2.os⟩))
end
end Mine
end
/-! part C7 -/
noncomputable section
open PySem PySem.W PyProof.Rows PySem.Calls
namespace Mine
noncomputable def Pts (h : Heap) : List Value → List (Int × Int) → Prop
  | [], [] => True
  | .ref a :: vs, p :: ps => Pt h a p ∧ Pts h vs ps
  | _, _ => False
theorem Pts.keeps {h h' : Heap} (k : ∀ b o, h.get? b = some o → h'.get? b = some o) : ∀ {vs : List Value} {ps : List (Int × Int)}, Pts h vs ps → Pts h' vs ps
  | [], [], _ => trivial
  | .ref _ :: _, _ :: _, ⟨x, y⟩ => ⟨x.keeps k, Pts.keeps k y⟩
theorem Pts.len {h : Heap} : ∀ {vs : List Value} {ps : List (Int × Int)}, Pts h vs ps → vs.length = ps.length
  | [], [], _ => rfl
  | .ref _ :: _, _ :: _, ⟨_, y⟩ => by simp [Pts.len y]
theorem Pts.get {h : Heap} : ∀ {vs : List Value} {ps : List (Int × Int)}, Pts h vs ps → ∀ {i : Nat} {v : Value}, vs[i]? = some v → ∃ a p, v = .ref a ∧ ps[i]? = some p ∧ Pt h a p
  | .ref a :: _, p :: _, ⟨x, _⟩, 0, _, e => by cases e; exact ⟨a, p, rfl, rfl, x⟩
  | .ref _ :: _, _ :: _, ⟨_, y⟩, i + 1, v, e => by
    obtain ⟨a, p, e1, e2, e3⟩ := Pts.get y (i := i) (v := v) (by simpa using e)
    exact ⟨a, p, e1, by simpa using e2, e3⟩
theorem Pts.append {h : Heap} : ∀ {vs vs' : List Value} {ps ps' : List (Int × Int)}, Pts h vs ps → Pts h vs' ps' → Pts h (vs ++ vs') (ps ++ ps')
  | [], _, [], _, _, y => y
  | .ref _ :: _, _, _ :: _, _, ⟨x, z⟩, y => ⟨x, Pts.append z y⟩
noncomputable def Keys (h : Heap) (D : KD) : List Value → List Value → Prop
  | [], [] => True
  | .ref x :: ks, .ref a :: vs => KInst h D x a ∧ Keys h D ks vs
  | _, _ => False
theorem Keys.keeps {h h' : Heap} {D : KD} (k : ∀ b o, h.get? b = some o → h'.get? b = some o) : ∀ {ks vs : List Value}, Keys h D ks vs → Keys h' D ks vs
  | [], [], _ => trivial
  | .ref _ :: _, .ref _ :: _, ⟨x, y⟩ => ⟨x.keeps k, Keys.keeps k y⟩
theorem Keys.len {h : Heap} {D : KD} : ∀ {ks vs : List Value}, Keys h D ks vs → ks.length = vs.length
  | [], [], _ => rfl
  | .ref _ :: _, .ref _ :: _, ⟨_, y⟩ => by simp [Keys.len y]
theorem Keys.snoc {h : Heap} {D : KD} {x a : Addr} (z : KInst h D x a) : ∀ {ks vs : List Value}, Keys h D ks vs → Keys h D (ks ++ [.ref x]) (vs ++ [.ref a])
  | [], [], _ => ⟨z, trivial⟩
  | .ref _ :: _, .ref _ :: _, ⟨y, w⟩ => ⟨y, Keys.snoc z w⟩
theorem Keys.get {h : Heap} {D : KD} : ∀ {ks vs : List Value}, Keys h D ks vs → ∀ {i : Nat}, i < ks.length → ∃ x a, ks.getD i .none = .ref x ∧ vs[i]? = some (.ref a) ∧ KInst h D x a
  | .ref x :: _, .ref a :: _, ⟨z, _⟩, 0, _ => ⟨x, a, rfl, rfl, z⟩
  | .ref _ :: _, .ref _ :: _, ⟨_, w⟩, i + 1, hi => by
    obtain ⟨x, a, e1, e2, e3⟩ := Keys.get w (i := i) (by simpa using hi)
    exact ⟨x, a, by simpa using e1, by simpa using e2, e3⟩
theorem Keys.mem {h : Heap} {D : KD} : ∀ {ks vs : List Value}, Keys h D ks vs → ∀ v ∈ ks, ∃ x a, v = .ref x ∧ KInst h D x a
  | .ref x :: _, .ref a :: _, ⟨z, _⟩, _, .head _ => ⟨x, a, rfl, z⟩
  | .ref _ :: _, .ref _ :: _, ⟨_, w⟩, v, .tail _ m => Keys.mem w v m
/-- a decision tree asks for places below n alone, and by the answers lt its end is as P says -/
noncomputable def okT {α : Type} (n : Nat) (lt : Nat → Nat → Bool) (P : α → Prop) : KasT α → Prop
  | .ret a => P a
  | .ask i j k => i < n ∧ j < n ∧ okT n lt P (k (lt i j))
theorem kas_of_ok {α : Type} {n : Nat} {lt : Nat → Nat → Bool} {P : α → Prop} {cmp : Nat → Nat → (Bool → Shared → Prop) → Shared → Prop} {I : Shared → Prop} {G : α → Shared → Prop}
    (hc : ∀ i j C s, i < n → j < n → I s → (∀ s', I s' → C (lt i j) s') → cmp i j C s) (hG : ∀ a s, P a → I s → G a s) : ∀ (t : KasT α) (s : Shared), okT n lt P t → I s → t.kasWp cmp G s
  | .ret a, s, h, i => hG a s h i
  | .ask i j k, s, ⟨h1, h2, h3⟩, hi => hc i j _ s h1 h2 hi fun s' hi' => kas_of_ok hc hG (k (lt i j)) s' h3 hi'
theorem Ext.upd {s s' : Shared} (x : Ext s s') {a : Nat} {f : Obj → Obj} (ha : s.heap.objs.size ≤ a) : Ext s { s' with heap := s'.heap.update a f } :=
  ⟨fun b o e => (Heap.get?_update_other _ f (Nat.ne_of_gt (Nat.lt_of_lt_of_le (Heap.lt_size e) ha))).trans (x.keep b o e), x.gens, x.os⟩
theorem Ext.push {s s' : Shared} (x : Ext s s') (o : Obj) : Ext s { s' with heap := s'.heap.push o } :=
  ⟨fun b o' e => Heap.get?_push_of_some _ (x.keep b o' e), x.gens, x.os⟩
theorem Ext.toks {s s' : Shared} (x : Ext s s') (t : Nat) : Ext s { s' with toks := t } := ⟨x.keep, x.gens, x.os⟩
theorem Ext.size {s s' : Shared} (x : Ext s s') {b : Addr} (h : s'.heap.get? b = none) : s.heap.get? b = none := by
  cases e : s.heap.get? b with
  | none => rfl
  | some o => rw [x.keep _ _ e] at h; cases h
section
variable {w : World} {A : Around} {E : Value → Shared → Prop} {s : Shared} {D : KD} {f : Addr}
theorem keylt_c (G : Gl w s.heap) (hA : A.depth < 940) (hU : A.units < 9900) (X : KAt w s.heap D f) {c : Int × Int → Int × Int → Int} (C : CmpFn w s.heap f c) {fo : Obj} {fd : FuncData} (hf : s.heap.get? f = some fo) (hfd : fo.data = .func fd) {x y a b : Addr} {p q : Int × Int} (hx : KInst s.heap D x a) (hy : KInst s.heap D y b) (ha : Pt s.heap a p) (hb : Pt s.heap b q) (bp : Bd p) (bq : Bd q)
    {Q : Bool → Shared → Prop} (h : ∀ s', Ext s s' → Q (decide (c p q < 0)) s') : wpAny (model P0 w) A (keyLt' oneType' (.ref x) (.ref y)) Q E s := by
  obtain ⟨dx, ox, Ix⟩ := hx.at
  rw [keyLt'_oneType, oneLt'_eq]
  simp only [if_true]
  refine wpAny_bind (wpAny_cRoomFor hU ?_)
  refine wpAny_bind (ifBound_K X.inn Ix X.f_lt (by unfold isFn; rw [X.t_fl]; rfl) ?_)
  refine lt_c G (by omega) X C hf hfd hx hy ha hb bp bq fun s' e => ?_
  exact wpAny_truthy_bool (h s' e)
end
end Mine
end
/-! part C8 -/
noncomputable section
open PySem PySem.W PyProof.Rows PySem.Calls
namespace Mine
section
variable {w : World} {A : Around} {E : Value → Shared → Prop} {s s₀ : Shared} {D : KD} {f : Addr}
/-- what stands while the sort runs -/
structure SortI (s₀ : Shared) (D : KD) (a kS : Addr) (e1 : Nat) (ks vs : List Value) (s : Shared) : Prop where
  ext : Ext s₀ s
  la : s.heap.get? a = some (seqObj "list" #[] e1)
  lk : ∃ e, s.heap.get? kS = some (seqObj "list" ks.toArray e)
  keys : Keys s.heap D ks vs
theorem SortI.on {a kS : Addr} {e1 : Nat} {ks vs : List Value} {s' : Shared} (X : SortI s₀ D a kS e1 ks vs s) (x : Ext s s') : SortI s₀ D a kS e1 ks vs s' :=
  ⟨X.ext.trans x, x.keep _ _ X.la, (let ⟨e, h⟩ := X.lk; ⟨e, x.keep _ _ h⟩), X.keys.keeps x.keep⟩
theorem sort_tail {a kS : Addr} {e1 : Nat} {ks vs out : List Value} {st : SortSt} {P : PySem.Fin → Shared → Prop} (X : SortI s₀ D a kS e1 ks vs s) (hn : @Ne Nat a kS) (ha : s₀.heap.objs.size ≤ a) (hk : s₀.heap.objs.size ≤ kS) (hkz : ks.length < 64) (hz : out.length < 64)
    (hout : (arrOf st).map (·.2) = out.toArray) (hfl : failedOf st = none)
    (h : ∀ s', Ext s₀ s' → s'.heap.IsList a out.toArray → P (.done (.ret .none)) s') : wpAny (model P0 w) A (ksk_tail a false e1 (.ref kS) st) P E s := by
  obtain ⟨e, hlk⟩ := X.lk
  have s1 := Heap.SameBut.update s.heap kS (Obj.mapSeq fun _ => (#[] : Array Value))
  have na1 : (s.heap.update kS (Obj.mapSeq fun _ => (#[] : Array Value))).get? a = some (seqObj "list" #[] e1) := (s1.2 a hn).trans X.la
  have s2 := Heap.SameBut.update (s.heap.update kS (Obj.mapSeq fun _ => (#[] : Array Value))) a (Obj.mapSeq fun _ => out.toArray)
  have hc2 := get?_update_seq na1 fun _ => out.toArray
  unfold ksk_tail
  try dsimp only
  rw [hout]
  refine wpAny_bind (listUpdate_at hlk rfl ?_ (by rw [List.size_toArray, sizeLine_eq]; omega) (Nat.zero_le _))
  refine wpAny_bind (wpAny_letGo ?_)
  refine wpAny_bind (seqEpoch_at na1 rfl ?_)
  refine wpAny_bind (listUpdate_at na1 rfl ?_ (Nat.zero_le _) (by simp only [Bool.false_eq_true, if_false, List.size_toArray, sizeLine_eq]; omega))
  rw [hfl]
  simp only [bne_self_eq_false, Bool.false_eq_true, if_false]
  refine wpAny_pure (h _ ?_ ⟨_, hc2, rfl, _, rfl⟩)
  have x1 := (X.ext.upd (f := Obj.mapSeq fun _ => (#[] : Array Value)) hk)
  exact x1.upd (f := Obj.mapSeq fun _ => out.toArray) ha
theorem zipSnd (ks vs : List Value) (h : ks.length = vs.length) : (ks.toArray.zip vs.toArray).map (·.2) = vs.toArray := by
  apply Array.toList_inj.mp
  rw [Array.toList_map, ksk_zip]
  simp only
  exact List.map_snd_zip (by omega)
set_option maxHeartbeats 4000000 in
theorem sort_end {a kS : Addr} {e1 : Nat} {ks vs : List Value} {ps : List (Int × Int)} {P : PySem.Fin → Shared → Prop} {Out : List Value → Prop}
    (G : Gl w s₀.heap) (hA : A.depth < 940) (hU : A.units < 9900) (K : KAt w s₀.heap D f) {c : Int × Int → Int × Int → Int} (C : CmpFn w s₀.heap f c) {fo : Obj} {fd : FuncData} (hf : s₀.heap.get? f = some fo) (hfd : fo.data = .func fd)
    (hp : Pts s₀.heap vs ps) (bd : ∀ p ∈ ps, Bd p) (h64 : vs.length < 64)
    (hs : vs.length < 2 → Out vs) (hl : 2 ≤ vs.length → okT vs.length (fun i j => decide (c (ps.getD i (0, 0)) (ps.getD j (0, 0)) < 0)) (fun p : Array Nat => p.size = vs.length → Out (p.toList.map fun i => vs.getD i Value.none)) (kas_sort vs.length))
    (X : SortI s₀ D a kS e1 ks vs s) (hn : @Ne Nat a kS) (ha : s₀.heap.objs.size ≤ a) (hk : s₀.heap.objs.size ≤ kS)
    (h : ∀ s' out, Ext s₀ s' → Out out → s'.heap.IsList a out.toArray → P (.done (.ret .none)) s') : wpAny (model P0 w) A (ksk_end a false vs.toArray e1 (.ref kS) ks.toArray) P E s := by
  have hkl := X.keys.len
  unfold ksk_end
  try dsimp only
  simp only [Bool.false_eq_true, if_false]
  by_cases h2 : vs.length < 2
  · have h2' : vs.toArray.size < 2 := by rw [List.size_toArray]; exact h2
    rw [if_pos h2', if_pos h2']
    refine wpAny_bind (wpAny_pure ?_)
    rw [StateT.run_pure]
    refine wpAny_bind (wpAny_pure ?_)
    exact sort_tail X hn ha hk (by omega) h64 (zipSnd ks vs hkl) rfl fun s' x l => h s' vs x (hs h2) l
  · have h2' : ¬ vs.toArray.size < 2 := by rw [List.size_toArray]; exact h2
    rw [if_neg h2', if_neg h2']
    refine wpAny_bind (kas_kind (T := .ref D.c) (by omega) (fun v hv => ?_) rfl (by simp) ?_)
    · obtain ⟨x, b, rfl, z⟩ := X.keys.mem v hv
      obtain ⟨dx, od, I⟩ := z.at
      exact I.type
    refine wpAny_bind (wpAny_mono (kat_run (Q := fun st' s' => ∃ p : Array Nat, p.size = vs.length ∧ arrOf st' = p.map (kas_item (ks.toArray.zip vs.toArray)) ∧ failedOf st' = none ∧ SortI s₀ D a kS e1 ks vs s' ∧ (p.size = vs.length → Out (p.toList.map fun i => vs.getD i Value.none)))
      (G := fun p s' => SortI s₀ D a kS e1 ks vs s' ∧ (p.size = vs.length → Out (p.toList.map fun i => vs.getD i Value.none))) hkl (by omega) h64 (fun p st' s' a1 a2 a3 a4 => ⟨p, a1, a2, a3, a4.1, a4.2⟩) ?_) ?_ fun _ _ e => e)
    · refine kas_of_ok (I := SortI s₀ D a kS e1 ks vs) (fun i j Cc s' hi hj I' hc => ?_) (fun p s' hP I' => ⟨I', hP⟩) _ _ (hl (by omega)) X
      unfold kas_ask
      obtain ⟨x, b, ex, eb, zx⟩ := I'.keys.get (i := i) (by omega)
      obtain ⟨y, b', ey, eb', zy⟩ := I'.keys.get (i := j) (by omega)
      obtain ⟨_, p, e1', ep, hp1⟩ := hp.get eb
      obtain ⟨_, q, e2', eq, hq1⟩ := hp.get eb'
      cases e1'
      cases e2'
      have ep' : ps.getD i (0, 0) = p := by rw [List.getD_eq_getElem?_getD, ep]; rfl
      have eq' : ps.getD j (0, 0) = q := by rw [List.getD_eq_getElem?_getD, eq]; rfl
      rw [ex, ey]
      refine keylt_c (G.keeps I'.ext.keep) hA hU (K.keeps I'.ext.keep) (C.keeps I'.ext.keep) (I'.ext.keep _ _ hf) hfd zx zy (hp1.keeps I'.ext.keep) (hq1.keeps I'.ext.keep) (bd p (List.mem_of_getElem? ep)) (bd q (List.mem_of_getElem? eq)) fun s'' x'' => ?_
      have := hc s'' (I'.on x'')
      rw [ep', eq'] at this
      exact this
    · rintro ⟨⟨⟩, st'⟩ s' ⟨p, hps, har, hfl, I', hO⟩
      try dsimp only
      exact sort_tail I' hn ha hk (by omega) (by rw [List.length_map, Array.length_toList, hps]; exact h64) (kat_snds hkl har) hfl fun s'' x l => h s'' _ x (hO hps) l

set_option maxHeartbeats 4000000 in
theorem sort_rest {a kS : Addr} {e1 : Nat} {vs : List Value} {ps : List (Int × Int)} {P : PySem.Fin → Shared → Prop} {Out : List Value → Prop}
    (G : Gl w s₀.heap) (hA : A.depth < 940) (hU : A.units < 9900) (K : KAt w s₀.heap D f) {c : Int × Int → Int × Int → Int} (C : CmpFn w s₀.heap f c) {fo : Obj} {fd : FuncData} (hf : s₀.heap.get? f = some fo) (hfd : fo.data = .func fd)
    (hp : Pts s₀.heap vs ps) (bd : ∀ p ∈ ps, Bd p) (h64 : vs.length < 64)
    (hs : vs.length < 2 → Out vs) (hl : 2 ≤ vs.length → okT vs.length (fun i j => decide (c (ps.getD i (0, 0)) (ps.getD j (0, 0)) < 0)) (fun p : Array Nat => p.size = vs.length → Out (p.toList.map fun i => vs.getD i Value.none)) (kas_sort vs.length))
    (X : SortI s₀ D a kS e1 [] [] s) (hn : @Ne Nat a kS) (ha : s₀.heap.objs.size ≤ a) (hk : s₀.heap.objs.size ≤ kS)
    (h : ∀ s' out, Ext s₀ s' → Out out → s'.heap.IsList a out.toArray → P (.done (.ret .none)) s') : wpAny (model P0 w) A (ksk_rest a (.ref D.c) false vs.toArray e1 (.ref kS)) P E s := by
  unfold ksk_rest
  refine wpAny_bind (wpAny_rule ?_)
  rw [List.forIn_toArray]
  refine wpAny_bind (ksk_fold (fun i s' => ∃ ks, SortI s₀ D a kS e1 ks (vs.take i) s') vs 0 s ⟨[], X⟩ (fun j x s' hx I' => ?_) (fun s' I' => ?_))
  · obtain ⟨ks, I'⟩ := I'
    obtain ⟨b, p, rfl, ep, hpt⟩ := hp.get hx
    have hjl : j < vs.length := (List.getElem?_eq_some_iff.mp hx).1
    have hkl := I'.keys.len
    rw [List.length_take, Nat.zero_add] at hkl
    refine wpAny_bind (wpAny_attempt (newK_c (G.keeps I'.ext.keep) (by omega) (K.keeps I'.ext.keep) fun s'' x e z hnone => ?_))
    have I2 := I'.on e
    obtain ⟨ek, hlk⟩ := I2.lk
    try dsimp only
    refine wpAny_bind (listUpdate_at hlk rfl ?_ (by rw [List.size_toArray, sizeLine_eq]; omega) (by rw [Array.size_push, List.size_toArray, sizeLine_eq]; omega))
    refine wpAny_pure ⟨rfl, ks ++ [.ref x], ?_⟩
    have hc2 := get?_update_seq hlk (·.push (.ref x))
    have ea : ks.toArray.push (Value.ref x) = (ks ++ [Value.ref x]).toArray := by simp
    rw [ea] at hc2
    have s1 := Heap.SameBut.update s''.heap kS (Obj.mapSeq (·.push (.ref x)))
    have et : vs.take (0 + j + 1) = vs.take (0 + j) ++ [.ref b] := by
      rw [Nat.zero_add, List.take_succ_eq_append_getElem hjl]
      congr 2
      exact (List.getElem?_eq_some_iff.mp hx).2
    rw [et]
    have kin : KInst (s''.heap.update kS (Obj.mapSeq (·.push (.ref x)))) D x b := by
      obtain ⟨dx, od, h1, h2⟩ := z
      have n1 : @Ne Nat x kS := fun q => by rw [q] at h1; rw [h1] at hlk; cases hlk
      by_cases n2 : @Eq Nat dx kS
      · subst n2; exact ⟨dx, _, (s1.2 _ n1).trans h1, hc2⟩
      · exact ⟨dx, od, (s1.2 _ n1).trans h1, (s1.2 _ n2).trans h2⟩
    have kks : Keys (s''.heap.update kS (Obj.mapSeq (·.push (.ref x)))) D ks (vs.take (0 + j)) := by
      have gen : ∀ {ks' vs' : List Value}, Keys s''.heap D ks' vs' → Keys (s''.heap.update kS (Obj.mapSeq (·.push (.ref x)))) D ks' vs' := by
        intro ks'
        induction ks' with
        | nil => intro vs' q; cases vs' with
          | nil => trivial
          | cons _ _ => exact q.elim
        | cons k ks' ih =>
          intro vs' q
          cases vs' with
          | nil => cases k <;> exact q.elim
          | cons v vs' =>
            cases k <;> try exact q.elim
            cases v <;> try exact q.elim
            refine ⟨?_, ih q.2⟩
            obtain ⟨dx, od, h1, h2⟩ := q.1
            rename_i y _
            have n1 : @Ne Nat y kS := fun q => by rw [q] at h1; rw [h1] at hlk; cases hlk
            by_cases n2 : @Eq Nat dx kS
            · subst n2; exact ⟨dx, _, (s1.2 _ n1).trans h1, hc2⟩
            · exact ⟨dx, od, (s1.2 _ n1).trans h1, (s1.2 _ n2).trans h2⟩
      exact gen I2.keys
    exact ⟨I2.ext.upd hk, (s1.2 _ hn).trans I2.la, ⟨_, hc2⟩, Keys.snoc kin kks⟩
  · obtain ⟨ks, I'⟩ := I'
    rw [Nat.zero_add, List.take_length] at I'
    obtain ⟨ek, hlk⟩ := I'.lk
    try dsimp only
    refine wpAny_bind (listItems_at hlk rfl ?_)
    exact sort_end G hA hU K C hf hfd hp bd h64 hs hl I' hn ha hk h
set_option maxHeartbeats 4000000 in
theorem sorted_c {l : Addr} {vs : List Value} {ps : List (Int × Int)} {Q : Value → Shared → Prop} {Out : List Value → Prop}
    (G : Gl w s.heap) (hA : A.depth < 940) (hU : A.units < 9000) (K : KAt w s.heap D f) {c : Int × Int → Int × Int → Int} (C : CmpFn w s.heap f c) {fo : Obj} {fd : FuncData} (hf : s.heap.get? f = some fo) (hfd : fo.data = .func fd)
    (hli : s.heap.IsList l vs.toArray) (hp : Pts s.heap vs ps) (bd : ∀ p ∈ ps, Bd p) (h64 : vs.length < 64)
    (hs : vs.length < 2 → Out vs) (hl : 2 ≤ vs.length → okT vs.length (fun i j => decide (c (ps.getD i (0, 0)) (ps.getD j (0, 0)) < 0)) (fun p : Array Nat => p.size = vs.length → Out (p.toList.map fun i => vs.getD i Value.none)) (kas_sort vs.length))
    (h : ∀ s' a out, Ext s s' → Out out → s'.heap.IsList a out.toArray → s.heap.get? a = none → Q (.ref a) s') : wpAny (model P0 w) A (call (.builtin "sorted") [.ref l] [(Str.ofString "key", .ref D.c)]) Q E s := by
  refine call_function_entry_kw kind_sorted plain_sorted entry_sorted (ksk_s1 _ _) ?_
  unfold Builtin.«sorted»
  refine wpAny_bind (m := checkCount "sorted" 1 1 _) (wpAny_pure ?_)
  refine wpAny_bind (collect_list hli ?_ (by rw [sizeLine_eq]; omega))
  refine wpAny_bind (wpAny_newList ?_ (by rw [sizeLine_eq]; omega))
  have hsz : ((s.heap.push (seqObj "list" #[] 0)).update s.heap.objs.size (Obj.mapSeq (· ++ vs.toArray))).objs.size = s.heap.objs.size + 1 := by
    rw [Heap.size_update, size_push']
  have hoL : (((s.heap.push (seqObj "list" #[] 0)).update s.heap.objs.size (Obj.mapSeq (· ++ vs.toArray))).push (seqObj "list" vs.toArray 0)).get? (s.heap.objs.size + 1) = some (seqObj "list" vs.toArray 0) := by
    rw [← hsz]; exact Heap.get?_push_size _ rfl
  have e0 : Ext s { s with heap := ((s.heap.push (seqObj "list" #[] 0)).update s.heap.objs.size (Obj.mapSeq (· ++ vs.toArray))).push (seqObj "list" vs.toArray 0) } :=
    (((Ext.refl s).push (seqObj "list" #[] 0)).upd (f := Obj.mapSeq (· ++ vs.toArray)) (Nat.le_refl _)).push _
  show wpAny _ _ _ _ _ { s with heap := ((s.heap.push (seqObj "list" #[] 0)).update s.heap.objs.size (Obj.mapSeq (· ++ vs.toArray))).push (seqObj "list" vs.toArray 0) }
  rw [hsz]
  refine wpAny_bind (wpAny_holding (wpAny_call_entry_kw slot_list_sort ⟨_, hoL, rfl⟩ entry_list_sort ?body (ksk_l1 _ _)))
  case body =>
    rw [ksk_t1]
    generalize hgen : ((s.heap.push (seqObj "list" #[] 0)).update s.heap.objs.size (Obj.mapSeq (· ++ vs.toArray))).push (seqObj "list" vs.toArray 0) = hp1 at hoL e0 ⊢
    have hs1 : hp1.objs.size = s.heap.objs.size + 2 := by rw [← hgen, Heap.size_push, hsz]
    unfold ksk_tree
    have ho1 := get?_update_seq hoL fun _ => #[]
    refine wpAny_bind (listItems_at hoL rfl ?_)
    refine wpAny_bind (listUpdate_at hoL rfl ?_ (by rw [List.size_toArray, sizeLine_eq]; omega) (Nat.zero_le _))
    refine wpAny_bind (seqEpoch_at ho1 rfl ?_)
    refine wpAny_bind (wpAny_newTuple ?_ (by show vs.length ≤ _; rw [sizeLine_eq]; omega))
    refine wpAny_bind (wpAny_newList ?_ (Nat.zero_le _))
    refine wpAny_holding ?_
    have hsk : ((hp1.update (s.heap.objs.size + 1) (Obj.mapSeq fun _ => (#[] : Array Value))).push (seqObj "tuple" vs.toArray 0)).objs.size = s.heap.objs.size + 3 := by rw [Heap.size_push, Heap.size_update, hs1]
    refine sort_rest (s₀ := s) (a := s.heap.objs.size + 1) (Out := Out) G hA (by show A.units + 1 + 1 < 9900; omega) K C hf hfd hp bd h64 hs hl ⟨?_, ?_, ⟨_, Heap.get?_push_size _ rfl⟩, trivial⟩ ?_ (Nat.le_succ _) (by rw [hsk]; omega) fun s' out x o li => ?_
    · exact ((e0.upd (f := Obj.mapSeq fun _ => (#[] : Array Value)) (Nat.le_succ _)).push _).push _
    · exact Heap.get?_push_of_some _ (Heap.get?_push_of_some _ ho1)
    · rw [hsk]; omega
    · exact ⟨_, rfl, wpAny_pure ⟨_, rfl, h s' _ out x o li (Heap.get?_none_of_le (Nat.le_succ _))⟩⟩
end
end Mine
end
/-! part C9 -/
noncomputable section
open PySem PySem.W PyProof.Rows PySem.Calls
namespace Mine
def ptD (p : Int × Int) : PyData := .tuple [.int p.1, .int p.2]
theorem Pt.reads {h : Heap} {a : Addr} {p : Int × Int} (x : Pt h a p) : Reads h (.ref a) (ptD p) [] := by
  obtain ⟨t, u, o, ho, hc, n, hd⟩ := x
  exact .tuple ho hc hd (.cons (.int _ _) (.cons (.int _ _) .nil))
theorem Pts.reads {h : Heap} : ∀ {vs : List Value} {ps : List (Int × Int)}, Pts h vs ps → ReadsAll h vs (ps.map ptD) []
  | [], [], _ => .nil
  | .ref _ :: _, _ :: _, ⟨x, y⟩ => .cons x.reads (Pts.reads y)
theorem listReads {h : Heap} {l : Addr} {vs : List Value} {ps : List (Int × Int)} (hl : h.IsList l vs.toArray) (hp : Pts h vs ps) : Reads h (.ref l) (.list (ps.map ptD)) [l] := by
  obtain ⟨o, ho, hc, n, hd⟩ := hl
  exact .list ho hc hd (by simpa using hp.reads)
theorem eqv_pt (p q : Int × Int) : PyData.eqv (ptD p) (ptD q) = decide (p = q) := by
  obtain ⟨a, b⟩ := p; obtain ⟨c, d⟩ := q
  simp only [ptD, PyData.eqv, PyData.eqvAll, Bool.and_true]
  by_cases h1 : a = c <;> by_cases h2 : b = d <;> simp [h1, h2]
theorem eqvAll_pts : ∀ (ps qs : List (Int × Int)), PyData.eqvAll (ps.map ptD) (qs.map ptD) = decide (ps = qs)
  | [], [] => by simp [PyData.eqvAll]
  | [], _ :: _ => by simp [PyData.eqvAll]
  | _ :: _, [] => by simp [PyData.eqvAll]
  | p :: ps, q :: qs => by
    rw [List.map_cons, List.map_cons, PyData.eqvAll, eqv_pt, eqvAll_pts ps qs]
    by_cases h1 : p = q <;> by_cases h2 : ps = qs <;> simp [h1, h2]
theorem can_pt (p : Int × Int) : (ptD p).canLay0 = true := rfl
theorem dep_pt (p : Int × Int) : (ptD p).depth = 1 := rfl
theorem can_pts : ∀ ps : List (Int × Int), (PyData.list (ps.map ptD)).canLay0 = true := by
  intro ps
  show PyData.canLayAll0 (ps.map ptD) = true
  induction ps with
  | nil => rfl
  | cons p ps ih => rw [List.map_cons]; show ((ptD p).canLay0 && PyData.canLayAll0 (ps.map ptD)) = true; rw [can_pt, ih]; rfl
theorem dep_pts : ∀ ps : List (Int × Int), (PyData.list (ps.map ptD)).depth ≤ 3 := by
  intro ps
  have : PyData.depthAll (ps.map ptD) ≤ 1 := by
    induction ps with
    | nil => exact Nat.zero_le _
    | cons p ps ih => rw [List.map_cons]; show max (ptD p).depth (PyData.depthAll (ps.map ptD)) ≤ 1; rw [dep_pt]; omega
  show PyData.depthAll (ps.map ptD) + 1 ≤ 3
  omega
section
variable {w : World} {A : Around} {E : Value → Shared → Prop} {s : Shared}
theorem eqPt_c (hU : A.units < 9000) {a b : Addr} {p q : Int × Int} (ha : Pt s.heap a p) (hb : Pt s.heap b q) {Q : Value → Shared → Prop} (h : Q (.bool (decide (p = q))) s) : wpAny (model P0 w) A (compareOp .Eq (.ref a) (.ref b)) Q E s :=
  SeqAt.compareEq_reads ha.reads hb.reads (can_pt _) (can_pt _) (by rw [dep_pt, dep_pt]; show A.units + min 1 1 < 9900; omega) (by rw [eqv_pt]; exact h)
theorem nePt_c (hU : A.units < 9000) {a b : Addr} {p q : Int × Int} (ha : Pt s.heap a p) (hb : Pt s.heap b q) {Q : Value → Shared → Prop} (h : Q (.bool (!decide (p = q))) s) : wpAny (model P0 w) A (compareOp .NotEq (.ref a) (.ref b)) Q E s :=
  SeqAt.compareNe_reads ha.reads hb.reads (can_pt _) (can_pt _) (by rw [dep_pt, dep_pt]; show A.units + min 1 1 < 9900; omega) (by rw [eqv_pt]; exact h)
theorem eqLs_c (hU : A.units < 9000) {a b : Addr} {vs us : List Value} {p q : List (Int × Int)} (ha : s.heap.IsList a vs.toArray) (pa : Pts s.heap vs p) (hb : s.heap.IsList b us.toArray) (pb : Pts s.heap us q) {Q : Value → Shared → Prop} (h : Q (.bool (decide (p = q))) s) : wpAny (model P0 w) A (compareOp .Eq (.ref a) (.ref b)) Q E s :=
  SeqAt.compareEq_reads (listReads ha pa) (listReads hb pb) (can_pts _) (can_pts _) (by have := dep_pts p; have := dep_pts q; show A.units + _ < 9900; omega) (by show Q (.bool (PyData.eqvAll _ _)) s; rw [eqvAll_pts]; exact h)
theorem neLs_c (hU : A.units < 9000) {a b : Addr} {vs us : List Value} {p q : List (Int × Int)} (ha : s.heap.IsList a vs.toArray) (pa : Pts s.heap vs p) (hb : s.heap.IsList b us.toArray) (pb : Pts s.heap us q) {Q : Value → Shared → Prop} (h : Q (.bool (!decide (p = q))) s) : wpAny (model P0 w) A (compareOp .NotEq (.ref a) (.ref b)) Q E s :=
  SeqAt.compareNe_reads (listReads ha pa) (listReads hb pb) (can_pts _) (can_pts _) (by have := dep_pts p; have := dep_pts q; show A.units + _ < 9900; omega) (by show Q (.bool (!PyData.eqvAll _ _)) s; rw [eqvAll_pts]; exact h)
end
def ltPt (p q : Int × Int) : Bool := if p.1 = q.1 then decide (p.2 < q.2) else decide (p.1 < q.1)
theorem tlt_eq (a b : Addr) : Builtin.«tuple.__lt__» ⟨[.ref a, .ref b], []⟩ = (do
   if !(← isInstance (.ref b) (.type "tuple")) then return ← ret .notImplemented
   let xs ← Builtin.Tuple.tupleItemsOf (.ref a)
   let ys ← Builtin.Tuple.tupleItemsOf (.ref b)
   for (x, y) in xs.toList.zip ys.toList do
     if !(← eqBool x y) then
       rule "tuple.compare.by-the-first-pair-that-differs"; return ← ret (← richCompare .Lt x y)
   ret (Builtin.Tuple.tupleCompareSizes .Lt xs.size ys.size)) := rfl
section
variable {w : World} {A : Around} {E : Value → Shared → Prop} {s s₀ : Shared}
theorem eqInt_c (hU : A.units < 9000) {x y : Int} {t u : Tok} {Q : Bool → Shared → Prop} (h : Q (x == y) s) : wpAny (model P0 w) A (eqBool (.int x t) (.int y u)) Q E s :=
  SeqAt.eqBoolOverData P0 w A E s _ _ (.int x) (.int y) [] [] Q (.int _ _) (.int _ _) rfl rfl (by show A.units + min 0 0 < 9900; omega) h
set_option maxHeartbeats 4000000 in
theorem ltPt_c (hU : A.units < 8000) {a b : Addr} {p q : Int × Int} (ha : Pt s.heap a p) (hb : Pt s.heap b q) {Q : Value → Shared → Prop} (h : Q (.bool (ltPt p q)) s) : wpAny (model P0 w) A (richCompare .Lt (.ref a) (.ref b)) Q E s := by
  obtain ⟨t, u, ha⟩ := ha
  obtain ⟨t', u', hb⟩ := hb
  refine wpAny_richCompare_same_room ha.typeIs hb.typeIs PySem.F.slot_tuple_lt (wpAny_call_entry PySem.F.slot_tuple_lt ha.typeIs PySem.F.entry_tuple_lt ?_ (PySem.F.args_tuple_lt_2 _ _)) (by show A.units < 9900; omega)
  rw [tlt_eq]
  obtain ⟨oa, hoa, hca, na, hda⟩ := ha
  obtain ⟨ob, hob, hcb, nb, hdb⟩ := hb
  have hT0 : Looks (model P0 w) s.heap (typeOf (.ref b)) ob.cls := (Looks.ld hob).andThen .now
  have hT : Looks (model P0 w) s.heap (typeOf (.ref b)) (.type "tuple") := hcb ▸ hT0
  have hI : Looks (model P0 w) s.heap (isInstance (.ref b) (.type "tuple")) true := hT.andThen (Looks.of_pure AutoSeq1.sub_tuple_tuple)
  refine wpAny_bind (hI.here ?_)
  simp only [Bool.not_true, Bool.false_eq_true, if_false]
  unfold Builtin.Tuple.tupleItemsOf
  refine wpAny_bind (wpAny_bind (wpAny_seqItems hoa hda (wpAny_pure ?_)))
  refine wpAny_bind (wpAny_bind (wpAny_seqItems hob hdb (wpAny_pure ?_)))
  simp only [List.zip_cons_cons, List.zip_nil_right, List.forIn_cons, List.forIn_nil, bind_assoc]
  refine wpAny_bind (eqInt_c (by show A.units + 1 < 9000; omega) ?_)
  by_cases h1 : p.1 = q.1
  · have e1 : (p.1 == q.1) = true := by simpa using h1
    simp only [e1, Bool.not_true, Bool.false_eq_true, if_false, pure_bind, bind_assoc]
    refine wpAny_bind (eqInt_c (by show A.units + 1 < 9000; omega) ?_)
    have el : ltPt p q = decide (p.2 < q.2) := by unfold ltPt; rw [if_pos h1]
    by_cases h2 : p.2 = q.2
    · have e2 : (p.2 == q.2) = true := by simpa using h2
      simp only [e2, Bool.not_true, Bool.false_eq_true, if_false, pure_bind]
      refine wpAny_pure ⟨_, rfl, (fun x => nomatch x), ?_⟩
      have : ltPt p q = false := by rw [el, h2]; simp
      rw [this] at h
      exact h
    · have e2 : (p.2 == q.2) = false := by simpa using h2
      simp only [e2, Bool.not_false, if_true, bind_assoc]
      refine wpAny_bind (wpAny_rule (wpAny_bind ?_))
      show wpAny _ _ (compareOp .Lt _ _) _ _ _
      refine lt_int ?_
      simp only [ret, pure_bind]
      refine wpAny_pure ⟨_, rfl, (fun x => nomatch x), ?_⟩
      rw [el] at h
      exact h
  · have e1 : (p.1 == q.1) = false := by simpa using h1
    simp only [e1, Bool.not_false, if_true, bind_assoc]
    refine wpAny_bind (wpAny_rule (wpAny_bind ?_))
    show wpAny _ _ (compareOp .Lt _ _) _ _ _
    refine lt_int ?_
    simp only [ret, pure_bind]
    refine wpAny_pure ⟨_, rfl, (fun x => nomatch x), ?_⟩
    have el : ltPt p q = decide (p.1 < q.1) := by unfold ltPt; rw [if_neg h1]
    rw [el] at h
    exact h
def minF (b : Int × Int) (ps : List (Int × Int)) : Int × Int := ps.foldl (fun b p => if ltPt p b then p else b) b

theorem minF_cons (b p : Int × Int) (ps : List (Int × Int)) : minF b (p :: ps) = minF (if ltPt p b then p else b) ps := rfl
set_option maxHeartbeats 4000000 in
theorem minloop_c {I S l : Addr} {vs : List Value} {ps : List (Int × Int)} {R : Result → Shared → Prop} (hh : A.handled = none) (hU : A.units < 7000) (hp : Pts s₀.heap vs ps) (hI : s₀.heap.objs.size ≤ I) (hS : s₀.heap.objs.size ≤ S) (hlI : @Ne Nat l I) (hlS : @Ne Nat l S) (hIS : @Ne Nat I S) :
    ∀ (k j : Nat) (s : Shared) (ab : Addr) (pb : Int × Int) (c : Nat), vs.length - (j + 1) = k → j + 1 ≤ vs.length → s.heap.IsListIter I l (j + 1) → s.heap.IsList l vs.toArray → Ext s₀ s → Pt s₀.heap ab pb →
    s.heap.get? S = some { cls := .type "list", dict := none, data := .seq #[.ref ab, .ref ab] c, slots := #[] } →
    (∀ s' a, Ext s₀ s' → Pt s₀.heap a (minF pb (ps.drop (j + 1))) → R (.ok (.ret (.ref a))) s') →
    codeAny (model P0 w) A (.builtin "min.loop" ⟨[.ref I, .none, .ref S], []⟩) R s := by
  have W := Walks.list (prog := P0) (w := w) (A := A.in1) hh I l hlI vs.toArray
  have hname : (toString "min" ++ toString ".loop" : String) = "min.loop" := by decide
  have hsz : vs.toArray.size = vs.length := List.size_toArray ..
  intro k
  induction k with
  | zero =>
    intro j s ab pb c hk hj hit hl hx hpb hSo hR
    have hin : j + 1 = vs.length := by omega
    refine codeAny_builtin F.entry_min_loop ?_
    rw [Around.under_plainId F.plain_min_loop _]
    show wpAny _ A.in1 (seqItems? (.ref S) >>= _) _ _ s
    refine wpAny_bind (wpAny_seqItems hSo rfl ?_)
    show wpAny _ A.in1 (tryCatch (pyNext (.ref I)) _ >>= _) _ _ s
    refine wpAny_bind (wpAny_tryCatch (W.done s _ _ (by rw [hsz, ← hin]; exact ⟨hit, hl⟩) fun h' tk hk' => ?_))
    have hS' := hk' S _ (by simpa using Ne.symm hIS) hSo
    show wpAny _ A.in1 (updateSeq S (fun _ => #[]) >>= _) _ _ _
    refine wpAny_bind ?_
    refine wpAny_updateSeq hS' rfl (wpAny_bind (wpAny_letGo (wpAny_pure ?_)))
    refine hR _ ab ?_ ?_
    · have x1 : Ext s₀ { s with heap := h', toks := tk } := ⟨fun b o e => hk' b o (by have := Heap.lt_size e; intro q; have := List.mem_singleton.mp q; subst this; exact absurd hI (Nat.not_le.mpr (Heap.lt_size e))) (hx.keep b o e), hx.gens, hx.os⟩
      exact x1.upd hS
    · have : ps.drop (j + 1) = [] := by rw [List.drop_eq_nil_iff, ← hp.len]; omega
      rw [this]
      exact hpb
  | succ k ih =>
    intro j s ab pb c hk hj hit hl hx hpb hSo hR
    have hlt : j + 1 < vs.length := by omega
    refine codeAny_builtin F.entry_min_loop ?_
    rw [Around.under_plainId F.plain_min_loop _]
    show wpAny _ A.in1 (seqItems? (.ref S) >>= _) _ _ s
    refine wpAny_bind (wpAny_seqItems hSo rfl ?_)
    show wpAny _ A.in1 (tryCatch (pyNext (.ref I)) _ >>= _) _ _ s
    refine wpAny_bind (wpAny_tryCatch (W.item (j + 1) s _ _ (by rw [hsz]; exact hlt) ⟨hit, hl⟩ fun v h' tk hP hst' hk' => ?_))
    have hS' := hk' S _ (by simpa using Ne.symm hIS) hSo
    have x1 : Ext s₀ { s with heap := h', toks := tk } := ⟨fun b o e => hk' b o (by intro q; have := List.mem_singleton.mp q; subst this; exact absurd hI (Nat.not_le.mpr (Heap.lt_size e))) (hx.keep b o e), hx.gens, hx.os⟩
    obtain ⟨av, pv, rfl, epv, hpv⟩ := hp.get (i := j + 1) (v := v) (by simpa using hP)
    have hdrop : ps.drop (j + 1) = pv :: ps.drop (j + 1 + 1) := by
      obtain ⟨hl1, he1⟩ := List.getElem?_eq_some_iff.mp epv
      rw [List.drop_eq_getElem_cons hl1, he1]
    rw [hdrop, minF_cons] at hR
    show wpAny _ A.in1 (tryCatch (holding [.ref av, .ref av] (richCompare .Lt (.ref av) (.ref ab) >>= _)) _ >>= _) _ _ _
    refine wpAny_bind (wpAny_tryCatch (wpAny_holding (wpAny_bind (ltPt_c (by show A.units + 1 < 8000; omega) (hpv.keeps x1.keep) (hpb.keeps x1.keep) ?_))))
    refine wpAny_bind (wpAny_holding (wpAny_truthy_bool ?_))
    refine wpAny_bind (wpAny_letGo (wpAny_pure ?_))
    cases hb : ltPt pv pb with
    | true =>
      simp only [if_true]
      rw [hb, if_pos rfl] at hR
      refine wpAny_bind ?_
      refine wpAny_updateSeq hS' rfl (wpAny_bind (wpAny_letGo ?_))
      rw [hname]
      have su := Heap.SameBut.update h' S (Obj.mapSeq fun _ => (#[Value.ref av, Value.ref av] : Array Value))
      refine wpAny_pure ⟨plainId_quiet F.plain_min_loop _, ih (j + 1) _ av pv _ (by omega) hlt (hst'.1.at fun o e => (su.2 _ hIS).trans e) (hst'.2.at fun o e => (su.2 _ hlS).trans e) (x1.upd hS) hpv (Heap.get?_update_self _ hS' rfl) hR⟩
    | false =>
      simp only [Bool.false_eq_true, if_false]
      rw [hb, if_neg (by simp)] at hR
      refine wpAny_bind (wpAny_letGo ?_)
      rw [hname]
      exact wpAny_pure ⟨plainId_quiet F.plain_min_loop _, ih (j + 1) _ ab pb c (by omega) hlt hst'.1 hst'.2 x1 hpb hS' hR⟩

set_option maxHeartbeats 4000000 in
theorem min_c {l : Addr} {vs : List Value} {p : Int × Int} {ps : List (Int × Int)} {Q : Value → Shared → Prop} (hh : A.handled = none) (hU : A.units < 6000) (hl : s.heap.IsList l vs.toArray) (hp : Pts s.heap vs (p :: ps))
    (h : ∀ s' a, Ext s s' → Pt s'.heap a (minF p ps) → Q (.ref a) s') : wpAny (model P0 w) A (call (.builtin "min") [.ref l]) Q E s := by
  have hname : (toString "min" ++ toString ".loop" : String) = "min.loop" := by decide
  have hlen : 0 < vs.length := by rw [hp.len]; simp
  have hlt : l < s.heap.objs.size := let ⟨_, ho, _⟩ := hl; Heap.lt_size ho
  refine call_function_tree F.kind_min F.plain_min F.entry_min (F.args_min1 _) ?_
  show wpAny _ A.in1 (Builtin.Builtins.bindParams "min" ["key", "default"] 0 ⟨[], []⟩ >>= _) _ _ s
  refine wpAny_bind (wpAny_of_eq (show Builtin.Builtins.bindParams "min" ["key", "default"] 0 ⟨[], []⟩ = pure [none, none] from rfl) ?_)
  refine wpAny_bind (wpAny_pure ?_)
  refine wpAny_bind (wpAny_pyIter_list hl ?_)
  refine wpAny_bind (wpAny_newObj_type ?_)
  rw [hname]
  generalize hI : s.heap.objs.size = I at *
  have x0 : Ext s { s with heap := s.heap.push { cls := .type "list_iterator", data := .fields #[.ref l, .int 0 0] } } := (Ext.refl s).push _
  have hSz : (s.heap.push { cls := .type "list_iterator", data := .fields #[.ref l, .int 0 0] }).objs.size = I + 1 := by rw [Heap.size_push, hI]
  have x1 := x0.push { cls := .type "list", data := .seq #[] }
  have hS : ((s.heap.push { cls := .type "list_iterator", data := .fields #[.ref l, .int 0 0] }).push { cls := .type "list", data := .seq #[] }).get? (I + 1) = some { cls := .type "list", data := .seq #[] } := by rw [← hSz]; exact Heap.get?_push_size _ rfl
  have hit : ((s.heap.push { cls := .type "list_iterator", data := .fields #[.ref l, .int 0 0] }).push { cls := .type "list", data := .seq #[] }).IsListIter I l 0 :=
    ⟨_, Heap.get?_push_of_some _ (by rw [← hI]; exact Heap.get?_push_size _ rfl), rfl, rfl⟩
  have hll : ((s.heap.push { cls := .type "list_iterator", data := .fields #[.ref l, .int 0 0] }).push { cls := .type "list", data := .seq #[] }).IsList l vs.toArray := let ⟨o, ho, r⟩ := hl; ⟨o, x1.keep _ _ ho, r⟩
  refine wpAny_pure (a := Fin.again (.builtin "min.loop" ⟨[.ref I, .none, .ref (s.heap.push { cls := .type "list_iterator", data := .fields #[.ref l, .int 0 0] }).objs.size], []⟩)) ?_
  rw [hSz]
  refine ⟨plainId_quiet F.plain_min_loop _, codeAny_builtin F.entry_min_loop ?_⟩
  have hlI : @Ne Nat l I := Nat.ne_of_lt hlt
  have hlS : @Ne Nat l (I + 1) := Nat.ne_of_lt (Nat.lt_succ_of_lt hlt)
  have hIS : @Ne Nat I (I + 1) := Nat.ne_of_lt (Nat.lt_succ_self _)
  have W := Walks.list (prog := P0) (w := w) (A := A.in1) hh I l hlI vs.toArray
  have hsz : vs.toArray.size = vs.length := List.size_toArray ..
  rw [Around.under_plainId F.plain_min_loop _]
  show wpAny _ A.in1 (seqItems? (.ref (I + 1)) >>= _) _ _ _
  refine wpAny_bind (wpAny_seqItems hS rfl ?_)
  show wpAny _ A.in1 (tryCatch (pyNext (.ref I)) _ >>= _) _ _ _
  refine wpAny_bind (wpAny_tryCatch (W.item 0 _ _ _ (by rw [hsz]; exact hlen) ⟨hit, hll⟩ fun v h' tk hP hst' hk' => ?_))
  have hS' := hk' (I + 1) _ (by simp) hS
  obtain ⟨av, pv, rfl, epv, hpv⟩ := hp.get (i := 0) (v := v) (by simpa using hP)
  cases epv
  have x2 : Ext s { s with heap := h', toks := tk } := ⟨fun b o e => hk' b o (by intro q; have := List.mem_singleton.mp q; subst this; exact absurd (Nat.le_of_eq hI) (Nat.not_le.mpr (Heap.lt_size e))) (x1.keep b o e), rfl, rfl⟩
  show wpAny _ A.in1 (updateSeq (I + 1) (fun _ => #[.ref av, .ref av]) >>= _) _ _ _
  refine wpAny_bind ?_
  refine wpAny_updateSeq hS' rfl ?_
  rw [hname]
  have su := Heap.SameBut.update h' (I + 1) (Obj.mapSeq fun _ => (#[Value.ref av, Value.ref av] : Array Value))
  refine wpAny_pure ⟨plainId_quiet F.plain_min_loop _, minloop_c (s₀ := s) hh (by omega) hp (Nat.le_of_eq hI) (by rw [hI]; exact Nat.le_succ _) hlI hlS hIS _ 0 _ av p _ rfl hlen (hst'.1.at fun o e => (su.2 _ hIS).trans e) (hst'.2.at fun o e => (su.2 _ hlS).trans e) (x2.upd (by rw [hI]; exact Nat.le_succ _)) hpv (Heap.get?_update_self _ hS' rfl) fun s' a xx hpt => ?_⟩
  exact h s' a xx (hpt.keeps xx.keep)
end
end Mine
end
/-! part C10 -/
noncomputable section
open PySem PySem.W PyProof.Rows PySem.Calls
namespace Mine
def bad (h t p : Int × Int) : Bool := decide (turn h t p < 0) || (turn h t p == 0 && decide (far h t < far h p))
def isNext (ps : List (Int × Int)) (h t : Int × Int) : Bool := !decide (t = h) && ps.all fun p => !bad h t p
section
variable {w : World} {A : Around} {E : Value → Shared → Prop} {s : Shared} {env : Env}
theorem cbool {M : Model} {b : Bool} {k : Nat} {pos : Pos} {Q : Value → Shared → Prop} (h : Q (.bool b) s) : wpAny M A (eval (.Constant (.bool b) k pos) env) Q E s := fun _ _ _ => h
theorem Fr.iter {h₀ h h' : Heap} {L I : Nat} {m : Str → Option Value} (F : Fr h₀ L h m) (hI : h₀.objs.size ≤ I) (hn : L ≠ I) (k : Heap.ExtBut I h h') : Fr h₀ L h' m :=
  ⟨F.ns.extBut k hn, fun b o e => k b o (Nat.ne_of_lt (Nat.lt_of_lt_of_le (Heap.lt_size e) hI)) (F.keep b o e), F.above⟩
set_option maxRecDepth 100000 in
set_option maxHeartbeats 8000000 in
theorem isnext_c (G : Gl w s.heap) (hh : A.handled = none) (hA : A.depth < 960) (hU : A.units < 6000) {l a b : Addr} {vs : List Value} {ps : List (Int × Int)} {p q : Int × Int} (hl : s.heap.IsList l vs.toArray) (hp : Pts s.heap vs ps) (bd : ∀ p ∈ ps, Bd p)
    (ha : Pt s.heap a p) (hb : Pt s.heap b q) (bp : Bd p) (bq : Bd q) {Q : Value → Shared → Prop} (h : ∀ s', Ext s s' → Q (.bool (isNext ps p q)) s') : wpAny (model P0 w) A (call (.ref 65) [.ref l, .ref a, .ref b]) Q E s := by
  refine wpAny_call (codeAny_call_def (binds := [("points", .ref l), ("here", .ref a), ("there", .ref b)]) (by show A.depth < 1000; omega) (G.all 65 _ (by decide) (by decide) rfl) rfl G.nolimit ⟨_, _, _, _, rfl, G.all 64 _ (by decide) (by decide) rfl, rfl, rfl⟩ rfl (BindsTo.of_eq rfl) (by decide) (locs rfl) (fun h₁ hns hk₁ => ?_))
  have F : Fr s.heap s.heap.objs.size h₁ _ := ⟨hns, hk₁, Nat.le_refl _⟩
  refine wpAny_execs_cons (wpAny_If (wpAny_isTrue_Compare1 (lname hns rfl (lname hns rfl (eqPt_c (by show A.units + 3 < 9000; omega) (hb.keeps hk₁) (ha.keeps hk₁) (wpAny_truthy_bool ?_))))))
  by_cases hqp : q = p
  · simp only [hqp, decide_true, if_true]
    refine wpAny_execs_cons (wpAny_Return_some (cbool ?_))
    have e : isNext ps p q = false := by unfold isNext; simp [hqp]
    rw [e] at h
    exact h _ ⟨hk₁, rfl, rfl⟩
  simp only [hqp, decide_false, Bool.false_eq_true, if_false]
  refine wpAny_execs_nil (wpAny_execs_cons (wpAny_For (lname hns rfl (wpAny_pyIter_list (let ⟨o, ho, r⟩ := hl; ⟨o, hk₁ _ _ ho, r⟩) ?_))))
  have hsz : s.heap.objs.size < h₁.objs.size := hns.lt
  have hL : @Ne Nat s.heap.objs.size h₁.objs.size := Nat.ne_of_lt hsz
  refine codeAny_forLoop (fun n s' => ∃ i m, n = vs.length + 1 - i ∧ i ≤ vs.length ∧ Fr s.heap s.heap.objs.size s'.heap m ∧ m "here" = some (.ref a) ∧ m "there" = some (.ref b) ∧ s'.heap.IsListIter h₁.objs.size l i ∧ s'.gens = s.gens ∧ s'.os = s.os ∧ (ps.take i).all (fun r => !bad p q r) = true) ?turn (vs.length + 1) ⟨0, _, rfl, Nat.zero_le _, Fr.on F (fun b o e => Heap.get?_push_of_some _ e), rfl, rfl, ⟨_, Heap.get?_push_size _ rfl, rfl, rfl⟩, rfl, rfl, by simp⟩
  rintro n s' ⟨i, m, rfl, hi, F', mh, mt, hit, hg, hos, hall⟩
  have hl' : s'.heap.IsList l vs.toArray := let ⟨o, ho, r⟩ := hl; ⟨o, F'.keep _ _ ho, r⟩
  by_cases hiv : i < vs.length
  · obtain ⟨v, hv⟩ : ∃ v, vs[i]? = some v := ⟨vs[i], by simp [hiv]⟩
    obtain ⟨av, r, rfl, er, hr⟩ := hp.get hv
    refine wpAny_pyNext_list_item hit hl' (x := .ref av) (by simpa using hv) fun h₂ hit₂ S₂ => ?_
    dsimp only
    refine wpAny_assign_Name ?_
    have F₂ := Fr.iter F' (Nat.le_of_lt hsz) hL S₂.extBut
    refine lstore F₂ fun h₃ F₃ S₃ => ?_
    have hit₃ : h₃.IsListIter h₁.objs.size l (i + 1) := hit₂.at fun o e => (S₃.2 _ (Ne.symm hL)).trans e
    have G₃ := G.keeps F₃.keep
    have mh3 : (if ("here" : Str) = "point" then some (Value.ref av) else m "here") = some (.ref a) := by rw [if_neg (by decide)]; exact mh
    have mt3 : (if ("there" : Str) = "point" then some (Value.ref av) else m "there") = some (.ref b) := by rw [if_neg (by decide)]; exact mt
    have mp3 : (if ("point" : Str) = "point" then some (Value.ref av) else m "point") = some (.ref av) := if_pos rfl
    refine wpAny_execs_cons (wpAny_Assign_Name ?_)
    refine Call_ (gname (w := w) G₃ (g_turn w) ?_)
    refine callWith_def (o := _) (fd := _) rfl (args_cons (lname F₃.ns mh3 (args_cons (lname F₃.ns mt3 (args_cons (lname F₃.ns mp3 (args_nil ⟨G₃.all 37 _ (by decide) (by decide) rfl, ?_⟩)))))))
    have br : Bd r := bd r (List.mem_of_getElem? er)
    refine turn_c G₃ (by show A.depth + 1 < 990; omega) (ha.keeps F₃.keep) (hb.keeps F₃.keep) (hr.keeps F₃.keep) bp bq br fun s₄ t₄ X₄ => ?_
    have F₄ := Fr.on F₃ X₄.keep
    have hit₄ := hit₃.at fun o e => X₄.keep _ _ e
    refine lstore F₄ fun h₅ F₅ S₅ => ?_
    have hit₅ : h₅.IsListIter h₁.objs.size l (i + 1) := hit₄.at fun o e => (S₅.2 _ (Ne.symm hL)).trans e
    have G₅ := G.keeps F₅.keep
    refine wpAny_execs_cons (wpAny_If (isTrue_or (wpAny_isTrue_Compare1 (lname F₅.ns (if_pos rfl) (wpAny_Constant_int (lt_int (wpAny_truthy_bool ?_)))))))
    have fin : ∀ s₆ : Shared, Ext { s₄ with heap := h₅, toks := s₄.toks + 1 } s₆ → bad p q r = false → ∃ m', m' < vs.length + 1 - i ∧ ∃ i_1 m_1, m' = vs.length + 1 - i_1 ∧ i_1 ≤ vs.length ∧ Fr s.heap s.heap.objs.size s₆.heap m_1 ∧ m_1 "here" = some (.ref a) ∧ m_1 "there" = some (.ref b) ∧ s₆.heap.IsListIter h₁.objs.size l i_1 ∧ s₆.gens = s.gens ∧ s₆.os = s.os ∧ (ps.take i_1).all (fun r => !bad p q r) = true := by
      intro s₆ X₆ hbad
      refine ⟨vs.length + 1 - (i + 1), by omega, i + 1, _, rfl, hiv, Fr.on F₅ X₆.keep, ?_, ?_, hit₅.at fun o e => X₆.keep _ _ e, X₆.gens.trans (X₄.gens.trans hg), X₆.os.trans (X₄.os.trans hos), ?_⟩
      · rw [if_neg (by decide)]; exact mh3
      · rw [if_neg (by decide)]; exact mt3
      · obtain ⟨hl1, he1⟩ := List.getElem?_eq_some_iff.mp er
        rw [List.take_succ_eq_append_getElem hl1, he1, List.all_append, hall]
        simp [hbad]
    have stop : ∀ s₆ : Shared, Ext { s₄ with heap := h₅, toks := s₄.toks + 1 } s₆ → bad p q r = true → Q (.bool false) s₆ := by
      intro s₆ X₆ hbad
      have e : isNext ps p q = false := by
        unfold isNext
        have : (ps.all fun r => !bad p q r) = false := by
          rw [List.all_eq_false]
          exact ⟨r, List.mem_of_getElem? er, by simp [hbad]⟩
        rw [this, Bool.and_false]
      rw [e] at h
      exact h _ ⟨(Fr.on F₅ X₆.keep).keep, X₆.gens.trans (X₄.gens.trans hg), X₆.os.trans (X₄.os.trans hos)⟩
    by_cases ht : turn p q r < 0
    · have e1 : decide (turn p q r < 0) = true := decide_eq_true ht
      simp only [e1, if_true]
      refine wpAny_execs_cons (wpAny_Return_some (cbool ?_))
      exact stop _ ((Ext.refl _).toks _) (by unfold bad; rw [e1]; rfl)
    · have e1 : decide (turn p q r < 0) = false := decide_eq_false ht
      simp only [e1, Bool.false_eq_true, if_false]
      refine isTrue_or (isTrue_and (wpAny_isTrue_Compare1 (lname F₅.ns (if_pos rfl) (wpAny_Constant_int (PyProof.Rows.eq_int (wpAny_truthy_bool ?_))))))
      by_cases hz : turn p q r = 0
      · have e2 : (turn p q r == 0) = true := by simpa using hz
        simp only [e2, if_true]
        refine isTrue_and (wpAny_isTrue_Compare1 (Call_ (gname (w := w) G₅ (g_far w) ?_)))
        refine callWith_def (o := _) (fd := _) rfl (args_cons (lname F₅.ns (by rw [if_neg (by decide)]; exact mh3) (args_cons (lname F₅.ns (by rw [if_neg (by decide)]; exact mp3) (args_nil ⟨G₅.all 44 _ (by decide) (by decide) rfl, ?_⟩)))))
        refine far_c G₅ (by show A.depth + 1 < 990; omega) (ha.keeps F₅.keep) (hr.keeps F₅.keep) fun s₆ t₆ X₆ => ?_
        have F₆ := Fr.on F₅ X₆.keep
        have G₆ := G.keeps F₆.keep
        refine Call_ (gname (w := w) G₆ (g_far w) ?_)
        refine callWith_def (o := _) (fd := _) rfl (args_cons (lname F₆.ns (by rw [if_neg (by decide)]; exact mh3) (args_cons (lname F₆.ns (by rw [if_neg (by decide)]; exact mt3) (args_nil ⟨G₆.all 44 _ (by decide) (by decide) rfl, ?_⟩)))))
        refine far_c G₆ (by show A.depth + 1 < 990; omega) (ha.keeps F₆.keep) (hb.keeps F₆.keep) fun s₇ t₇ X₇ => ?_
        have X' : Ext { s₄ with heap := h₅, toks := s₄.toks + 1 } s₇ := ⟨fun b o e => X₇.keep _ _ (X₆.keep _ _ e), X₇.gens.trans X₆.gens, X₇.os.trans X₆.os⟩
        refine gt_int (wpAny_truthy_bool ?_)
        by_cases hf : far p q < far p r
        · have e3 : decide (far p q < far p r) = true := decide_eq_true hf
          simp only [e3, if_true]
          refine isTrue_and_nil ?_
          refine wpAny_execs_cons (wpAny_Return_some (cbool ?_))
          exact stop _ X' (by unfold bad; rw [e1, e2, e3]; rfl)
        · have e3 : decide (far p q < far p r) = false := decide_eq_false hf
          simp only [e3, Bool.false_eq_true, if_false]
          refine isTrue_or_nil ?_
          simp only [Bool.false_eq_true, if_false]
          refine wpAny_execs_nil (wpAny_execs_nil ?_)
          exact fin _ X' (by unfold bad; rw [e1, e2, e3]; rfl)
      · have e2 : (turn p q r == 0) = false := by simpa using hz
        simp only [e2, Bool.false_eq_true, if_false]
        refine isTrue_or_nil ?_
        simp only [Bool.false_eq_true, if_false]
        refine wpAny_execs_nil (wpAny_execs_nil ?_)
        exact fin _ ((Ext.refl _).toks _) (by unfold bad; rw [e1, e2]; rfl)
  · have hiv' : i = vs.length := by omega
    subst hiv'
    refine wpAny_pyNext_list_end hh hit hl' (by simp) fun h₂ E₂ => ?_
    dsimp only
    refine wpAny_execs_nil ?_
    have F₂ := Fr.iter F' (Nat.le_of_lt hsz) hL E₂
    refine wpAny_execs_cons (wpAny_Return_some (cbool ?_))
    have e : isNext ps p q = true := by
      unfold isNext
      rw [hp.len, List.take_length] at hall
      rw [hall]
      simp [hqp]
    rw [e] at h
    exact h _ ⟨F₂.keep, hg, hos⟩
end
end Mine
end
/-! part C11 -/
noncomputable section
open PySem PySem.W PyProof.Rows PySem.Calls
namespace Mine
noncomputable def popR (p : Int × Int) : List (Int × Int) → List (Int × Int)
  | b :: a :: r => if turn a b p ≤ 0 then popR p (a :: r) else b :: a :: r
  | l => l
def pushF (ps : List (Int × Int)) (p : Int × Int) : List (Int × Int) := (popR p ps.reverse).reverse ++ [p]
theorem Pts.last {h : Heap} : ∀ {vs : List Value} {ps : List (Int × Int)}, Pts h vs ps → 0 < ps.length → ∃ vs' ps' a p, vs = vs' ++ [.ref a] ∧ ps = ps' ++ [p] ∧ Pts h vs' ps' ∧ Pt h a p
  | [], [], _, h => by simp at h
  | .ref a :: [], p :: [], ⟨x, _⟩, _ => ⟨[], [], a, p, rfl, rfl, trivial, x⟩
  | .ref a :: v :: vs, p :: q :: ps, ⟨x, y⟩, _ => by
    obtain ⟨vs', ps', b, r, e1, e2, e3, e4⟩ := Pts.last (vs := v :: vs) (ps := q :: ps) y (by simp)
    exact ⟨.ref a :: vs', p :: ps', b, r, by rw [e1]; rfl, by rw [e2]; rfl, ⟨x, e3⟩, e4⟩
  | .ref _ :: [], _ :: _ :: _, ⟨_, y⟩, _ => y.elim
  | .ref _ :: v :: _, _ :: [], ⟨_, y⟩, _ => by cases v <;> exact y.elim
section
variable {w : World} {A : Around} {E : Value → Shared → Prop} {s : Shared} {env : Env}
theorem addLs {l b : Addr} {vs ws : List Value} {Q : Value → Shared → Prop} (hl : s.heap.IsList l vs.toArray) (hb : s.heap.IsList b ws.toArray)
    (h : Q (.ref s.heap.objs.size) { s with heap := s.heap.push { cls := .type "list", data := .seq (vs ++ ws).toArray } })
    (hsz : vs.length + ws.length ≤ sizeLine) :
    wpAny (model P0 w) A (binaryOp .Add (.ref l) (.ref b)) Q E s := by
  obtain ⟨⟨cls, dd, data, sl⟩, ho, hc, n, hd⟩ := id hl
  obtain ⟨⟨cls2, dd2, data2, sl2⟩, ho2, hc2, n2, hd2⟩ := id hb
  simp only at hc hd hc2 hd2
  subst hc hd hc2 hd2
  have e : vs.toArray ++ ws.toArray = (vs ++ ws).toArray := by simp
  refine concat_meets ⟨_, ho, rfl⟩ ⟨_, ho2, rfl⟩ noFill_list_add seq_list_add PySem.F.slot_list_add PySem.F.entry_list_add (PySem.F.args_list_add_2 _ _) (list_addW l b vs.toArray ws.toArray n n2 dd dd2 sl sl2 (by simpa using hsz)) ⟨ho, ho2, ?_⟩
  rw [e]
  exact h
theorem negItem {x : Str} {l : Addr} {i : Int} {vs : List Value} {v : Value} {m : Str → Option Value} {kk : Nat} {p1 p2 p3 p4 : Pos} {Q : Value → Shared → Prop} (hns : s.heap.Ns env.locals m) (hm : m x = some (.ref l)) (hl : s.heap.IsList l vs.toArray) (h0 : 0 < i) (h1 : i ≤ vs.length) (hf : i < 64) (hv : vs[(-i + vs.length).toNat]? = some v)
    (h : ∀ t, Q v { s with toks := t }) (hk : env.scope.kind = .function := by rfl) (hlo : env.kindOf x = some .local := by rfl) (hd : (x == ("__debug__" : Str)) = false := by decide) :
    wpAny (model P0 w) A (eval (.Subscript (.Name x p1) (.UnaryOp .USub (.Constant (.int i) kk p2) p3) p4) env) Q E s := by
  refine Subscript_ (lname hns hm (wpAny_UnaryOp (wpAny_Constant_int (PySem.P.neg_int ?_))) hk hlo hd)
  have hl' : ({ s with toks := s.toks + 1 + 1 } : Shared).heap.IsList l vs.toArray := hl
  exact tail_any (ops := [.ref l, .int (-i) (s.toks + 1)]) hl'.typeIs slot_list_getitem.lookup (wpAny_getItem_list_neg hl' (by omega) (by rw [List.size_toArray]; omega) (by omega) (x := v) (by rw [List.size_toArray]; simpa using hv) (h _)) (by with_unfolding_all rfl)
set_option maxRecDepth 100000 in
set_option maxHeartbeats 8000000 in
theorem push_c (G : Gl w s.heap) (hA : A.depth < 960) {h₀ : Heap} (k₀ : ∀ b o, h₀.get? b = some o → s.heap.get? b = some o) {l a : Addr} {vs : List Value} {ps : List (Int × Int)} {p : Int × Int} (hl : s.heap.IsList l vs.toArray) (hp : Pts h₀ vs ps) (bd : ∀ p ∈ ps, Bd p)
    (ha : Pt h₀ a p) (bp : Bd p) (h64 : vs.length < 64) {Q : Value → Shared → Prop} (h : ∀ s' l' vs', Ext s s' → s'.heap.IsList l' vs'.toArray → Pts h₀ vs' (pushF ps p) → s.heap.get? l' = none → Q (.ref l') s') : wpAny (model P0 w) A (call (.ref 58) [.ref l, .ref a]) Q E s := by
  refine wpAny_call (codeAny_call_def (binds := [("kept", .ref l), ("point", .ref a)]) (by show A.depth < 1000; omega) (G.all 58 _ (by decide) (by decide) rfl) rfl G.nolimit ⟨_, _, _, _, rfl, G.all 57 _ (by decide) (by decide) rfl, rfl, rfl⟩ rfl (BindsTo.of_eq rfl) (by decide) (locs rfl) (fun h₁ hns hk₁ => ?_))
  have F : Fr s.heap s.heap.objs.size h₁ _ := ⟨hns, hk₁, Nat.le_refl _⟩
  refine wpAny_execs_cons (wpAny_While ?_)
  have hll : l < s.heap.objs.size := let ⟨_, ho, _⟩ := hl; Heap.lt_size ho
  refine codeAny_whileLoop (fun n s' => ∃ l' vs' ps' m, n = ps'.length ∧ Fr s.heap s.heap.objs.size s'.heap m ∧ m "kept" = some (.ref l') ∧ m "point" = some (.ref a) ∧ @Ne Nat l' s.heap.objs.size ∧ s'.heap.IsList l' vs'.toArray ∧ Pts h₀ vs' ps' ∧ vs'.length < 64 ∧ (∀ q ∈ ps', Bd q) ∧ popR p ps'.reverse = popR p ps.reverse ∧ s'.gens = s.gens ∧ s'.os = s.os) ?turn ps.length ⟨l, vs, ps, _, rfl, F, rfl, rfl, Nat.ne_of_lt hll, (let ⟨o, ho, r⟩ := hl; ⟨o, hk₁ _ _ ho, r⟩), hp, h64, bd, rfl, rfl, rfl⟩
  rintro n s' ⟨l', vs', ps', m, rfl, F', mk, mp, hne, hl', hp', h64', bd', hpop, hg, hos⟩
  have G' := G.keeps F'.keep
  have hlen := hp'.len
  have k₁ : ∀ b o, h₀.get? b = some o → s'.heap.get? b = some o := fun b o e => F'.keep _ _ (k₀ _ _ e)
  have hok : popR p ps'.reverse = ps'.reverse ∨ ∃ pr x y, ps' = pr ++ [x, y] ∧ turn x y p ≤ 0 := by
    rcases ps'.eq_nil_or_concat with rfl | ⟨q, y, rfl⟩
    · exact .inl rfl
    rcases q.eq_nil_or_concat with rfl | ⟨pr, x, rfl⟩
    · exact .inl rfl
    by_cases ht : turn x y p ≤ 0
    · exact .inr ⟨pr, x, y, by simp, ht⟩
    · refine .inl ?_
      simp [popR, ht]
  refine wpAny_mono (Q := fun b s₂ => s₂.heap.IsList l' vs'.toArray ∧ Fr s.heap s.heap.objs.size s₂.heap m ∧ s₂.gens = s.gens ∧ s₂.os = s.os ∧ (b = true → ∃ pr x y, ps' = pr ++ [x, y] ∧ turn x y p ≤ 0) ∧ (b = false → popR p ps'.reverse = ps'.reverse)) ?test ?rest (fun _ _ e => e)
  case test =>
    refine isTrue_and (wpAny_isTrue_Compare1 (Call_ (bname (w := w) G' (b_len w) ?_)))
    refine PyProof.Rows.callWith_builtin1 (args_cons (lname F'.ns mk (args_nil (call_len_list hl' (by rw [List.size_toArray]; omega) ?_))))
    refine wpAny_Constant_int (gt_int (wpAny_truthy_bool ?_))
    rw [List.size_toArray]
    by_cases h1 : 1 < ps'.length
    · have e1 : decide ((1 : Int) < (vs'.length : Int)) = true := decide_eq_true (by omega)
      simp only [e1, if_true]
      obtain ⟨v1, q1, ay, y, rfl, rfl, hp1, hy⟩ := hp'.last (by omega)
      simp only [List.length_append, List.length_singleton] at h1 hlen h64'
      obtain ⟨v2, pr, ax, x, rfl, rfl, hp2, hx⟩ := hp1.last (by omega)
      simp only [List.length_append, List.length_singleton] at h1 hlen h64'
      refine isTrue_and (wpAny_isTrue_Compare1 (Call_ (gname (w := w) G' (g_turn w) ?_)))
      refine callWith_def (o := _) (fd := _) rfl (args_cons (negItem F'.ns mk hl' (v := .ref ax) (by omega) (by simp; omega) (by omega) ?_ fun t => args_cons (negItem (s := { s' with toks := t }) F'.ns mk hl' (v := .ref ay) (by omega) (by simp; omega) (by omega) ?_ fun t' => args_cons (lname F'.ns mp (args_nil ⟨G'.all 37 _ (by decide) (by decide) rfl, ?_⟩)))))
      · have : (-2 + (((v2 ++ [Value.ref ax]) ++ [Value.ref ay]).length : Int)).toNat = v2.length := by simp only [List.length_append, List.length_singleton]; omega
        rw [this]; simp
      · have : (-1 + (((v2 ++ [Value.ref ax]) ++ [Value.ref ay]).length : Int)).toNat = v2.length + 1 := by simp only [List.length_append, List.length_singleton]; omega
        rw [this]; simp
      refine turn_c (A := A.deeper _) (s := { s' with toks := t' }) G' (by show A.depth + 1 < 990; omega) (hx.keeps k₁) (hy.keeps k₁) (ha.keeps k₁) (bd' x (by simp)) (bd' y (by simp)) bp fun s₄ t₄ X₄ => ?_
      refine wpAny_Constant_int (PySem.P.le_int (wpAny_truthy_bool ?_))
      have hlx : s₄.heap.IsList l' ((v2 ++ [Value.ref ax]) ++ [Value.ref ay]).toArray := let ⟨o, ho, r⟩ := hl'; ⟨o, X₄.keep _ _ ho, r⟩
      by_cases ht : turn x y p ≤ 0
      · have e2 : decide (turn x y p ≤ 0) = true := decide_eq_true ht
        simp only [e2, if_true]
        refine isTrue_and_nil ⟨hlx, Fr.on F' X₄.keep, X₄.gens.trans hg, X₄.os.trans hos, fun _ => ⟨pr, x, y, by simp, ht⟩, fun e => nomatch e⟩
      · have e2 : decide (turn x y p ≤ 0) = false := decide_eq_false ht
        simp only [e2, Bool.false_eq_true, if_false]
        exact ⟨hlx, Fr.on F' X₄.keep, X₄.gens.trans hg, X₄.os.trans hos, fun e => e.elim, fun _ => by simp [popR, ht]⟩
    · have e1 : decide ((1 : Int) < (vs'.length : Int)) = false := decide_eq_false (by omega)
      simp only [e1, Bool.false_eq_true, if_false]
      refine ⟨hl', F', hg, hos, fun e => e.elim, fun _ => ?_⟩
      match ps', h1 with
      | [], _ => rfl
      | [x], _ => rfl
      | _ :: _ :: _, h1 => simp at h1
  case rest =>
    rintro b s₂ ⟨hl₂, F₂, hg₂, hos₂, hT, hF⟩
    cases b with
    | true =>
      simp only [if_true]
      obtain ⟨pr, x, y, rfl, ht⟩ := hT rfl
      refine wpAny_execs_cons (wpAny_Assign_Name ?_)
      refine wpAny_Subscript_list_slice (lname F₂.ns mk (evalPart_none_step (evalPart_some_step (wpAny_UnaryOp (wpAny_Constant_int (PySem.P.neg_int ?_))))))
      refine ⟨l', vs'.toArray, none, some (-1), rfl, hl₂, by rw [List.size_toArray, sizeLine_eq]; omega, .none, .int _ _, ?_⟩
      have e3 : slicePick vs'.toArray none (some (-1)) none = (vs'.take (vs'.length - 1)).toArray := by
        have := slicePick_butLast vs'.toArray 1 (Nat.le_refl _)
        simpa using this
      rw [e3]
      have k3 : ∀ b o, s₂.heap.get? b = some o → ((s₂.heap.push { cls := .type "slice", data := .fields #[.none, .int (-1) (s₂.toks + 1), .none] }).push { cls := .type "list", data := .seq (vs'.take (vs'.length - 1)).toArray }).get? b = some o := fun b o e => Heap.get?_push_of_some _ (Heap.get?_push_of_some _ e)
      have F₃ := Fr.on F₂ k3
      have hsz : @LT.lt Nat _ s.heap.objs.size s₂.heap.objs.size := F₂.ns.lt
      have hn3 : @Ne Nat (s₂.heap.objs.size + 1) s.heap.objs.size := Nat.ne_of_gt (Nat.lt_succ_of_lt hsz)
      refine lstore F₃ fun h₄ F₄ S₄ => wpAny_execs_nil ⟨_, ?_, s₂.heap.objs.size + 1, vs'.take (vs'.length - 1), pr ++ [x], _, rfl, F₄, if_pos rfl, ?_, hn3, ?_, ?_, ?_, ?_, ?_, hg₂, hos₂⟩
      · simp
      · rw [if_neg (by decide)]; exact mp
      · refine ⟨_, (S₄.2 _ hn3).trans (?_ : _ = some { cls := .type "list", data := .seq (vs'.take (vs'.length - 1)).toArray }), rfl, _, rfl⟩
        have := Heap.get?_push_size (h := s₂.heap.push { cls := .type "slice", data := .fields #[.none, .int (-1) (s₂.toks + 1), .none] }) (o := { cls := .type "list", data := .seq (vs'.take (vs'.length - 1)).toArray }) rfl
        rw [Heap.size_push] at this
        exact this
      · obtain ⟨v1, q1, ay, y', rfl, e5, hp1, hy⟩ := hp'.last (by simp)
        have e6 : pr ++ [x] = q1 := by
          have := congrArg List.dropLast e5
          simpa [List.dropLast_append_of_ne_nil] using this
        rw [e6]
        simpa using hp1
      · rw [List.length_take]; omega
      · intro q hq
        exact bd' q (by simp at hq ⊢; rcases hq with h | h <;> simp [h])
      · rw [← hpop]; simp [popR, ht]
    | false =>
      simp only [Bool.false_eq_true, if_false]
      have hpe := hF rfl
      refine wpAny_execs_nil ?_
      refine wpAny_execs_cons (wpAny_Return_some (wpAny_BinOp (lname F₂.ns mk (List_ (spliced_more (lname F₂.ns mp (spliced_none (wpAny_newList ?_))))))))
      have k3 : ∀ b o, s₂.heap.get? b = some o → (s₂.heap.push { cls := .type "list", data := .seq [Value.ref a].toArray }).get? b = some o := fun b o e => Heap.get?_push_of_some _ e
      refine addLs (vs := vs') (ws := [.ref a]) (let ⟨o, ho, r⟩ := hl₂; ⟨o, k3 _ _ ho, r⟩) ⟨_, Heap.get?_push_size _ rfl, rfl, _, rfl⟩ ?_ (by simp only [sizeLine_eq, List.length_singleton]; omega)
      have k4 : ∀ b o, s.heap.get? b = some o → ((s₂.heap.push { cls := .type "list", data := .seq [Value.ref a].toArray }).push { cls := .type "list", data := .seq (vs' ++ [Value.ref a]).toArray }).get? b = some o := fun b o e => Heap.get?_push_of_some _ (k3 _ _ (F₂.keep _ _ e))
      refine h _ _ (vs' ++ [.ref a]) ⟨k4, hg₂, hos₂⟩ ⟨_, Heap.get?_push_size _ rfl, rfl, _, rfl⟩ ?_ (Heap.get?_none_of_le (by rw [Heap.size_push]; exact Nat.le_succ_of_le (Nat.le_of_lt F₂.ns.lt)))
      have e5 : pushF ps p = ps' ++ [p] := by unfold pushF; rw [← hpop, hpe, List.reverse_reverse]
      rw [e5]
      exact Pts.append hp' ⟨ha, trivial⟩
end
end Mine
end
/-! part C12 -/
noncomputable section
open PySem PySem.W PyProof.Rows PySem.Calls
namespace Mine
theorem popR_sub (p : Int × Int) : ∀ (n : Nat) (l : List (Int × Int)), l.length ≤ n → ∀ q ∈ popR p l, q ∈ l := by
  intro n
  induction n with
  | zero => intro l hl q hq; match l, hl with | [], _ => exact hq
  | succ n ih =>
    intro l hl q hq
    match l, hl with
    | [], _ => exact hq
    | [_], _ => exact hq
    | b :: a :: r, hl =>
      unfold popR at hq
      split at hq
      · exact List.mem_cons_of_mem _ (ih (a :: r) (by simpa using hl) q hq)
      · exact hq
theorem popR_len (p : Int × Int) : ∀ (n : Nat) (l : List (Int × Int)), l.length ≤ n → (popR p l).length ≤ l.length := by
  intro n
  induction n with
  | zero => intro l hl; match l, hl with | [], _ => exact Nat.le_refl _
  | succ n ih =>
    intro l hl
    match l, hl with
    | [], _ => exact Nat.le_refl _
    | [_], _ => exact Nat.le_refl _
    | b :: a :: r, hl =>
      unfold popR
      split
      · exact Nat.le_succ_of_le (ih (a :: r) (by simpa using hl))
      · exact Nat.le_refl _
theorem pushF_sub {ps : List (Int × Int)} {p q : Int × Int} (h : q ∈ pushF ps p) : q ∈ ps ∨ q = p := by
  unfold pushF at h
  rcases List.mem_append.mp h with h | h
  · exact .inl (List.mem_reverse.mp (popR_sub p _ _ (Nat.le_refl _) q (List.mem_reverse.mp h)))
  · exact .inr (by simpa using h)
theorem pushF_len (ps : List (Int × Int)) (p : Int × Int) : (pushF ps p).length ≤ ps.length + 1 := by
  unfold pushF
  have := popR_len p _ ps.reverse (Nat.le_refl _)
  simp at this ⊢
  exact this
section
variable {w : World} {A : Around} {E : Value → Shared → Prop} {s : Shared} {env : Env}
theorem iter_c {l : Addr} {vs : List Value} {Q : Value → Shared → Prop} (hl : s.heap.IsList l vs.toArray) (h : Q (.ref s.heap.objs.size) { s with heap := s.heap.push { cls := .type "list_iterator", data := .fields #[.ref l, .int 0 0] } }) : wpAny (model P0 w) A (call (.builtin "iter") [.ref l]) Q E s := by
  refine call_function_entry (by decide +kernel) (by decide +kernel) kdk_entry_iter (kdk_args_iter _) ?_
  unfold Builtin.«iter»
  refine wpAny_bind (m := someArgs "iter" 1 2 _) (wpAny_of_eq (a := [Value.ref l]) (by first | rfl | kernel_rfl!) ?_)
  show wpAny _ _ (pyIter (.ref l) >>= _) _ _ _
  refine wpAny_bind (wpAny_pyIter_list hl ?_)
  exact wpAny_pure ⟨_, rfl, h⟩
set_option maxRecDepth 100000 in
set_option maxHeartbeats 8000000 in
theorem reduce_c (G : Gl w s.heap) (hh : A.handled = none) (hA : A.depth < 950) {l k : Addr} {vs us : List Value} {ps qs : List (Int × Int)} (hl : s.heap.IsList l vs.toArray) (hp : Pts s.heap vs ps) (bd : ∀ p ∈ ps, Bd p)
    (hk : s.heap.IsList k us.toArray) (hq : Pts s.heap us qs) (bq : ∀ p ∈ qs, Bd p) (h64 : vs.length + us.length < 64) {Q : Value → Shared → Prop} (h : ∀ s' l' vs', Ext s s' → s'.heap.IsList l' vs'.toArray → Pts s'.heap vs' (ps.foldl pushF qs) → Q (.ref l') s') : wpAny (model P0 w) A (call (.ref 30) [.ref 58, .ref l, .ref k]) Q E s := by
  refine wpAny_call (codeAny_call_def (binds := [("function", .ref 58), ("sequence", .ref l), ("initial", .ref k)]) (by show A.depth < 1000; omega) (G.all 30 _ (by decide) (by decide) rfl) rfl G.nolimit ⟨_, _, _, _, rfl, G.all 29 _ (by decide) (by decide) rfl, rfl, rfl⟩ rfl (BindsTo.of_defaults rfl (G.all 23 _ (by decide) (by decide) rfl) rfl rfl rfl) (by decide) (locs rfl) (fun h₁ hns hk₁ => ?_))
  have F : Fr s.heap s.heap.objs.size h₁ _ := ⟨hns, hk₁, Nat.le_refl _⟩
  have G₁ := G.keeps hk₁
  refine wpAny_execs_cons (wpAny_Assign_Name ?_)
  refine Call_ (bname (w := w) G₁ (b_iter w) ?_)
  refine PyProof.Rows.callWith_builtin1 (args_cons (lname hns rfl (args_nil (iter_c (vs := vs) (let ⟨o, ho, r⟩ := hl; ⟨o, hk₁ _ _ ho, r⟩) ?_))))
  have hsz : s.heap.objs.size < h₁.objs.size := hns.lt
  have hL : @Ne Nat s.heap.objs.size h₁.objs.size := Nat.ne_of_lt hsz
  have F₂ := Fr.on F (h' := h₁.push { cls := .type "list_iterator", data := .fields #[.ref l, .int 0 0] }) (fun b o e => Heap.get?_push_of_some _ e)
  refine lstore F₂ fun h₃ F₃ S₃ => ?_
  have hit₃ : h₃.IsListIter h₁.objs.size l 0 := ⟨_, (S₃.2 _ (Ne.symm hL)).trans (Heap.get?_push_size _ rfl), rfl, rfl⟩
  have G₃ := G.keeps F₃.keep
  obtain ⟨ok, hok, rk⟩ := hk
  have hkn : k ≠ 22 := by
    intro e
    subst e
    have := G.all 22 _ (by decide) (by decide) rfl
    rw [hok] at this
    have e2 := Option.some.inj this
    rw [e2] at rk
    exact absurd rk.1 (by decide)
  refine wpAny_execs_cons (wpAny_If (wpAny_isTrue_Compare1 (lname F₃.ns rfl (gname (w := w) G₃ (g_missing w) (wpAny_is_ref_other hkn (F₃.keep _ _ hok) (G₃.all 22 _ (by decide) (by decide) rfl) (by rw [rk.1]; decide) (wpAny_truthy_bool ?_))))))
  simp only [Bool.false_eq_true, if_false]
  refine wpAny_execs_cons (wpAny_Assign_Name (lname F₃.ns rfl ?_))
  refine lstore F₃ fun h₄ F₄ S₄ => wpAny_execs_nil ?_
  have hit₄ : h₄.IsListIter h₁.objs.size l 0 := hit₃.at fun o e => (S₄.2 _ (Ne.symm hL)).trans e
  refine wpAny_execs_cons (wpAny_For (lname F₄.ns rfl (wpAny_pyIter_listiter hit₄ ?_)))
  refine codeAny_forLoop (fun n s' => ∃ i m l' vs', n = vs.length + 1 - i ∧ i ≤ vs.length ∧ Fr s.heap s.heap.objs.size s'.heap m ∧ m "function" = some (.ref 58) ∧ m "value" = some (.ref l') ∧ @Ne Nat l' s.heap.objs.size ∧ @Ne Nat l' h₁.objs.size ∧ s'.heap.IsListIter h₁.objs.size l i ∧ s'.heap.IsList l' vs'.toArray ∧ Pts s.heap vs' ((ps.take i).foldl pushF qs) ∧ s'.gens = s.gens ∧ s'.os = s.os) ?turn (vs.length + 1) ⟨0, _, k, us, rfl, Nat.zero_le _, F₄, rfl, rfl, Nat.ne_of_lt (Heap.lt_size hok), Nat.ne_of_lt (Nat.lt_trans (Heap.lt_size hok) hsz), hit₄, ⟨ok, F₄.keep _ _ hok, rk⟩, hq, rfl, rfl⟩
  rintro n s' ⟨i, m, l', vs', rfl, hi, F', mf, mv, n1, n2, hit, hl', hp', hg, hos⟩
  have hls : s'.heap.IsList l vs.toArray := let ⟨o, ho, r⟩ := hl; ⟨o, F'.keep _ _ ho, r⟩
  by_cases hiv : i < vs.length
  · obtain ⟨v, hv⟩ : ∃ v, vs[i]? = some v := ⟨vs[i], by simp [hiv]⟩
    obtain ⟨av, r, rfl, er, hr⟩ := hp.get hv
    refine wpAny_pyNext_list_item hit hls (x := .ref av) (by simpa using hv) fun h₅ hit₅ S₅ => ?_
    dsimp only
    refine wpAny_assign_Name ?_
    have F₅ := Fr.iter F' (Nat.le_of_lt hsz) hL S₅.extBut
    refine lstore F₅ fun h₆ F₆ S₆ => ?_
    have hit₆ : h₆.IsListIter h₁.objs.size l (i + 1) := hit₅.at fun o e => (S₆.2 _ (Ne.symm hL)).trans e
    have G₆ := G.keeps F₆.keep
    have hl₆ : h₆.IsList l' vs'.toArray := let ⟨o, ho, r⟩ := hl'; ⟨o, (S₆.2 _ n1).trans ((S₅.2 _ n2).trans ho), r⟩
    have hfs : ∀ (xs ys : List (Int × Int)) (q : Int × Int), q ∈ xs.foldl pushF ys → q ∈ xs ∨ q ∈ ys := by
      intro xs
      induction xs with
      | nil => intro ys q h; exact .inr h
      | cons x xs ih =>
        intro ys q h
        rcases ih (pushF ys x) q h with h | h
        · exact .inl (List.mem_cons_of_mem _ h)
        · rcases pushF_sub h with h | h
          · exact .inr h
          · exact .inl (h ▸ List.mem_cons_self)
    have hfl : ∀ (xs ys : List (Int × Int)), (xs.foldl pushF ys).length ≤ xs.length + ys.length := by
      intro xs
      induction xs with
      | nil => intro ys; simp
      | cons x xs ih =>
        intro ys
        have := ih (pushF ys x)
        have := pushF_len ys x
        simp only [List.foldl_cons, List.length_cons]
        omega
    have bd' : ∀ q ∈ (ps.take i).foldl pushF qs, Bd q := fun q hq => by
      rcases hfs _ _ q hq with h | h
      · exact bd q (List.mem_of_mem_take h)
      · exact bq q h
    have h64' : vs'.length < 64 := by
      have e1 := hp'.len
      have e2 := hfl (ps.take i) qs
      have e3 := hp.len
      have e4 := hq.len
      rw [List.length_take] at e2
      omega
    refine wpAny_execs_cons (wpAny_Assign_Name ?_)
    refine Call_ (lname F₆.ns (v := .ref 58) (by rw [if_neg (by decide)]; exact mf) ?_)
    refine callWith_def (o := _) (fd := _) rfl (args_cons (lname F₆.ns (v := .ref l') (by rw [if_neg (by decide)]; exact mv) (args_cons (lname F₆.ns (if_pos rfl) (args_nil ⟨G₆.all 58 _ (by decide) (by decide) rfl, ?_⟩)))))
    refine push_c G₆ (by show A.depth + 1 < 960; omega) F₆.keep hl₆ hp' bd' hr (bd r (List.mem_of_getElem? er)) h64' fun s₇ l₇ vs₇ X₇ hl₇ hp₇ hn₇ => ?_
    have F₇ := Fr.on F₆ X₇.keep
    have hit₇ := hit₆.at fun o e => X₇.keep _ _ e
    have n3 : @Ne Nat l₇ s.heap.objs.size := by
      intro e
      obtain ⟨o, _, _, ho, _⟩ := F₆.ns
      rw [e] at hn₇
      rw [show h₆.get? s.heap.objs.size = some o from ho] at hn₇
      cases hn₇
    have n4 : @Ne Nat l₇ h₁.objs.size := by
      intro e
      obtain ⟨o, ho, _⟩ := hit₆
      rw [e] at hn₇
      rw [ho] at hn₇
      cases hn₇
    refine lstore F₇ fun h₈ F₈ S₈ => wpAny_execs_nil ⟨vs.length + 1 - (i + 1), by omega, i + 1, _, l₇, vs₇, rfl, hiv, F₈, ?_, if_pos rfl, n3, n4, hit₇.at fun o e => (S₈.2 _ (Ne.symm hL)).trans e, ?_, ?_, X₇.gens.trans hg, X₇.os.trans hos⟩
    · rw [if_neg (by decide), if_neg (by decide)]; exact mf
    · obtain ⟨o, ho, r⟩ := hl₇; exact ⟨o, (S₈.2 _ n3).trans ho, r⟩
    · obtain ⟨hl1, he1⟩ := List.getElem?_eq_some_iff.mp er
      rw [List.take_succ_eq_append_getElem hl1, he1, List.foldl_append]
      exact hp₇
  · have hiv' : i = vs.length := by omega
    subst hiv'
    refine wpAny_pyNext_list_end hh hit hls (by simp) fun h₅ E₅ => ?_
    dsimp only
    refine wpAny_execs_nil ?_
    have F₅ := Fr.iter F' (Nat.le_of_lt hsz) hL E₅
    refine wpAny_execs_cons (wpAny_Return_some (lname F₅.ns mv ?_))
    rw [hp.len, List.take_length] at hp'
    exact h _ l' vs' ⟨F₅.keep, hg, hos⟩ (let ⟨o, ho, r⟩ := hl'; ⟨o, E₅ _ _ n2 ho, r⟩) (hp'.keeps F₅.keep)
end
end Mine
end
/-! part N0 -/
noncomputable section
open PySem PySem.W PyProof.Rows PySem.Calls
set_option maxRecDepth 100000
namespace Mine
theorem tt1 : typeOf (.type "object") = pure (.type "type") := by kernel_rfl
theorem tt2 : isSubtype (.type "type") (.type "type") = pure true := by rw [isSubtype_type]; kernel_rfl
theorem tt3 : Builtin.notOverATurnedClass [.type "object"] = pure () := by
  unfold Builtin.notOverATurnedClass
  have e : mroOf (.type "object") = pure [.type "object"] := by rw [mroOf_type]; kernel_rfl
  simp [isType, e]
theorem tt4 : Builtin.extendedBase [.type "object"] = pure (.type "object") := by kernel_rfl
theorem tt5 : Builtin.mroHook? (.type "type") = pure none := by
  unfold Builtin.mroHook?
  have e : typeLookup (.type "type") "mro" = pure (some (.builtin "type.mro")) := by rw [typeLookup_type, builtinLookup_eq_fast]; kernel_rfl
  rw [e]; rfl
theorem tt6 : Builtin.linearize [.type "object"] mroOf = pure [.type "object"] := by
  unfold Builtin.linearize
  have e : mroOf (.type "object") = pure [.type "object"] := by rw [mroOf_type]; kernel_rfl
  simp only [List.mapM_cons, List.mapM_nil, e, pure_bind]
  kernel_rfl
theorem tt7 : Builtin.Slots.givesWeak (.type "object") = pure false := by kernel_rfl
theorem tt8 : Bind.madeBy (.type "object") = pure (some "object.__new__") := by kernel_rfl
theorem tt9 : Builtin.Slots.givesDict (.type "object") = pure false := by kernel_rfl
theorem tt10 : Builtin.Slots.bestBase [.type "object"] = pure (.type "object") := by kernel_rfl
theorem tt11 : Builtin.Slots.slotNamesOf (.type "object") = pure [] := by kernel_rfl
theorem tt12 : Builtin.Slots.varSize (.type "object") = pure false := by kernel_rfl
theorem tt13 (a : Addr) : Builtin.noteSubclassOfBuiltin "object" a = pure () := by
  unfold Builtin.noteSubclassOfBuiltin
  rw [if_pos (by decide +kernel)]
end Mine
end
/-! part N1 -/
noncomputable section
open PySem PySem.W PyProof.Rows PySem.Calls
namespace Mine
/-- the namespace that the body of class K leaves -/
structure NB where
  hh : Nat → Int
  tt : Nat → Tok
  vv : Nat → Value
  sl : Addr
  ep : Nat
  qual : Str
def NB.es (B : NB) : List DictEntry := [⟨B.hh 0, .str "__module__" (B.tt 0), B.vv 0⟩, ⟨B.hh 13, .str "__qualname__" (B.tt 13), .str B.qual (B.tt 14)⟩, ⟨B.hh 1, .str "__firstlineno__" (B.tt 1), B.vv 1⟩, ⟨B.hh 2, .str "__slots__" (B.tt 2), .ref B.sl⟩, ⟨B.hh 3, .str "__init__" (B.tt 3), B.vv 3⟩,
  ⟨B.hh 4, .str "__lt__" (B.tt 4), B.vv 4⟩, ⟨B.hh 5, .str "__gt__" (B.tt 5), B.vv 5⟩, ⟨B.hh 6, .str "__eq__" (B.tt 6), B.vv 6⟩, ⟨B.hh 7, .str "__le__" (B.tt 7), B.vv 7⟩, ⟨B.hh 8, .str "__ge__" (B.tt 8), B.vv 8⟩,
  ⟨B.hh 9, .str "__hash__" (B.tt 9), B.vv 9⟩, ⟨B.hh 10, .str "__static_attributes__" (B.tt 10), B.vv 10⟩]
theorem stp {M : Model} {A : Around} {E : Value → Shared → Prop} {α β : Type} {m : Sem α} {f : α → Sem β} {s : Shared} {Q : β → Shared → Prop} (a : α) (e : m = pure a) (h : wpAny M A (f a) Q E s) : wpAny M A (m >>= f) Q E s := wpAny_bind (wpAny_of_eq e h)
theorem forC {M : Model} {A : Around} {E : Value → Shared → Prop} {α β : Type} {x : α} {xs : List α} {b : β} {f : α → β → Sem (ForInStep β)} {s : Shared} {Q : β → Shared → Prop}
    (h : wpAny M A (f x b) (fun r s' => match r with | .yield b' => wpAny M A (forIn xs b' f) Q E s' | .done b' => Q b' s') E s) : wpAny M A (forIn (x :: xs) b f) Q E s := by
  rw [List.forIn_cons]
  refine wpAny_bind (wpAny_mono h (fun r s' h' => ?_) fun _ _ e => e)
  cases r with
  | done b => exact wpAny_pure h'
  | yield b => exact h'
theorem forN {M : Model} {A : Around} {E : Value → Shared → Prop} {α β : Type} {b : β} {f : α → β → Sem (ForInStep β)} {s : Shared} {Q : β → Shared → Prop} (h : Q b s) : wpAny M A (forIn ([] : List α) b f) Q E s := by
  rw [List.forIn_nil]; exact wpAny_pure h
theorem forA {M : Model} {A : Around} {E : Value → Shared → Prop} {α β : Type} {a : Array α} {l : List α} {b : β} {f : α → β → Sem (ForInStep β)} {s : Shared} {Q : β → Shared → Prop} (e : a = l.toArray)
    (h : wpAny M A (forIn l b f) Q E s) : wpAny M A (forIn a b f) Q E s := by
  subst e
  rw [List.forIn_toArray]; exact h
section
variable {w : World} {A : Around} {E : Value → Shared → Prop}
theorem asStr_seq {M : Model} {s : Shared} {a : Addr} {o : Obj} {vs : Array Value} {n : Nat} {Q : Option Str → Shared → Prop} (ho : s.heap.get? a = some o) (hd : o.data = .seq vs n) (h : Q none s) : wpAny M A (asStr? (.ref a)) Q E s := by
  unfold asStr?
  refine wpAny_bind (wpAny_load ho ?_)
  rw [hd]
  exact wpAny_pure h
set_option maxRecDepth 100000 in
set_option maxHeartbeats 4000000 in
theorem sread {s : Shared} {B : NB} {t : Tok} {Q : Builtin.Slots.Plan → Shared → Prop} (hs : s.heap.IsList B.sl [Value.str "obj" t].toArray)
    (h : ∀ h', (∀ b o, s.heap.get? b = some o → h'.get? b = some o) → @LE.le Nat _ s.heap.objs.size h'.objs.size → Q { names := ["obj"], dict := false, weak := false, inherited := [] } { s with heap := h' }) :
    wpAny (model P0 w) A (Builtin.Slots.read "K" [.type "object"] B.es.toArray) Q E s := by
  unfold Builtin.Slots.read
  refine stp _ tt10 (stp _ tt11 (stp _ tt9 (stp _ tt7 (stp _ tt12 ?_))))
  have hfind : B.es.toArray.find? (fun x => x.key.isStr "__slots__") = some ⟨B.hh 2, .str "__slots__" (B.tt 2), .ref B.sl⟩ := by kernel_rfl
  rw [hfind]
  refine wpAny_bind (wpAny_rule ?_)
  obtain ⟨o, ho, hc, n, hd⟩ := id hs
  refine wpAny_bind (asStr_seq ho hd ?_)
  refine wpAny_ite_false rfl ?_
  refine wpAny_bind (collect_list hs ?_ (by rw [sizeLine_eq]; exact Nat.le_of_ble_eq_true rfl))
  refine wpAny_ite_true rfl ?_
  refine stp _ tt12 ?_
  refine wpAny_ite_false rfl ?_
  refine wpAny_bind (forC ?_)
  refine stp _ rfl ?_
  refine stp _ rfl ?_
  have hid : Builtin.Slots.isIdentifier (Str.ofString "obj") = some true := by kernel_rfl
  dsimp only
  rw [hid]
  refine stp _ rfl ?_
  refine wpAny_ite_false rfl ?_
  refine wpAny_ite_false (by decide +kernel) ?_
  refine wpAny_ite_false (by decide +kernel) ?_
  refine wpAny_pure (forN ?_)
  have hm : Builtin.Slots.mangle (Str.ofString "K") (Str.ofString "obj") = Str.ofString "obj" := by kernel_rfl
  refine wpAny_bind (forA (l := [Str.ofString "obj"]) rfl (forC ?_))
  dsimp only
  rw [hm]
  refine wpAny_ite_false (by decide +kernel) ?_
  refine wpAny_ite_false (by kernel_rfl) ?_
  refine wpAny_ite_false (by decide +kernel) ?_
  refine wpAny_pure (forN ?_)
  dsimp only
  refine wpAny_bind (forC ?_)
  refine wpAny_ite_false (by decide +kernel) ?_
  refine wpAny_pure (forN ?_)
  refine wpAny_pure ?_
  exact h _ (fun b o e => ((Ext.refl s).push (seqObj "list" #[] 0) |>.upd (f := Obj.mapSeq (· ++ [Value.str (Str.ofString "obj") t].toArray)) (Nat.le_refl _)).keep b o e) (by rw [Heap.size_update, Heap.size_push]; exact Nat.le_succ _)
end
end Mine
end
/-! part N2 -/
noncomputable section
open PySem PySem.W PyProof.Rows PySem.Calls
namespace Mine
/-- the class being made: its namespace and itself, over the heap h₀ -/
structure TI (h₀ h : Heap) (ns c : Addr) (od oc : Obj) (X : List (Addr × Obj)) : Prop where
  keep : ∀ b o, h₀.get? b = some o → h.get? b = some o
  dn : h.get? ns = some od
  cc : h.get? c = some oc
  z : @LE.le Nat _ h₀.objs.size ns
  zc : @LT.lt Nat _ ns c
  ex : ∀ p ∈ X, h.get? p.1 = some p.2 ∧ @LT.lt Nat _ c p.1
section
variable {h₀ h : Heap} {ns c : Addr} {od oc : Obj} {X : List (Addr × Obj)}
theorem TI.updC (I : TI h₀ h ns c od oc X) {f : Obj → Obj} (hf : (f oc).isFreed = false) : TI h₀ (h.update c f) ns c od (f oc) X :=
  have S := Heap.SameBut.update h c f
  ⟨fun b o e => (S.2 b (Nat.ne_of_lt (Nat.lt_of_lt_of_le (Heap.lt_size e) (Nat.le_trans I.z (Nat.le_of_lt I.zc))))).trans (I.keep b o e), (S.2 ns (Nat.ne_of_lt I.zc)).trans I.dn, Heap.get?_update_self _ I.cc hf, I.z, I.zc, fun p hp => ⟨(S.2 p.1 (Nat.ne_of_gt (I.ex p hp).2)).trans (I.ex p hp).1, (I.ex p hp).2⟩⟩
theorem TI.updN (I : TI h₀ h ns c od oc X) {f : Obj → Obj} (hf : (f od).isFreed = false) : TI h₀ (h.update ns f) ns c (f od) oc X :=
  have S := Heap.SameBut.update h ns f
  ⟨fun b o e => (S.2 b (Nat.ne_of_lt (Nat.lt_of_lt_of_le (Heap.lt_size e) I.z))).trans (I.keep b o e), Heap.get?_update_self _ I.dn hf, (S.2 c (Nat.ne_of_gt I.zc)).trans I.cc, I.z, I.zc, fun p hp => ⟨(S.2 p.1 (Nat.ne_of_gt (Nat.lt_trans I.zc (I.ex p hp).2))).trans (I.ex p hp).1, (I.ex p hp).2⟩⟩
theorem TI.push (I : TI h₀ h ns c od oc X) (o : Obj) : TI h₀ (h.push o) ns c od oc X :=
  ⟨fun b o e => Heap.get?_push_of_some _ (I.keep b o e), Heap.get?_push_of_some _ I.dn, Heap.get?_push_of_some _ I.cc, I.z, I.zc, fun p hp => ⟨Heap.get?_push_of_some _ (I.ex p hp).1, (I.ex p hp).2⟩⟩
theorem TI.pushX (I : TI h₀ h ns c od oc X) (o : Obj) (hf : o.isFreed = false) : TI h₀ (h.push o) ns c od oc ((h.objs.size, o) :: X) :=
  ⟨fun b o e => Heap.get?_push_of_some _ (I.keep b o e), Heap.get?_push_of_some _ I.dn, Heap.get?_push_of_some _ I.cc, I.z, I.zc, fun p hp => by
    rcases List.mem_cons.mp hp with rfl | hp
    · exact ⟨Heap.get?_push_size _ hf, Heap.lt_size I.cc⟩
    · exact ⟨Heap.get?_push_of_some _ (I.ex p hp).1, (I.ex p hp).2⟩⟩
variable {M : Model} {A : Around} {E : Value → Shared → Prop} {g : Array GenState} {d : Drawn} {tk : Nat} {os : OsState}
theorem TI.new {h1 : Heap} {Q : Addr → Shared → Prop} (hns : h1.objs.size = ns) (k1 : ∀ b o, h₀.get? b = some o → h1.get? b = some o) (z1 : @LE.le Nat _ h₀.objs.size h1.objs.size) (f1 : od.isFreed = false) (f2 : oc.isFreed = false) (k : ∀ c h', TI h₀ h' ns c od oc [] → Q c ⟨h', g, d, tk, os⟩) : wpAny M A (alloc oc) Q E ⟨h1.push od, g, d, tk, os⟩ := by
  subst hns
  refine wpAny_alloc (k _ _ ⟨fun b o e => Heap.get?_push_of_some _ (Heap.get?_push_of_some _ (k1 b o e)), Heap.get?_push_of_some _ (Heap.get?_push_size _ f1), Heap.get?_push_size _ f2, z1, ?_, fun p hp => (nomatch hp)⟩)
  show _ < (h1.push od).objs.size
  rw [Heap.size_push]; exact Nat.lt_succ_self _
theorem TI.slot (I : TI h₀ h ns c od oc X) {i : Nat} {v : Option Value} {oc' : Obj} {Q : Unit → Shared → Prop} (e : { oc with slots := (oc.slots ++ Array.replicate (i + 1 - oc.slots.size) none).setIfInBounds i v } = oc')
    (hf : oc'.isFreed = false) (hi : i < 10) (k : ∀ h', TI h₀ h' ns c od oc' X → Q () ⟨h', g, d, tk, os⟩) : wpAny M A (setSlotAt c i v) Q E ⟨h, g, d, tk, os⟩ := by
  unfold setSlotAt
  refine wpAny_ite_false (decide_eq_false (by rw [sizeLine_eq]; omega)) ?_
  refine wpAny_updatePart I.cc (k _ ?_)
  have := I.updC (f := fun o => { o with slots := (o.slots ++ Array.replicate (i + 1 - o.slots.size) none).setIfInBounds i v }) (by rw [e]; exact hf)
  rw [e] at this
  exact this
theorem TI.cls (I : TI h₀ h ns c od oc X) {f : ClassData → ClassData} {cd : ClassData} {oc' : Obj} {Q : Unit → Shared → Prop} (hd : oc.data = .cls cd) (e : Obj.mapCls f oc = oc')
    (hf : oc'.isFreed = false) (k : ∀ h', TI h₀ h' ns c od oc' X → Q () ⟨h', g, d, tk, os⟩) (hp : oc'.data.pastItsLine = none) : wpAny M A (updateCls c f) Q E ⟨h, g, d, tk, os⟩ := by
  unfold updateCls
  refine wpAny_bind (wpAny_load I.cc ?_)
  rw [hd]
  have := I.updC (f := Obj.mapCls f) (by rw [e]; exact hf)
  rw [e] at this
  exact wpAny_bind (wpAny_update I.cc (wpAny_lookBehind this.cc hp (k _ this)))
theorem TI.get (I : TI h₀ h ns c od oc X) {name : Str} {r : Option Value} {Q : Option Value → Shared → Prop} (e : nsLook name od = pure r) (k : Q r ⟨h, g, d, tk, os⟩) : wpAny M A (nsGet ns name) Q E ⟨h, g, d, tk, os⟩ := by
  unfold nsGet
  exact wpAny_bind (wpAny_loadPart I.dn (wpAny_of_eq e k))
theorem TI.del (I : TI h₀ h ns c od oc X) {name : Str} {od' : Obj} {Q : Bool → Shared → Prop} (e : nsHas name od = pure true) (e' : Obj.dropName name od = od') (hf : od'.isFreed = false) (k : ∀ h', TI h₀ h' ns c od' oc X → Q true ⟨h', g, d, tk, os⟩) : wpAny M A (nsDel ns name) Q E ⟨h, g, d, tk, os⟩ := by
  unfold nsDel
  refine wpAny_bind (wpAny_loadPart I.dn (wpAny_bind (wpAny_of_eq e ?_)))
  refine wpAny_ite_true rfl ?_
  have := I.updN (f := Obj.dropName name) (by rw [e']; exact hf)
  rw [e'] at this
  exact wpAny_bind (wpAny_updatePart I.dn (wpAny_pure (k _ this)))
theorem TI.set (I : TI h₀ h ns c od oc X) {name : Str} {v : Value} {es : Array DictEntry} {n : Nat} {Q : Unit → Shared → Prop} (hd : od.data = .dict es n) (e : aRefKeyMayBeTheName name es = false)
    (hf : ∀ x, (Obj.putName name x (.str name tk) v od).isFreed = false) (k : ∀ h' x, TI h₀ h' ns c (Obj.putName name x (.str name tk) v od) oc X → Q () ⟨h', g, d, tk + 1, os⟩) : wpAny M A (nsSet ns name v) Q E ⟨h, g, d, tk, os⟩ := by
  unfold nsSet strHash
  refine wpAny_bind (wpAny_bind (wpAny_askSetting (wpAny_pure ?_)))
  refine wpAny_bind (wpAny_mkText ?_)
  refine wpAny_bind (wpAny_loadPart I.dn ?_)
  rw [hd]
  refine wpAny_ite_false (by rw [e]; rfl) ?_
  exact wpAny_updatePart I.dn (k _ _ (I.updN (f := Obj.putName name _ (.str name tk) v) (hf _)))
theorem TI.own (I : TI h₀ h ns c od oc X) {cd : ClassData} {name : Str} {r : Option Value} {Q : Option Value → Shared → Prop} (hd : oc.data = .cls cd) (hm : cd.mro = [.ref c, .type "object"]) (hn : cd.ns = ns) (e : nsLook name od = pure none) (e2 : builtinOwn "object" name = r)
    (k : Q r ⟨h, g, d, tk, os⟩) : wpAny M A (typeLookup (.ref c) name) Q E ⟨h, g, d, tk, os⟩ := by
  subst hn
  have hcd : ∀ {Q' : ClassData → Shared → Prop}, Q' cd ⟨h, g, d, tk, os⟩ → wpAny M A (classData c) Q' E ⟨h, g, d, tk, os⟩ := fun q => by
    unfold classData
    refine wpAny_bind (wpAny_load I.cc ?_)
    rw [hd]
    exact wpAny_pure q
  unfold typeLookup
  refine wpAny_bind (wpAny_bind (hcd (wpAny_pure ?_)))
  rw [hm]
  refine wpAny_bind (forC ?_)
  refine wpAny_bind (wpAny_bind (hcd (I.get e ?_)))
  refine wpAny_pure (forC ?_)
  refine wpAny_bind (wpAny_pure ?_)
  rw [e2]
  cases r with
  | none => exact wpAny_pure (forN (wpAny_pure k))
  | some v => exact wpAny_pure (wpAny_pure k)
end
end Mine
end
/-! part NS -/
noncomputable section
open PySem PySem.W PyProof.Rows PySem.Calls
namespace Mine
section
variable {w : World} {M : Model} {A : Around} {E : Value → Shared → Prop} {h : Heap} {g : Array GenState} {d : Drawn} {tk : Nat} {os : OsState} {c : Addr} {oc : Obj} {cd : ClassData}
theorem mro_c {Q : List Value → Shared → Prop} (hc : h.get? c = some oc) (hd : oc.data = .cls cd) (hm : cd.mro = [.ref c, .type "object"]) (k : Q [.ref c, .type "object"] ⟨h, g, d, tk, os⟩) : wpAny M A (mroOf (.ref c)) Q E ⟨h, g, d, tk, os⟩ := by
  unfold mroOf classData
  refine wpAny_bind (wpAny_bind (wpAny_load hc ?_))
  rw [hd]
  refine wpAny_pure (wpAny_pure ?_)
  rw [hm]; exact k
theorem isSub_c {b : Value} {r : Bool} {Q : Bool → Shared → Prop} (hc : h.get? c = some oc) (hd : oc.data = .cls cd) (hm : cd.mro = [.ref c, .type "object"]) (hr : [Value.ref c, .type "object"].contains b = r) (k : Q r ⟨h, g, d, tk, os⟩) : wpAny M A (isSubtype (.ref c) b) Q E ⟨h, g, d, tk, os⟩ := by
  unfold isSubtype
  refine wpAny_bind (mro_c hc hd hm ?_)
  refine wpAny_ite_false rfl ?_
  rw [hr]
  exact wpAny_pure k
set_option maxRecDepth 100000 in
set_option maxHeartbeats 4000000 in
theorem sup_c (hc : h.get? c = some oc) (hd : oc.data = .cls cd) (hm : cd.mro = [.ref c, .type "object"]) {Q : Value → Shared → Prop}
    (hq : ∀ h' so, h'.get? so = some { cls := .type "super", dict := none, data := .fields #[.ref c, .ref c, .ref c], slots := #[] } → (∀ y o, h.get? y = some o → h'.get? y = some o) → Q (.ref so) ⟨h', g, d, tk, os⟩) :
    wpAny (model P0 w) A (call (.type "super") [.ref c, .ref c]) Q E ⟨h, g, d, tk, os⟩ := by
  refine ks_callType_codesW (Q₁ := fun obj s₁ => obj = .ref h.objs.size ∧ s₁ = ⟨h.push { cls := .type "super", data := .fields #[.none, .none, .none] }, g, d, tk, os⟩) F.ks_called_super (ks_wpAny_checkTypeCall_super hc hd) F.ks_entry_super_init
    (ks_code_super_new _ _ ⟨rfl, rfl⟩) fun obj s₁ h₁ => ?_
  obtain ⟨rfl, rfl⟩ := h₁
  have up : ∀ y o, h.get? y = some o → (h.push { cls := .type "super", data := .fields #[.none, .none, .none] }).get? y = some o := fun y o e => Heap.get?_push_of_some _ e
  have hso : (h.push { cls := .type "super", data := .fields #[.none, .none, .none] }).get? h.objs.size = some { cls := .type "super", dict := none, data := .fields #[.none, .none, .none], slots := #[] } := Heap.get?_push_at rfl rfl
  have hc' := up _ _ hc
  refine ⟨⟨_, hso, rfl⟩, F.ks_initArgs_super _ _ _, ?_⟩
  unfold Builtin.«super.__init__» noKeywords
  refine stp () rfl ?_
  refine stp _ rfl ?_
  refine wpAny_bind (ks_wpAny_isType_cls hc' hd ?_)
  refine wpAny_ite_false rfl ?_
  refine wpAny_ite_false rfl ?_
  refine wpAny_bind ?_
  with_unfolding_all refine wpAny_bind (ks_wpAny_isType_cls hc' hd ?_)
  refine wpAny_ite_true rfl ?_
  refine wpAny_bind (isSub_c hc' hd hm (r := true) (by simp) ?_)
  refine wpAny_ite_true rfl ?_
  refine wpAny_pure ?_
  refine ks_wpAny_super_set3 hso ?_
  intro h' e k
  exact ⟨rfl, hq h' _ e fun y o ey => k y o (Nat.ne_of_lt (Heap.lt_size ey)) (up y o ey)⟩
theorem statics_c (G : Gl w h) : Looks M h (opaqueClassAbove (.ref c)) none := by
  have e := G.all 2 _ (by decide) (by decide) rfl
  refine looks_opaque (K := [(2, { cls := Value.none, data := Data.dict #[] })]) (fun a o ho => ?_) (by kernel_rfl)
  by_cases ha : @Eq Nat a 2
  · subst ha
    have : some _ = some o := ho
    cases this
    exact e
  · have e0 : List.lookup a ([(2, { cls := Value.none, data := Data.dict #[] })] : Frag) = none := (lkThere ha).trans rfl
    rw [e0] at ho
    cases ho
theorem cd_slot : Slot "classmethod_descriptor" "__get__" "classmethod_descriptor.__get__" := .of (owner := "classmethod_descriptor") (n := "__get__") (by rw [typeLookup_type, builtinLookup_eq_fast]; kernel_rfl) (by decide +kernel) (by decide +kernel) (by decide +kernel)
  (by first | exact .inl (by decide +kernel) | exact .inr (by decide +kernel)) (by rw [isSubtype_type]; kernel_rfl)
theorem cd_entry : entryFor table "classmethod_descriptor.__get__" = some Builtin.«classmethod_descriptor.__get__» := entryFor_of_tree (by kernel_rfl)
theorem cd_args (a b c : Value) : argsOk "classmethod_descriptor.__get__" ⟨[a, b, c], []⟩ := by unfold argsOk; kernel_rfl
theorem cd_type : typeOf (.builtin "object.__init_subclass__") = pure (.type "classmethod_descriptor") := by show builtinType _ = _; rw [builtinType_eq_fast]; kernel_rfl
set_option maxRecDepth 100000 in
set_option maxHeartbeats 4000000 in
theorem supga_c (G : Gl w h) {so : Addr} {t : Tok} (hc : h.get? c = some oc) (hd : oc.data = .cls cd) (hm : cd.mro = [.ref c, .type "object"]) (ht : oc.cls = .type "type") {Q : PySem.Fin → Shared → Prop}
    (hso : h.get? so = some { cls := .type "super", dict := none, data := .fields #[.ref c, .ref c, .ref c], slots := #[] })
    (hq : Q (.done (.ret (.ref h.objs.size))) ⟨h.push { cls := .type "builtin_function_or_method", data := .fields #[.builtin "object.__init_subclass__", .ref c] }, g, d, tk, os⟩) :
    wpAny (model P0 w) A (Builtin.«super.__getattribute__» ⟨[.ref so, .str "__init_subclass__" t], []⟩) Q E ⟨h, g, d, tk, os⟩ := by
  have hdt : ({ cls := .type "super", dict := none, data := .fields #[.ref c, .ref c, .ref c], slots := #[] } : Obj).data = .fields #[.ref c, .ref c, .ref c] := rfl
  unfold Builtin.«super.__getattribute__»
  refine stp (some _) rfl ?_
  refine wpAny_ite_false rfl ?_
  refine stp (some _) rfl ?_
  refine wpAny_bind (wpAny_field hso hdt (x := .ref c) rfl ?_)
  refine wpAny_bind (wpAny_field hso hdt (x := .ref c) rfl ?_)
  refine wpAny_bind (wpAny_field hso hdt (x := .ref c) rfl ?_)
  refine wpAny_ite_false (by kernel_rfl) ?_
  refine wpAny_bind (ks_wpAny_notOpaque (statics_c G) ?_)
  refine wpAny_ite_false rfl ?_
  refine wpAny_bind (mro_c hc hd hm ?_)
  have e1 : (([Value.ref c, .type "object"].dropWhile (· != .ref c)).drop 1) = [.type "object"] := by simp
  rw [e1]
  refine wpAny_bind (forC ?_)
  refine stp (some (.builtin "object.__init_subclass__")) (by kernel_rfl) ?_
  refine stp _ cd_type ?_
  refine stp _ cd_slot.lookup ?_
  refine wpAny_bind (wpAny_holding ?_)
  have e2 : (if (Value.ref c == Value.ref c) = true then Value.none else Value.ref c) = Value.none := by simp
  rw [e2]
  refine wpAny_call_entry cd_slot cd_type cd_entry ?_ (cd_args _ _ _)
  unfold Builtin.«classmethod_descriptor.__get__»
  refine stp (.builtin "object.__init_subclass__", none, some (.ref c)) (by kernel_rfl) ?_
  dsimp only
  refine stp (.ref c) rfl ?_
  refine wpAny_bind (ks_wpAny_isType_cls hc hd ?_)
  refine wpAny_ite_false rfl ?_
  refine wpAny_bind (isSub_c hc hd hm (r := true) (by kernel_rfl) ?_)
  refine wpAny_ite_false rfl ?_
  refine wpAny_bind (wpAny_newObj_type ?_)
  refine wpAny_pure ⟨_, rfl, ?_⟩
  refine wpAny_bind (wpAny_pure ?_)
  exact wpAny_pure (wpAny_pure hq)
set_option maxRecDepth 100000 in
set_option maxHeartbeats 4000000 in
theorem supget_c (G : Gl w h) {so : Addr} (hc : h.get? c = some oc) (hd : oc.data = .cls cd) (hm : cd.mro = [.ref c, .type "object"]) (ht : oc.cls = .type "type") {Q : Value → Shared → Prop}
    (hso : h.get? so = some { cls := .type "super", dict := none, data := .fields #[.ref c, .ref c, .ref c], slots := #[] })
    (hq : Q (.ref h.objs.size) ⟨h.push { cls := .type "builtin_function_or_method", data := .fields #[.builtin "object.__init_subclass__", .ref c] }, g, d, tk + 1, os⟩) :
    wpAny (model P0 w) A (getAttr (.ref so) "__init_subclass__") Q E ⟨h, g, d, tk, os⟩ := by
  have hlk := F.ks_slot_super_ga.lookup
  have hT : ∀ t', (⟨h, g, d, t', os⟩ : Shared).TypeIs (.ref so) "super" := fun _ => ⟨_, hso, rfl⟩
  unfold getAttr getAttrBy
  refine wpAny_bind (wpAny_mkText (wpAny_holding (wpAny_bind (wpAny_typeOf (hT _) (wpAny_bind (wpAny_of_eq hlk ?_))))))
  show wpAny _ _ (getAttrByItsOwn (.ref so) (.str "__init_subclass__" tk) (.type "super") (.builtin "super.__getattribute__") true false) _ _ _
  unfold getAttrByItsOwn hookBefore callGetattribute boundAndCalled
  refine wpAny_bind (wpAny_of_eq (show (if onTheHeap (.type "super") then typeLookup (.type "super") "__getattr__" else pure none) = pure none from rfl) ?_)
  refine wpAny_bind (wpAny_attempt (wpAny_holding ?_))
  show wpAny _ _ (bindSpecial (.builtin "super.__getattribute__") (.ref so) >>= _) _ _ _
  refine wpAny_bind (wpAny_of_eq (F.ks_slot_super_ga.bind _) ?_)
  refine wpAny_mono (Q := fun v s' => v = .ref h.objs.size ∧ s' = ⟨h.push { cls := .type "builtin_function_or_method", data := .fields #[.builtin "object.__init_subclass__", .ref c] }, g, d, tk + 1, os⟩) (E := fun _ _ => False)
    (wpAny_call_entry F.ks_slot_super_ga (hT _) F.ks_entry_super_ga (supga_c G hc hd hm ht hso ⟨_, rfl, rfl, rfl⟩) (F.ks_gaArgs_super _ _)) (fun v s' hv => ?_) fun _ _ z => z.elim
  obtain ⟨rfl, rfl⟩ := hv
  exact wpAny_pure hq
theorem is_entry : entryFor table "object.__init_subclass__" = some Builtin.«object.__init_subclass__» := entryFor_of_tree (by kernel_rfl)
theorem is_sig : ∃ sig, Manifest.signature? "object.__init_subclass__" = some sig ∧ ∀ c : Addr, Bind.checkArgs "object.__init_subclass__" { sig with full := s!"{(Str.ofString "cmp_to_key.<locals>.K").toString}.{Bind.lastOf "object.__init_subclass__"}" } ⟨[.ref c], []⟩ = pure () := ⟨(Manifest.signature? "object.__init_subclass__").get (by kernel_rfl), (Option.some_get _).symm, fun c => by kernel_rfl⟩
theorem is_mod : isSubtype (.type "type") (.type "module") = pure false := by rw [isSubtype_type]; kernel_rfl
theorem is_bound {Q : Unit → Shared → Prop} (hc : h.get? c = some oc) (hd : oc.data = .cls cd) (ht : oc.cls = .type "type") (hqn : cd.qualname = "cmp_to_key.<locals>.K") (k : Q () ⟨h, g, d, tk, os⟩) :
    wpAny M A (checkBoundCall "object.__init_subclass__" ⟨[.ref c], []⟩) Q E ⟨h, g, d, tk, os⟩ := by
  obtain ⟨sig, e1, e2⟩ := is_sig
  unfold checkBoundCall
  rw [e1]
  have e3 : builtinKind "object.__init_subclass__" = some .classMethod := by kernel_rfl
  rw [e3]
  refine wpAny_ite_false rfl ?_
  refine wpAny_bind (wpAny_isInstance ⟨_, hc, ht⟩ is_mod ?_)
  refine wpAny_ite_false (by kernel_rfl) ?_
  refine wpAny_bind (ks_wpAny_isType_cls hc hd ?_)
  refine wpAny_ite_true rfl ?_
  refine stp (.ref c) rfl ?_
  refine wpAny_bind (m := classData c) ?_
  unfold classData
  refine wpAny_bind (wpAny_load hc ?_)
  rw [hd]
  refine wpAny_pure ?_
  refine wpAny_bind (wpAny_typeOf ⟨_, hc, ht⟩ ?_)
  refine wpAny_ite_true rfl ?_
  rw [hqn]
  exact wpAny_of_eq (e2 c) k
theorem is_plain : plainId "object.__init_subclass__" = true := by decide +kernel
set_option maxRecDepth 100000 in
set_option maxHeartbeats 4000000 in
theorem isub_c {b : Addr} (hc : h.get? c = some oc) (hd : oc.data = .cls cd) (hm : cd.mro = [.ref c, .type "object"]) (ht : oc.cls = .type "type") (hqn : cd.qualname = "cmp_to_key.<locals>.K") {Q : Value → Shared → Prop}
    (hb : h.get? b = some { cls := .type "builtin_function_or_method", data := .fields #[.builtin "object.__init_subclass__", .ref c] })
    (hq : Q .none ⟨h, g, d, tk, os⟩) : wpAny (model P0 w) A (call (.ref b) []) Q E ⟨h, g, d, tk, os⟩ := by
  refine wpAny_call (codeAny_of_tree ?_)
  show wpAny _ A.in1 (callAny (.ref b) _) _ _ _
  unfold callAny
  refine wpAny_bind (wpAny_load hb ?_)
  refine wpAny_ite_true rfl ?_
  refine wpAny_ite_true rfl ?_
  refine wpAny_bind ?_
  refine is_bound hc hd ht hqn ?_
  refine wpAny_pure ⟨plainId_quiet is_plain _, codeAny_builtin is_entry ?_⟩
  rw [Around.under_plainId is_plain _]
  unfold Builtin.«object.__init_subclass__»
  refine wpAny_ite_true rfl ?_
  exact wpAny_pure hq
end
end Mine
end
/-! part N3 -/
noncomputable section
open PySem PySem.W PyProof.Rows PySem.Calls
namespace Mine
def NB.esN (B : NB) : List DictEntry := [⟨B.hh 0, .str "__module__" (B.tt 0), B.vv 0⟩, ⟨B.hh 1, .str "__firstlineno__" (B.tt 1), B.vv 1⟩, ⟨B.hh 2, .str "__slots__" (B.tt 2), .ref B.sl⟩, ⟨B.hh 3, .str "__init__" (B.tt 3), B.vv 3⟩,
  ⟨B.hh 4, .str "__lt__" (B.tt 4), B.vv 4⟩, ⟨B.hh 5, .str "__gt__" (B.tt 5), B.vv 5⟩, ⟨B.hh 6, .str "__eq__" (B.tt 6), B.vv 6⟩, ⟨B.hh 7, .str "__le__" (B.tt 7), B.vv 7⟩, ⟨B.hh 8, .str "__ge__" (B.tt 8), B.vv 8⟩,
  ⟨B.hh 9, .str "__hash__" (B.tt 9), B.vv 9⟩, ⟨B.hh 10, .str "__static_attributes__" (B.tt 10), B.vv 10⟩]
def NB.esF (B : NB) (x y : Int) (u u' : Tok) (md : Addr) : List DictEntry := [⟨B.hh 0, .str "__module__" (B.tt 0), B.vv 0⟩, ⟨B.hh 1, .str "__firstlineno__" (B.tt 1), B.vv 1⟩, ⟨B.hh 2, .str "__slots__" (B.tt 2), .ref B.sl⟩, ⟨B.hh 3, .str "__init__" (B.tt 3), B.vv 3⟩,
  ⟨B.hh 4, .str "__lt__" (B.tt 4), B.vv 4⟩, ⟨B.hh 5, .str "__gt__" (B.tt 5), B.vv 5⟩, ⟨B.hh 6, .str "__eq__" (B.tt 6), B.vv 6⟩, ⟨B.hh 7, .str "__le__" (B.tt 7), B.vv 7⟩, ⟨B.hh 8, .str "__ge__" (B.tt 8), B.vv 8⟩,
  ⟨B.hh 9, .str "__hash__" (B.tt 9), B.vv 9⟩, ⟨B.hh 10, .str "__static_attributes__" (B.tt 10), B.vv 10⟩, ⟨x, .str "obj" u, .ref md⟩, ⟨y, .str "__doc__" u', .none⟩]
abbrev cdA (ns : Addr) (B : NB) : ClassData := { name := "K", bases := [.type "object"], mro := [], ns := ns, qualname := B.qual }
abbrev cdB (ns c : Addr) (B : NB) : ClassData := { name := "K", bases := [.type "object"], mro := [.ref c, .type "object"], ns := ns, qualname := B.qual, hasDel := false }
abbrev cdC (ns c : Addr) (B : NB) : ClassData := { name := "K", bases := [.type "object"], mro := [.ref c, .type "object"], ns := ns, qualname := B.qual, hasDict := false, slotNames := ["obj"], subclasses := [], abstract := false, collection := none, hasDel := false }
abbrev mdObj (tk : Tok) (c : Addr) : Obj := ⟨.type "member_descriptor", none, .fields #[.str "obj" tk, .ref c, .builtin "proto.slot", .builtin "proto.slot#set", .int 0 0], #[]⟩
/-- a value whose class has no __set_name__ -/
def NoSet (h : Heap) (v : Value) : Prop := (∀ k t, Builtin.laidUnderItsOwnName (.str k t) v = false) ∧ ∀ (M : Model) (A : Around) (E : Value → Shared → Prop) (Q : Option Value → Shared → Prop) (s : Shared), (∀ b o, h.get? b = some o → s.heap.get? b = some o) → Q none s → wpAny M A (specialOf v "__set_name__") Q E s
theorem NoSet.keeps {h h' : Heap} {v : Value} (x : NoSet h v) (k : ∀ b o, h.get? b = some o → h'.get? b = some o) : NoSet h' v := ⟨x.1, fun M A E Q s k' => x.2 M A E Q s fun b o e => k' _ _ (k _ _ e)⟩
theorem NoSet.ref {h : Heap} {a : Addr} {T : String} (x : ∃ o, h.get? a = some o ∧ o.cls = .type T) (e : typeLookup (.type T) "__set_name__" = pure none) : NoSet h (.ref a) :=
  ⟨fun _ _ => rfl, fun M A E Q s k q => by
    obtain ⟨o, ho, hc⟩ := x
    exact wpAny_specialOf ⟨o, k _ _ ho, hc⟩ e q⟩
theorem NoSet.val {h : Heap} {v : Value} {T : String} (l : ∀ k t, Builtin.laidUnderItsOwnName (.str k t) v = false) (ht : typeOf v = pure (.type T)) (e : typeLookup (.type T) "__set_name__" = pure none) : NoSet h v :=
  ⟨l, fun M A E Q s k q => wpAny_specialOf_val ht e q⟩
theorem forAll {M : Model} {A : Around} {E : Value → Shared → Prop} {α β : Type} {b : β} {f : α → β → Sem (ForInStep β)} {s : Shared} {Q : β → Shared → Prop} : ∀ {l : List α}, (∀ x ∈ l, ∀ Q' : ForInStep β → Shared → Prop, Q' (.yield b) s → wpAny M A (f x b) Q' E s) → Q b s → wpAny M A (forIn l b f) Q E s
  | [], _, k => forN k
  | x :: l, h, k => forC (h x (.head _) _ (forAll (fun y hy => h y (.tail _ hy)) k))
section
variable {w : World} {A : Around} {E : Value → Shared → Prop}
theorem refresh {M : Model} {h₀ h : Heap} {ns c : Addr} {od oc : Obj} {g : Array GenState} {d : Drawn} {tk : Nat} {os : OsState} {cd : ClassData} {Q : Unit → Shared → Prop} {X : List (Addr × Obj)} (I : TI h₀ h ns c od oc X) (hd : oc.data = .cls cd) (hm : cd.mro = [.ref c, .type "object"]) (hn : cd.ns = ns) (e : nsLook "__new__" od = pure none)
    (hs : (oc.slots[4]?).join = some (.builtin "object.__new__")) (k : Q () ⟨h, g, d, tk, os⟩) : wpAny M A (Bind.refreshMaker c) Q E ⟨h, g, d, tk, os⟩ := by
  unfold Bind.refreshMaker
  refine wpAny_bind (wpAny_bind (wpAny_loadPart I.cc (wpAny_pure ?_)))
  rw [hs]
  refine wpAny_ite_false rfl ?_
  refine wpAny_bind (I.own (r := some (.builtin "object.__new__")) hd hm hn e (by kernel_rfl) ?_)
  refine wpAny_ite_false (by decide +kernel) ?_
  exact wpAny_pure k
set_option maxRecDepth 100000 in
set_option maxHeartbeats 4000000 in
theorem inst {M : Model} {h₀ h : Heap} {ns c : Addr} {B : NB} {g : Array GenState} {d : Drawn} {tk : Nat} {os : OsState} {sl : Array (Option Value)} {Q : Unit → Shared → Prop} (I : TI h₀ h ns c ⟨.type "dict", none, .dict B.esN.toArray 1, #[]⟩ ⟨.type "type", none, .cls (cdB ns c B), sl⟩ [])
    (k : ∀ h' md (x : Int), TI h₀ h' ns c ⟨.type "dict", none, .dict (B.esN ++ [(⟨x, .str "obj" (tk + 1), .ref md⟩ : DictEntry)]).toArray 2, #[]⟩ ⟨.type "type", none, .cls (cdC ns c B), sl⟩ [(md, mdObj tk c)] → Q () ⟨h', g, d, tk + 1 + 1, os⟩) :
    wpAny M A (Builtin.Slots.install (.ref c) ns [.type "object"] { names := ["obj"], dict := false, weak := false, inherited := [] }) Q E ⟨h, g, d, tk, os⟩ := by
  unfold Builtin.Slots.install
  refine wpAny_bind (forC ?_)
  refine wpAny_bind (I.get (r := none) (by kernel_rfl) ?_)
  refine wpAny_ite_true rfl ?_
  refine wpAny_bind (wpAny_mkStr' ?_)
  refine wpAny_bind (wpAny_newObj_type ?_)
  have I1 := I.pushX (mdObj tk c) rfl
  generalize h.objs.size = md at I1 ⊢
  unfold nsSetByValue
  refine wpAny_bind (wpAny_bind (wpAny_loadPart I1.dn ?_))
  refine wpAny_ite_false (by kernel_rfl) ?_
  refine I1.set (tk := tk + 1) rfl (by kernel_rfl) (fun x => rfl) fun h2 x I2 => ?_
  refine wpAny_pure (forN ?_)
  refine wpAny_bind (forC (stp false tt9 (wpAny_ite_false rfl (wpAny_pure (forN ?_)))))
  refine wpAny_ite_false (by kernel_rfl) ?_
  refine I2.cls (oc' := ⟨.type "type", none, .cls (cdC ns c B), sl⟩) rfl (by kernel_rfl) rfl (fun h3 I3 => ?_) (by kernel_rfl)
  exact k _ md x I3
theorem anyObj {M : Model} {s : Shared} {c : Addr} {f : Value → Sem Bool} {Q : Bool → Shared → Prop} (h : Q false s) (e : f (.type "object") = pure false := by kernel_rfl) : wpAny M A (([Value.ref c, Value.type "object"].filter (· != Value.ref c)).anyM f) Q E s := by
  have e1 : ([Value.ref c, Value.type "object"].filter (· != Value.ref c)) = [Value.type "object"] := by simp
  rw [e1]
  refine wpAny_of_eq ?_ h
  simp only [List.anyM, e]
  rfl
set_option maxRecDepth 100000 in
set_option maxHeartbeats 4000000 in
theorem tnew (h : Heap) (g : Array GenState) (d : Drawn) (tk : Nat) (os : OsState) (bT nsA : Addr) (t t' : Tok) (B : NB) {Q : PySem.Fin → Shared → Prop}
    (hb : h.get? bT = some ⟨.type "tuple", none, .seq #[.type "object"] 0, #[]⟩) (hn : h.get? nsA = some ⟨.type "dict", none, .dict B.es.toArray B.ep, #[]⟩) (hsys : (nsA == sysModules) = false)
    (hs : h.IsList B.sl [Value.str "obj" t'].toArray) (G : Gl w h) (hqn : B.qual = "cmp_to_key.<locals>.K") (hv : ∀ i ∈ [0, 1, 3, 4, 5, 6, 7, 8, 9, 10], NoSet h (B.vv i))
    (hQ : ∀ h' c ns md (x y : Int) tk' u u' u'', (∀ b o, h.get? b = some o → h'.get? b = some o) → h'.get? c = some ⟨.type "type", none, .cls (cdC ns c B), #[some (.ref bT), none, some (.str "K" t), some (.str B.qual (B.tt 14)), some (.builtin "object.__new__"), some (.bool false)]⟩ →
      h'.get? ns = some ⟨.type "dict", none, .dict (B.esF x y u u' md).toArray 3, #[]⟩ → h'.get? md = some (mdObj u'' c) → @LE.le Nat _ h.objs.size ns → @LT.lt Nat _ ns c → @LT.lt Nat _ c md → Q (.done (.ret (.ref c))) ⟨h', g, d, tk', os⟩) :
    wpAny (model P0 w) A (Builtin.«type.__new__» ⟨[.type "type", .str "K" t, .ref bT, .ref nsA], []⟩) Q E ⟨h, g, d, tk, os⟩ := by
  unfold Builtin.«type.__new__»
  have f1 := AutoSeq1.sub_tuple_tuple
  have f2 : isSubtype (.type "dict") (.type "dict") = pure true := by rw [isSubtype_type]; kernel_rfl
  refine stp (some ("K" : Str)) rfl ?_
  refine wpAny_bind (wpAny_isInstance ⟨_, hb, rfl⟩ f1 ?_)
  refine wpAny_ite_false rfl ?_
  refine wpAny_bind (wpAny_isInstance ⟨_, hn, rfl⟩ f2 ?_)
  refine wpAny_ite_false rfl ?_
  refine wpAny_bind (wpAny_seqItems hb rfl ?_)
  refine wpAny_ite_false (by decide +kernel) ?_
  refine wpAny_bind (forC (stp true rfl (wpAny_ite_false rfl (wpAny_pure (forN ?_)))))
  refine wpAny_bind (forC (stp _ tt1 (stp true tt2 (wpAny_ite_true rfl (wpAny_pure (forN ?_))))))
  refine wpAny_ite_false (by decide +kernel) ?_
  refine stp () tt3 ?_
  refine stp _ tt4 ?_
  refine wpAny_ite_false (by rw [hsys]; rfl) ?_
  refine wpAny_bind (wpAny_bind (wpAny_loadPart hn (wpAny_pure ?_)))
  have f3 : typeLookup (.type "dict") "__iter__" = pure (some (.builtin "dict.__iter__")) := by rw [typeLookup_type, builtinLookup_eq_fast]; kernel_rfl
  refine wpAny_bind (wpAny_specialOf ⟨_, hn, rfl⟩ f3 ?_)
  refine wpAny_ite_true (by kernel_rfl) ?_
  refine wpAny_bind (wpAny_pure ?_)
  refine wpAny_bind (wpAny_holding (sread (s := ⟨h, g, d, tk, os⟩) hs fun h1 k1 z1 => ?_))
  refine wpAny_bind (wpAny_newObj_type ?_ (by show B.es.toArray.size ≤ _; rw [sizeLine_eq]; exact Nat.le_of_ble_eq_true rfl))
  refine wpAny_ite_false (by kernel_rfl) ?_
  refine stp () (if_neg (by decide +kernel)) ?_
  refine wpAny_ite_false (by decide +kernel) ?_
  generalize hns : h1.objs.size = ns
  have hd1 : (h1.push { cls := .type "dict", data := .dict B.es.toArray }).get? ns = some { cls := .type "dict", data := .dict B.es.toArray } := by rw [← hns]; exact Heap.get?_push_size _ rfl
  have hq : nsLook "__qualname__" { cls := .type "dict", data := .dict B.es.toArray } = pure (some (.str B.qual (B.tt 14))) := by kernel_rfl
  have hdoc : nsLook "__doc__" { cls := .type "dict", data := .dict B.es.toArray } = pure none := by kernel_rfl
  refine wpAny_bind (wpAny_bind (wpAny_loadPart hd1 (wpAny_of_eq hq ?_)))
  refine wpAny_bind (wpAny_bind (wpAny_loadPart hd1 (wpAny_of_eq hq ?_)))
  refine stp (some B.qual) rfl ?_
  refine stp B.qual rfl ?_
  refine wpAny_bind (wpAny_bind (wpAny_loadPart hd1 (wpAny_of_eq hdoc ?_)))
  refine wpAny_bind (TI.new (oc := ⟨.type "type", none, .cls (cdA ns B), #[]⟩) hns k1 z1 rfl rfl fun c h2 I => ?_)
  refine wpAny_ite_true rfl ?_
  refine wpAny_bind (I.slot (oc' := ⟨.type "type", none, .cls (cdA ns B), #[some (.ref bT)]⟩) rfl rfl (by omega) fun h2 I => ?_)
  refine wpAny_bind (I.slot (oc' := ⟨.type "type", none, .cls (cdA ns B), #[some (.ref bT), none, some (.str "K" t)]⟩) rfl rfl (by omega) fun h2 I => ?_)
  refine wpAny_bind (I.slot (oc' := ⟨.type "type", none, .cls (cdA ns B), #[some (.ref bT), none, some (.str "K" t), some (.str B.qual (B.tt 14))]⟩) rfl rfl (by omega) fun h2 I => ?_)
  refine wpAny_bind (I.del (od' := ⟨.type "dict", none, .dict B.esN.toArray 1, #[]⟩) (by kernel_rfl) (by kernel_rfl) rfl fun h2 I => ?_)
  refine wpAny_bind (I.get (r := none) (by kernel_rfl) ?_)
  refine wpAny_bind (forC (wpAny_bind (I.get (r := none) (by kernel_rfl) (wpAny_pure (forC (wpAny_bind (I.get (r := none) (by kernel_rfl) (wpAny_pure (forN ?_)))))))))
  refine wpAny_bind (I.get (r := none) (by kernel_rfl) ?_)
  refine wpAny_bind (I.get (r := none) (by kernel_rfl) ?_)
  refine stp none tt5 ?_
  refine stp (m := Builtin.linearize [.type "object"] mroOf) _ tt6 ?_
  refine wpAny_bind (wpAny_pure ?_)
  refine wpAny_bind (anyObj ?_)
  refine wpAny_bind (I.cls (oc' := ⟨.type "type", none, .cls (cdB ns c B), #[some (.ref bT), none, some (.str "K" t), some (.str B.qual (B.tt 14))]⟩) rfl (by kernel_rfl) rfl (fun h2 I => ?_) (by kernel_rfl))
  refine stp _ tt8 ?_
  refine wpAny_bind (I.slot (oc' := ⟨.type "type", none, .cls (cdB ns c B), #[some (.ref bT), none, some (.str "K" t), some (.str B.qual (B.tt 14)), some (.builtin "object.__new__")]⟩) rfl rfl (by omega) fun h2 I => ?_)
  refine wpAny_bind (refresh I rfl rfl rfl (by kernel_rfl) rfl ?_)
  refine wpAny_bind (inst I fun h2 md x I => ?_)
  refine stp false tt7 ?_
  refine wpAny_bind (I.slot (oc' := ⟨.type "type", none, .cls (cdC ns c B), #[some (.ref bT), none, some (.str "K" t), some (.str B.qual (B.tt 14)), some (.builtin "object.__new__"), some (.bool false)]⟩) rfl rfl (by omega) fun h3 I => ?_)
  refine wpAny_ite_false rfl ?_
  refine wpAny_ite_false rfl ?_
  refine wpAny_bind (I.get (r := none) (by kernel_rfl) ?_)
  refine wpAny_ite_true rfl ?_
  refine wpAny_bind (I.set (es := (B.esN ++ [(⟨x, .str "obj" (tk + 1), .ref md⟩ : DictEntry)]).toArray) rfl (by kernel_rfl) (fun x => rfl) fun h4 y I => ?_)
  replace I : TI h h4 ns c ⟨.type "dict", none, .dict (B.esF x y (tk + 1) (tk + 1 + 1) md).toArray 3, #[]⟩ _ _ := I
  refine wpAny_bind (I.get (r := some (B.vv 6)) (by kernel_rfl) ?_)
  refine wpAny_ite_true rfl ?_
  refine wpAny_bind (I.get (r := some (B.vv 9)) (by kernel_rfl) ?_)
  refine wpAny_ite_false rfl ?_
  refine wpAny_bind (forC (stp () (tt13 c) (wpAny_pure (forN ?_))))
  refine wpAny_bind (wpAny_tryCatch (wpAny_holding ?_))
  have ok : ∀ e ∈ B.esF x y (tk + 1) (tk + 1 + 1) md, (∃ k t, e.key = .str k t) ∧ NoSet h4 e.val := by
    unfold NB.esF
    refine List.forall_mem_cons.mpr ⟨⟨⟨_, _, rfl⟩, (hv 0 (by simp)).keeps I.keep⟩, ?_⟩
    refine List.forall_mem_cons.mpr ⟨⟨⟨_, _, rfl⟩, (hv 1 (by simp)).keeps I.keep⟩, ?_⟩
    refine List.forall_mem_cons.mpr ⟨⟨⟨_, _, rfl⟩, NoSet.ref (let ⟨o, ho, hc, _⟩ := hs; ⟨o, I.keep _ _ ho, hc⟩) (by rw [typeLookup_type, builtinLookup_eq_fast]; kernel_rfl)⟩, ?_⟩
    refine List.forall_mem_cons.mpr ⟨⟨⟨_, _, rfl⟩, (hv 3 (by simp)).keeps I.keep⟩, ?_⟩
    refine List.forall_mem_cons.mpr ⟨⟨⟨_, _, rfl⟩, (hv 4 (by simp)).keeps I.keep⟩, ?_⟩
    refine List.forall_mem_cons.mpr ⟨⟨⟨_, _, rfl⟩, (hv 5 (by simp)).keeps I.keep⟩, ?_⟩
    refine List.forall_mem_cons.mpr ⟨⟨⟨_, _, rfl⟩, (hv 6 (by simp)).keeps I.keep⟩, ?_⟩
    refine List.forall_mem_cons.mpr ⟨⟨⟨_, _, rfl⟩, (hv 7 (by simp)).keeps I.keep⟩, ?_⟩
    refine List.forall_mem_cons.mpr ⟨⟨⟨_, _, rfl⟩, (hv 8 (by simp)).keeps I.keep⟩, ?_⟩
    refine List.forall_mem_cons.mpr ⟨⟨⟨_, _, rfl⟩, (hv 9 (by simp)).keeps I.keep⟩, ?_⟩
    refine List.forall_mem_cons.mpr ⟨⟨⟨_, _, rfl⟩, (hv 10 (by simp)).keeps I.keep⟩, ?_⟩
    refine List.forall_mem_cons.mpr ⟨⟨⟨_, _, rfl⟩, NoSet.ref ⟨_, (I.ex _ (.head _)).1, rfl⟩ (by rw [typeLookup_type, builtinLookup_eq_fast]; kernel_rfl)⟩, ?_⟩
    refine List.forall_mem_cons.mpr ⟨⟨⟨_, _, rfl⟩, NoSet.val (T := "NoneType") (fun _ _ => rfl) rfl (by rw [typeLookup_type, builtinLookup_eq_fast]; kernel_rfl)⟩, ?_⟩
    exact fun e he => (nomatch he)
  refine wpAny_bind (wpAny_bind (wpAny_loadPart I.dn (wpAny_pure ?_)))
  refine wpAny_bind (forA (l := B.esF x y (tk + 1) (tk + 1 + 1) md) rfl (forAll (fun e he Q' hQ => ?_) ?_))
  · obtain ⟨⟨kk, tt, ek⟩, _⟩ := ok e he
    rw [ek]
    refine stp (some kk) rfl (wpAny_ite_false rfl (wpAny_pure hQ))
  refine wpAny_ite_false rfl ?_
  refine wpAny_bind (wpAny_bind (wpAny_loadPart I.dn (wpAny_pure ?_)))
  refine wpAny_bind (forA (l := B.esF x y (tk + 1) (tk + 1 + 1) md) rfl (forAll (fun e he Q' hQ => ?_) ?_))
  · obtain ⟨⟨kk, tt, ek⟩, nl, ns'⟩ := ok e he
    rw [ek]
    refine wpAny_ite_false (by rw [nl]; rfl) ?_
    refine wpAny_bind (ns' _ _ _ _ _ (fun b o e => e) ?_)
    exact wpAny_pure hQ
  refine wpAny_bind (sup_c I.cc rfl rfl fun h5 so hso k5 => ?_)
  have G5 : Gl w h5 := G.keeps fun b o e => k5 _ _ (I.keep _ _ e)
  refine wpAny_bind (wpAny_holding (supget_c G5 (k5 _ _ I.cc) rfl rfl rfl hso ?_))
  have k6 : ∀ b o, h4.get? b = some o → (h5.push { cls := .type "builtin_function_or_method", data := .fields #[.builtin "object.__init_subclass__", .ref c] }).get? b = some o := fun b o e => Heap.get?_push_of_some _ (k5 _ _ e)
  refine wpAny_bind (isub_c (k6 _ _ I.cc) rfl rfl rfl hqn (Heap.get?_push_size _ rfl) ?_)
  refine wpAny_pure (wpAny_pure ?_)
  exact hQ _ c ns md x y (tk + 1 + 1 + 1 + 1) _ _ _ (fun b o e => k6 _ _ (I.keep _ _ e)) (k6 _ _ I.cc) (k6 _ _ I.dn) (k6 _ _ (I.ex _ (.head _)).1) I.z I.zc (I.ex _ (.head _)).2
end
end Mine
end
/-! part N4 -/
noncomputable section
open PySem PySem.W PyProof.Rows PySem.Calls
namespace Mine
theorem tn_entry : entryFor table "type.__new__" = some Builtin.«type.__new__» := entryFor_of_tree (by kernel_rfl)
theorem tn_plain : plainId "type.__new__" = true := by decide +kernel
theorem tn_check (t : Tok) (a b : Addr) : checkBuiltinCall "type.__new__" ⟨[.type "type", .str "K" t, .ref a, .ref b], []⟩ = pure () := by kernel_rfl
theorem ti_slot : Slot "type" "__init__" "type.__init__" := .of (owner := "type") (n := "__init__") (by rw [typeLookup_type, builtinLookup_eq_fast]; kernel_rfl) (by decide +kernel) (by decide +kernel) (by decide +kernel)
  (by first | exact .inl (by decide +kernel) | exact .inr (by decide +kernel)) (by rw [isSubtype_type]; kernel_rfl)
theorem ti_entry : entryFor table "type.__init__" = some Builtin.«type.__init__» := entryFor_of_tree (by kernel_rfl)
theorem ti_args (o a b c : Value) : argsOk "type.__init__" ⟨[o, a, b, c], []⟩ := by unfold argsOk; kernel_rfl
theorem tc_made : Bind.madeBy (.type "type") = pure (some "type.__new__") := by kernel_rfl
theorem tc_mro : mroOf (.type "type") = pure [.type "type", .type "object"] := by rw [mroOf_type]; kernel_rfl
section
variable {w : World} {A : Around} {E : Value → Shared → Prop}
set_option maxRecDepth 100000 in
set_option maxHeartbeats 4000000 in
theorem tcall (h : Heap) (g : Array GenState) (d : Drawn) (tk : Nat) (os : OsState) (bT nsA : Addr) (t t' : Tok) (B : NB) {Q : Value → Shared → Prop}
    (hb : h.get? bT = some ⟨.type "tuple", none, .seq #[.type "object"] 0, #[]⟩) (hn : h.get? nsA = some ⟨.type "dict", none, .dict B.es.toArray B.ep, #[]⟩) (hsys : (nsA == sysModules) = false)
    (hs : h.IsList B.sl [Value.str "obj" t'].toArray) (G : Gl w h) (hqn : B.qual = "cmp_to_key.<locals>.K") (hv : ∀ i ∈ [0, 1, 3, 4, 5, 6, 7, 8, 9, 10], NoSet h (B.vv i))
    (hQ : ∀ h' c ns md (x y : Int) tk' u u' u'', (∀ b o, h.get? b = some o → h'.get? b = some o) → h'.get? c = some ⟨.type "type", none, .cls (cdC ns c B), #[some (.ref bT), none, some (.str "K" t), some (.str B.qual (B.tt 14)), some (.builtin "object.__new__"), some (.bool false)]⟩ →
      h'.get? ns = some ⟨.type "dict", none, .dict (B.esF x y u u' md).toArray 3, #[]⟩ → h'.get? md = some (mdObj u'' c) → @LE.le Nat _ h.objs.size ns → @LT.lt Nat _ ns c → @LT.lt Nat _ c md → Q (.ref c) ⟨h', g, d, tk', os⟩) :
    wpAny (model P0 w) A (call (.type "type") [.str "K" t, .ref bT, .ref nsA]) Q E ⟨h, g, d, tk, os⟩ := by
  refine wpAny_call (codeAny_of_tree ?_)
  show wpAny _ _ (callAny (.type "type") _) _ _ _
  refine wpAny_pure ⟨Code.quiet_builtin _ (by decide +kernel), codeAny_builtin F.entry_type_call ?_⟩
  rw [Around.under_plain (weight_type_call_type "type" _ []) rfl]
  unfold Builtin.«type.__call__»
  refine wpAny_ite_true (by kernel_rfl) ?_
  refine wpAny_ite_false (by kernel_rfl) ?_
  refine wpAny_ite_false (by kernel_rfl) ?_
  refine wpAny_ite_false (by kernel_rfl) ?_
  refine stp () (by kernel_rfl) ?_
  refine stp _ tc_mro ?_
  refine wpAny_ite_false rfl ?_
  refine stp _ tc_made ?_
  refine stp (.builtin "type.__new__") rfl ?_
  refine wpAny_bind (wpAny_holding (wpAny_call (codeAny_of_tree ?_)))
  show wpAny _ _ (do checkBuiltinCall "type.__new__" ⟨[.type "type", .str "K" t, .ref bT, .ref nsA], []⟩; again (.builtin "type.__new__" ⟨[.type "type", .str "K" t, .ref bT, .ref nsA], []⟩)) _ _ _
  refine wpAny_bind (wpAny_of_eq (tn_check _ _ _) (wpAny_pure ⟨plainId_quiet tn_plain _, codeAny_builtin tn_entry ?_⟩))
  rw [Around.under_plainId tn_plain _]
  refine tnew h g d tk os bT nsA t t' B hb hn hsys hs G hqn hv fun h' c ns md x y tk' u u' u'' k1 k2 k3 k4 k5 k6 k7 => ?_
  have hT : (⟨h', g, d, tk', os⟩ : Shared).TypeIs (.ref c) "type" := ⟨_, k2, rfl⟩
  refine wpAny_bind (wpAny_isInstance hT tt2 ?_)
  refine wpAny_ite_false rfl ?_
  refine wpAny_bind (wpAny_holding (wpAny_callSpecial?_slot (name := Str.ofString "__init__") hT ti_slot (wpAny_call_entry ti_slot hT ti_entry ?_ (ti_args _ _ _ _))))
  unfold Builtin.«type.__init__»
  refine wpAny_ite_false (by kernel_rfl) ?_
  refine wpAny_ite_false (by kernel_rfl) ?_
  refine wpAny_pure ⟨_, rfl, ?_⟩
  refine wpAny_ite_false (by kernel_rfl) ?_
  exact wpAny_pure (hQ h' c ns md x y tk' u u' u'' k1 k2 k3 k4 k5 k6 k7)
end
end Mine
end
/-! part N5 -/
noncomputable section
open PySem PySem.W PyProof.Rows PySem.Calls
namespace Mine
theorem Gl.lt {w : World} {a : Addr} {o : Obj} (h : (Mine.top w.params).lookup a = some o) : @LT.lt Nat _ a 71 := by
  have hm := mem_of_lookupK h
  have : a ∈ (Mine.top w.params).map (·.1) := List.mem_map_of_mem (f := (·.1)) hm
  rw [← top_at] at this
  exact of_decide_eq_true (List.all_eq_true.mp (show topAt.all (fun a => decide (@LT.lt Nat _ a 71)) = true by decide) a this)
theorem Gl.keepsLt {w : World} {h h' : Heap} (G : Gl w h) (k : ∀ b o, @LT.lt Nat _ b 71 → b ≠ 16 → b ≠ 67 → h.get? b = some o → h'.get? b = some o) : Gl w h' := ⟨fun a o n m e => k _ _ (Gl.lt e) n m (G.all a o n m e), let ⟨o, es, ep, ho, r⟩ := G.ns0; ⟨o, es, ep, k _ _ (by decide) (by decide) (by decide) ho, r⟩⟩
theorem Gl.builtins {w : World} {h : Heap} (G : Gl w h) {P : Addr} (hP : @LE.le Nat _ 71 P ∨ P = 16 ∨ P = 67) : h.BuiltinsAt (mgl w) P := by
  refine ⟨4, _, by kernel_rfl, by decide, by decide, ?_, G.all 4 _ (by decide) (by decide) rfl, rfl, rfl, rfl⟩
  rcases hP with h | h | h
  · exact Nat.ne_of_lt (Nat.lt_of_lt_of_le (by decide) h)
  · rw [h]; decide
  · rw [h]; decide
theorem codeAmong_app {pos : Pos} {a b : Int} {c : Value} : ∀ (l : List Value), TriplesOk l → codeAmong pos (l ++ [.int a 0, .int b 0, c]) = (match codeAmong pos l with | some v => some v | none => if a == pos.line && b == pos.col then some c else none)
  | [], _ => rfl
  | .int x _ :: .int y _ :: v :: rest, h => by
    have ih := codeAmong_app (pos := pos) (a := a) (b := b) (c := c) rest h
    simp only [List.cons_append, codeAmong]
    by_cases hx : (x == (pos.line : Int) && y == (pos.col : Int)) = true
    · simp only [hx, if_true]
    · simp only [hx, if_false]
      exact ih
def posK : Nat → Pos
  | 0 => ⟨8, 8, 9, 26⟩
  | 1 => ⟨11, 8, 12, 49⟩
  | 2 => ⟨14, 8, 15, 49⟩
  | 3 => ⟨17, 8, 18, 50⟩
  | 4 => ⟨20, 8, 21, 50⟩
  | _ => ⟨23, 8, 24, 50⟩
def nameK : Nat → Str
  | 0 => "__init__"
  | 1 => "__lt__"
  | 2 => "__gt__"
  | 3 => "__eq__"
  | 4 => "__le__"
  | _ => "__ge__"
def qK (i : Nat) : Str := "cmp_to_key.<locals>.K" ++ "." ++ nameK i
theorem posK_inj' : ∀ i j : Fin 6, i ≠ j → ((((posK i).line : Int) == (posK j).line) && (((posK i).col : Int) == (posK j).col)) = false := by decide
theorem posK_inj (i j : Nat) (hi : i < 6) (hj : j < 6) (h : i ≠ j) : ((((posK i).line : Int) == (posK j).line) && (((posK i).col : Int) == (posK j).col)) = false := posK_inj' ⟨i, hi⟩ ⟨j, hj⟩ fun e => h (congrArg Fin.val e)
/-- the table of the class's code: the first n methods' codes lie in it -/
def KT (n : Nat) (h : Heap) (kc P : Addr) : Prop := ∃ ps, CodeHd h kc P ∧ h.get? P = some (tabObj ps) ∧ TriplesOk ps.toList ∧
  (∀ i, i < n → ∃ cv, codeAmong (posK i) ps.toList = some cv ∧ h.CodeRec cv (qK i)) ∧ ∀ i, n ≤ i → i < 6 → codeAmong (posK i) ps.toList = none
theorem KT.keeps {n : Nat} {h h' : Heap} {kc P : Addr} (x : KT n h kc P) (k : ∀ b o, h.get? b = some o → h'.get? b = some o) : KT n h' kc P := by
  obtain ⟨ps, a, b, c, d, e⟩ := x
  exact ⟨ps, a.keeps k, k _ _ b, c, fun i hi => (let ⟨cv, y, z⟩ := d i hi; ⟨cv, y, z.keeps k⟩), e⟩
theorem codeRec_ne {h : Heap} {cv : Value} {q : Str} {ns P : Addr} {od : Obj} {es : Array DictEntry} {m : Nat} {ps : Array Value} (x : h.CodeRec cv q) (hn : h.get? ns = some od) (hd : od.data = .dict es m) (hP : h.get? P = some (tabObj ps)) (ht : TriplesOk ps.toList) :
    ∃ c o vs t, cv = .ref c ∧ h.get? c = some o ∧ o.data = .fields vs ∧ vs[1]? = some (.str q t) ∧ c ≠ ns ∧ c ≠ P := by
  obtain ⟨c, o, vs, t, e, g, d, r⟩ := x
  refine ⟨c, o, vs, t, e, g, d, r, ?_, ?_⟩
  · rintro rfl; rw [hn] at g; cases g; rw [hd] at d; cases d
  · rintro rfl
    rw [hP] at g; cases g
    cases d
    obtain ⟨l⟩ := ps
    match l, ht, r with
    | .int _ _ :: .int _ _ :: _ :: _, _, r => simp at r
theorem KT.same {n : Nat} {h h' : Heap} {kc P ns : Addr} {od : Obj} {es : Array DictEntry} {m : Nat} (x : KT n h kc P) (hn : h.get? ns = some od) (hd : od.data = .dict es m) (S : Heap.SameBut ns h h') : KT n h' kc P := by
  obtain ⟨ps, a, b, c, d, e⟩ := x
  have nP : P ≠ ns := by rintro rfl; rw [hn] at b; cases b; cases hd
  refine ⟨ps, ?_, (S.2 _ nP).trans b, c, fun i hi => ?_, e⟩
  · obtain ⟨o, vs, file, tf, flags, tg, inF, text, tt, y1, y2, y3, r⟩ := a
    have : kc ≠ ns := by rintro rfl; rw [hn] at y1; cases y1; rw [hd] at y3; cases y3
    exact ⟨o, vs, file, tf, flags, tg, inF, text, tt, (S.2 _ this).trans y1, y2, y3, r⟩
  · obtain ⟨cv, y, z⟩ := d i hi
    obtain ⟨c, o, vs, t, e1, g, d1, r, n1, n2⟩ := codeRec_ne z hn hd b c
    exact ⟨cv, y, c, o, vs, t, e1, (S.2 _ n1).trans g, d1, r⟩
theorem KT.upd {n : Nat} {h : Heap} {kc P ns : Addr} {od : Obj} {es : Array DictEntry} {m : Nat} {f : Obj → Obj} (x : KT n h kc P) (hn : h.get? ns = some od) (hd : od.data = .dict es m) : KT n (h.update ns f) kc P := x.same hn hd (Heap.SameBut.update h ns f)
/-- the class's body under way -/
structure BI (hB h : Heap) (ns P kc : Addr) (od : Obj) (n₀ n : Nat) (X : List (Addr × Obj)) : Prop where
  keep : ∀ b o, @Ne Nat b ns → (n₀ = 6 ∨ @Ne Nat b P) → hB.get? b = some o → h.get? b = some o
  dn : h.get? ns = some od
  dd : ∃ es m, od.data = .dict es m ∧ od.cls = .type "dict"
  kt : KT n h kc P
  ex : ∀ p ∈ X, h.get? p.1 = some p.2 ∧ @Ne Nat p.1 ns ∧ @Ne Nat p.1 P
  sz : @LE.le Nat _ hB.objs.size h.objs.size
section
variable {w : World} {M : Model} {A : Around} {E : Value → Shared → Prop} {hB h : Heap} {g : Array GenState} {d : Drawn} {tk : Nat} {os : OsState} {ns P kc : Addr} {od : Obj} {n₀ n : Nat} {X : List (Addr × Obj)}
theorem BI.nP (I : BI hB h ns P kc od n₀ n X) : @Ne Nat P ns := by
  obtain ⟨es, m, e, _⟩ := I.dd
  obtain ⟨ps, _, b, _⟩ := I.kt
  rintro rfl; rw [I.dn] at b; cases b; cases e
theorem BI.push (I : BI hB h ns P kc od n₀ n X) (o : Obj) (hf : o.isFreed = false) : BI hB (h.push o) ns P kc od n₀ n ((h.objs.size, o) :: X) :=
  ⟨fun b o' h1 h2 e => Heap.get?_push_of_some _ (I.keep b o' h1 h2 e), Heap.get?_push_of_some _ I.dn, I.dd, I.kt.keeps fun b o e => Heap.get?_push_of_some _ e, fun p hp => by
    rcases List.mem_cons.mp hp with rfl | hp
    · obtain ⟨ps, _, b, _⟩ := I.kt
      exact ⟨Heap.get?_push_size _ hf, Nat.ne_of_gt (Heap.lt_size I.dn), Nat.ne_of_gt (Heap.lt_size b)⟩
    · exact ⟨Heap.get?_push_of_some _ (I.ex p hp).1, (I.ex p hp).2⟩, by rw [Heap.size_push]; exact Nat.le_succ_of_le I.sz⟩
theorem BI.updN (I : BI hB h ns P kc od n₀ n X) {f : Obj → Obj} {es : Array DictEntry} {m : Nat} (hf : (f od).isFreed = false) (hd : (f od).data = .dict es m) (hc : (f od).cls = .type "dict") : BI hB (h.update ns f) ns P kc (f od) n₀ n X := by
  have S := Heap.SameBut.update h ns f
  obtain ⟨es', m', e, _⟩ := I.dd
  exact ⟨fun b o h1 h2 e => (S.2 b h1).trans (I.keep b o h1 h2 e), Heap.get?_update_self _ I.dn hf, ⟨_, _, hd, hc⟩, I.kt.upd I.dn e, fun p hp => ⟨(S.2 _ (I.ex p hp).2.1).trans (I.ex p hp).1, (I.ex p hp).2⟩, by rw [Heap.size_update]; exact I.sz⟩
theorem BI.set (I : BI hB h ns P kc od n₀ n X) {name : Str} {v : Value} {es : Array DictEntry} {m : Nat} {Q : Unit → Shared → Prop} (hd : od.data = .dict es m) (e : aRefKeyMayBeTheName name es = false)
    (hf : ∀ x : Int, (Obj.putName name x (.str name tk) v od).isFreed = false) (hq : ∀ x : Int, ∃ es' m', (Obj.putName name x (.str name tk) v od).data = .dict es' m' ∧ (Obj.putName name x (.str name tk) v od).cls = .type "dict") (k : ∀ h' (x : Int), BI hB h' ns P kc (Obj.putName name x (.str name tk) v od) n₀ n X → Q () ⟨h', g, d, tk + 1, os⟩) : wpAny M A (nsSet ns name v) Q E ⟨h, g, d, tk, os⟩ := by
  unfold nsSet strHash
  refine wpAny_bind (wpAny_bind (wpAny_askSetting (wpAny_pure ?_)))
  refine wpAny_bind (wpAny_mkText ?_)
  refine wpAny_bind (wpAny_loadPart I.dn ?_)
  rw [hd]
  refine wpAny_ite_false (by rw [e]; rfl) ?_
  have key : ∀ x : Int, BI hB (h.update ns (Obj.putName name x (.str name tk) v)) ns P kc (Obj.putName name x (.str name tk) v od) n₀ n X := fun x => by
    obtain ⟨es', m', e1, e2⟩ := hq x
    exact I.updN (f := Obj.putName name x (.str name tk) v) (hf x) e1 e2
  exact wpAny_updatePart I.dn (k _ _ (key _))
end
end Mine
end
/-! part N6 -/
noncomputable section
open PySem PySem.W PyProof.Rows PySem.Calls
namespace Mine
abbrev dObj (es : List DictEntry) (m : Nat) : Obj := ⟨.type "dict", none, .dict es.toArray m, #[]⟩
section
variable {w : World} {M : Model} {A : Around} {E : Value → Shared → Prop} {hB h : Heap} {g : Array GenState} {d : Drawn} {tk : Nat} {os : OsState} {ns P kc : Addr} {n₀ n : Nat} {X : List (Addr × Obj)} {env : Env}
theorem BI.store {es : List DictEntry} {m : Nat} (I : BI hB h ns P kc (dObj es m) n₀ n X) {name : Str} {v : Value} (es' : Int → List DictEntry) (m' : Nat) {Q : Unit → Shared → Prop} (hk : env.scope.kind = .class) (hl : env.kindOf name = some .local ∨ (env.kindOf name = none ∧ compilersOwnNames.contains name = true)) (hloc : env.locals = ns)
    (e : aRefKeyMayBeTheName name es.toArray = false) (he : ∀ x, Obj.putName name x (.str name tk) v (dObj es m) = dObj (es' x) m')
    (k : ∀ h' (x : Int), BI hB h' ns P kc (dObj (es' x) m') n₀ n X → Q () ⟨h', g, d, tk + 1, os⟩) : wpAny M A (storeName env name v) Q E ⟨h, g, d, tk, os⟩ := by
  have e1 : storeName env name v = localSet env name v := by
    unfold storeName
    rcases hl with hl | ⟨hl, hc⟩
    · simp [hl, hk]
    · simp only [hl, hk, hc, Env.blockKind]
      rfl
  rw [e1]
  subst hloc
  unfold localSet
  refine wpAny_bind (wpAny_load I.dn ?_)
  refine wpAny_ite_true rfl ?_
  refine I.set rfl e (fun x => ?_) (fun x => ?_) fun h' x I' => ?_
  · rw [he]; rfl
  · rw [he]; exact ⟨_, _, rfl, rfl⟩
  · rw [he] at I'
    exact k h' x I'
set_option maxHeartbeats 4000000 in
theorem BI.def {es : List DictEntry} {m : Nat} (G : Gl w hB) (I : BI hB h ns P kc (dObj es m) n₀ n X) {i : Nat} (hi : i < 6) (hn : n = i ∨ n = 6) (hcc : n₀ = 6 → n = 6) (zP : @LE.le Nat _ 71 P) (zn : @LE.le Nat _ 71 ns) {params : Arguments} {body : List Stmt} {scope : Scope} {clos : List (Str × Addr)} {Q : Value → Shared → Prop} {nm : Str} {pos : Pos} {q : Str}
    (hpos : pos = posK i) (hq : q = qK i) (hcl : closureFor scope env = pure clos) (hge : env.globals = 3) (hcode : env.code = .ref kc)
    (k : ∀ h' f c' oc vs t ctv doc tk', BI hB h' ns P kc (dObj es m) n₀ (max n (i + 1)) ((f, { cls := .type "function", data := .func (fnX nm q params body scope clos .none .none doc ((mgl w "__name__").getD .none) none (.ref c') ctv) }) :: (c', oc) :: X) → oc.data = .fields vs → vs[1]? = some (.str (qK i) t) → @LE.le Nat _ h.objs.size f → @LT.lt Nat _ f h'.objs.size → Q (.ref f) ⟨h', g, d, tk', os⟩) :
    wpAny M A (makeFunction nm q params (.stmts body) scope env [] [] [] pos pos.line) Q E ⟨h, g, d, tk, os⟩ := by
  subst hpos hq
  have Gh : Gl w h := G.keepsLt fun b o hb _ _ e => I.keep b o (Nat.ne_of_lt (Nat.lt_of_lt_of_le hb zn)) (.inr (Nat.ne_of_lt (Nat.lt_of_lt_of_le hb zP))) e
  obtain ⟨ps, C, hP, ht, hF, hN⟩ := id I.kt
  have nP := I.nP
  rcases hn with rfl | rfl
  · have hnf := hN n (Nat.le_refl _) hi
    refine makeFunction_K (mg := mgl w) hcl hge Gh.ns3 hcode C hP ht hnf (Nat.ne_of_lt (Nat.lt_of_lt_of_le (by decide) zP)) (Gh.builtins (.inl zP)) fun c' ctv doc h' tk' hx hge' hlt hrec hP' => ?_
    obtain ⟨c₂, oc, vs, t, e2, g1, d1, r1⟩ := id hrec
    cases e2
    have hn6 : ¬ n₀ = 6 := fun e => by have := hcc e; omega
    have hl : (ps ++ #[rawInt (posK n).line, rawInt (posK n).col, Value.ref c']).toList = ps.toList ++ [.int (posK n).line 0, .int (posK n).col 0, .ref c'] := by simp [rawInt]
    have hcn : @Ne Nat c' ns := Nat.ne_of_gt (Nat.lt_of_lt_of_le (Heap.lt_size I.dn) hge')
    have hcP : @Ne Nat c' P := Nat.ne_of_gt (Nat.lt_of_lt_of_le (Heap.lt_size hP) hge')
    have e6 : max n (n + 1) = n + 1 := by omega
    refine k _ h'.objs.size c' oc vs t ctv doc tk' ?_ d1 r1 (Nat.le_of_lt (Nat.lt_of_le_of_lt hge' hlt)) (by rw [Heap.size_push]; exact Nat.lt_succ_self _)
    rw [e6]
    have C' : CodeHd h' kc P := by
      obtain ⟨o, vs, file, tf, flags, tg, inF, text, tt, y1, y2, y3, y4, y5, y6, y7, y8, y9, y10⟩ := C
      exact ⟨o, vs, file, tf, flags, tg, inF, text, tt, hx _ _ y10 y1, y2, y3, y4, y5, y6, y7, y8, y9, y10⟩
    have K1 : KT (n + 1) h' kc P := by
      refine ⟨_, C', hP', ?_, fun j hj => ?_, fun j h1 h2 => ?_⟩
      · rw [hl]; exact TriplesOk_snoc _ _ _ _ ht
      · rw [hl, codeAmong_app _ ht]
        by_cases hjn : j = n
        · subst hjn
          rw [hnf]
          refine ⟨.ref c', ?_, hrec⟩
          simp
        · obtain ⟨cv, y, z⟩ := hF j (by omega)
          rw [y]
          obtain ⟨c₃, o₃, vs₃, t₃, e₃, g₃, d₃, r₃, m1, m2⟩ := codeRec_ne z I.dn rfl hP ht
          exact ⟨cv, rfl, c₃, o₃, vs₃, t₃, e₃, hx _ _ m2 g₃, d₃, r₃⟩
      · rw [hl, codeAmong_app _ ht, hN j (by omega) h2]
        simp only [posK_inj n j hi h2 (by omega)]
        rfl
    have I1 : BI hB h' ns P kc (dObj es m) n₀ (n + 1) ((c', oc) :: X) := ⟨fun b o h1 h2 e => hx _ _ (h2.resolve_left hn6) (I.keep b o h1 h2 e), hx _ _ (Ne.symm nP) I.dn, I.dd, K1, fun p hp => by
      rcases List.mem_cons.mp hp with rfl | hp
      · exact ⟨g1, hcn, hcP⟩
      · exact ⟨hx _ _ (I.ex p hp).2.2 (I.ex p hp).1, (I.ex p hp).2⟩, Nat.le_trans I.sz (Nat.le_of_lt (Nat.lt_of_le_of_lt hge' hlt))⟩
    exact I1.push _ rfl
  · obtain ⟨cv, hf, hcr⟩ := hF i hi
    refine makeFunction_hit (mg := mgl w) hcl hge Gh.ns3 hcode C hP ht hf (Gh.builtins (.inl zP)) fun ctv doc h' tk' hx hsz => ?_
    obtain ⟨c', oc, vs, t, rfl, g1, d1, r1, n1, n2⟩ := codeRec_ne hcr I.dn rfl hP ht
    refine k _ h'.objs.size c' oc vs t ctv doc tk' ?_ d1 r1 hsz (by rw [Heap.size_push]; exact Nat.lt_succ_self _)
    have e6 : max 6 (i + 1) = 6 := by omega
    rw [e6]
    have I1 : BI hB h' ns P kc (dObj es m) n₀ 6 ((c', oc) :: X) := ⟨fun b o h1 h2 e => hx _ _ (I.keep b o h1 h2 e), hx _ _ I.dn, I.dd, I.kt.keeps hx, fun p hp => by
      rcases List.mem_cons.mp hp with rfl | hp
      · exact ⟨hx _ _ g1, n1, n2⟩
      · exact ⟨hx _ _ (I.ex p hp).1, (I.ex p hp).2⟩, Nat.le_trans I.sz hsz⟩
    exact I1.push _ rfl
end
end Mine
end
/-! part N7 -/
noncomputable section
open PySem PySem.W PyProof.Rows PySem.Calls
namespace Mine
theorem pr_type : typeOf (.builtin "type.__prepare__") = pure (.type "classmethod_descriptor") := by show builtinType _ = _; rw [builtinType_eq_fast]; kernel_rfl
theorem pr_look : typeLookup (.type "type") "__prepare__" = pure (some (.builtin "type.__prepare__")) := by rw [typeLookup_type, builtinLookup_eq_fast]; kernel_rfl
theorem pr_set : typeLookup (.type "classmethod_descriptor") "__set__" = pure none := by rw [typeLookup_type, builtinLookup_eq_fast]; kernel_rfl
theorem pr_del : typeLookup (.type "classmethod_descriptor") "__delete__" = pure none := by rw [typeLookup_type, builtinLookup_eq_fast]; kernel_rfl
theorem pr_typeT : typeOf (.type "type") = pure (.type "type") := by kernel_rfl
theorem pr_bound (t : Tok) (b : Addr) : checkBoundCall "type.__prepare__" ⟨[.type "type", .str "K" t, .ref b], []⟩ = pure () := by kernel_rfl
theorem pr_entry : entryFor table "type.__prepare__" = some Builtin.«type.__prepare__» := entryFor_of_tree (by kernel_rfl)
theorem pr_plain : plainId "type.__prepare__" = true := by decide +kernel
section
variable {w : World} {A : Around} {E : Value → Shared → Prop} {h : Heap} {g : Array GenState} {d : Drawn} {tk : Nat} {os : OsState}
set_option maxRecDepth 100000 in
set_option maxHeartbeats 4000000 in
theorem prga {t : Tok} {Q : PySem.Fin → Shared → Prop}
    (hq : Q (.done (.ret (.ref h.objs.size))) ⟨h.push { cls := .type "builtin_function_or_method", data := .fields #[.builtin "type.__prepare__", .type "type"] }, g, d, tk, os⟩) :
    wpAny (model P0 w) A (Builtin.«type.__getattribute__» ⟨[.type "type", .str "__prepare__" t], []⟩) Q E ⟨h, g, d, tk, os⟩ := by
  unfold Builtin.«type.__getattribute__»
  refine stp (some _) rfl ?_
  refine stp none rfl ?_
  refine stp _ pr_typeT ?_
  refine stp _ pr_look ?_
  refine wpAny_bind (wpAny_specialOf_val pr_type cd_slot.lookup ?_)
  refine wpAny_bind (wpAny_specialOf_val pr_type pr_set ?_)
  refine wpAny_ite_false rfl ?_
  refine wpAny_bind (wpAny_specialOf_val pr_type pr_del ?_)
  refine wpAny_bind (wpAny_pure ?_)
  refine wpAny_ite_false rfl ?_
  refine stp _ pr_look ?_
  refine wpAny_ite_false (by kernel_rfl) ?_
  refine stp _ pr_type ?_
  refine wpAny_ite_false (by kernel_rfl) ?_
  refine wpAny_bind (wpAny_specialOf_val pr_type cd_slot.lookup ?_)
  refine wpAny_bind (wpAny_holding ?_)
  refine wpAny_call_entry cd_slot pr_type cd_entry ?_ (cd_args _ _ _)
  unfold Builtin.«classmethod_descriptor.__get__»
  refine stp (.builtin "type.__prepare__", none, some (.type "type")) (by kernel_rfl) ?_
  dsimp only
  refine stp (.type "type") rfl ?_
  refine stp true rfl ?_
  refine wpAny_ite_false rfl ?_
  refine stp true (by kernel_rfl) ?_
  refine wpAny_ite_false rfl ?_
  refine wpAny_bind (wpAny_newObj_type ?_)
  refine wpAny_pure ⟨_, rfl, ?_⟩
  refine wpAny_bind (wpAny_pure ?_)
  exact wpAny_pure hq
set_option maxRecDepth 100000 in
set_option maxHeartbeats 4000000 in
theorem prget {Q : Option Value → Shared → Prop}
    (hq : Q (some (.ref h.objs.size)) ⟨h.push { cls := .type "builtin_function_or_method", data := .fields #[.builtin "type.__prepare__", .type "type"] }, g, d, tk + 1, os⟩) :
    wpAny (model P0 w) A (getAttr? (.type "type") "__prepare__") Q E ⟨h, g, d, tk, os⟩ := by
  have hlk := KF.slot_tga.lookup
  unfold getAttr? getAttrBy? getAttrBy
  refine wpAny_bind (wpAny_mkText (wpAny_bind (wpAny_attempt (wpAny_holding (stp _ pr_typeT (stp _ hlk ?_))))))
  show wpAny _ _ (getAttrByItsOwn (.type "type") (.str "__prepare__" tk) (.type "type") (.builtin "type.__getattribute__") false false) _ _ _
  unfold getAttrByItsOwn hookBefore callGetattribute boundAndCalled
  refine wpAny_bind (wpAny_of_eq (show (if onTheHeap (.type "type") then typeLookup (.type "type") "__getattr__" else pure none) = pure none from rfl) ?_)
  refine wpAny_bind (wpAny_attempt (wpAny_holding ?_))
  show wpAny _ _ (bindSpecial (.builtin "type.__getattribute__") (.type "type") >>= _) _ _ _
  refine wpAny_bind (wpAny_of_eq (KF.slot_tga.bind _) ?_)
  refine wpAny_mono (Q := fun v s' => v = .ref h.objs.size ∧ s' = ⟨h.push { cls := .type "builtin_function_or_method", data := .fields #[.builtin "type.__prepare__", .type "type"] }, g, d, tk + 1, os⟩) (E := fun _ _ => False)
    (wpAny_call_entry KF.slot_tga pr_typeT KF.entry_tga (prga ⟨_, rfl, rfl, rfl⟩) (KF.args_tga _ _)) (fun v s' hv => ?_) fun _ _ z => z.elim
  obtain ⟨rfl, rfl⟩ := hv
  exact wpAny_pure (wpAny_pure hq)
set_option maxRecDepth 100000 in
set_option maxHeartbeats 4000000 in
theorem prcall {b bT : Addr} {t : Tok} {Q : Value → Shared → Prop} (hb : h.get? b = some { cls := .type "builtin_function_or_method", data := .fields #[.builtin "type.__prepare__", .type "type"] })
    (hq : Q (.ref h.objs.size) ⟨h.push (dObj [] 0), g, d, tk, os⟩) : wpAny (model P0 w) A (call (.ref b) [.str "K" t, .ref bT]) Q E ⟨h, g, d, tk, os⟩ := by
  refine wpAny_call (codeAny_of_tree ?_)
  show wpAny _ A.in1 (callAny (.ref b) _) _ _ _
  unfold callAny
  refine wpAny_bind (wpAny_load hb ?_)
  refine wpAny_ite_true rfl ?_
  refine wpAny_ite_true rfl ?_
  refine stp () (pr_bound _ _) ?_
  refine wpAny_pure ⟨plainId_quiet pr_plain _, codeAny_builtin pr_entry ?_⟩
  rw [Around.under_plainId pr_plain _]
  unfold Builtin.«type.__prepare__»
  refine wpAny_bind (wpAny_newObj_type ?_)
  exact wpAny_pure hq
end
end Mine
end
/-! part N8 -/
noncomputable section
open PySem PySem.W PyProof.Rows PySem.Calls
namespace Mine
section
variable {M : Model} {A : Around} {E : Value → Shared → Prop} {s : Shared}
theorem ccodeX {env : Env} {c P : Addr} {ps : Array Value} {pos : Pos} {fl : Nat} {name qualname : Str} {scope : Scope}
    {Q : Value → Shared → Prop} (hc : env.code = .ref c) (hok : s.heap.IsCode c P ps) (hnf : codeAmong pos ps.toList = none)
    (hQ : ∀ c' h' tk, Heap.ExtBut P s.heap h' → @LE.le Nat _ s.heap.objs.size h'.objs.size → (∃ op, s.heap.get? P = some op ∧ h'.get? P = some (Obj.mapFields (fun vs => if (codeAmong pos vs.toList).isSome = true then vs else vs ++ #[rawInt pos.line, rawInt pos.col, .ref c']) op)) → (∃ P', @LE.le Nat _ s.heap.objs.size P' ∧ h'.IsCode c' P' #[] ∧ h'.TableAt c' P' #[]) →
      Q (.ref c') { s with heap := h', toks := tk }) :
    wpAny M A (classCode env pos fl name qualname scope) Q E s := by
  obtain ⟨o, vs, file, tf, flags, tg, inF, text, tt, op, ho, hd, h11, h2, h7, h9, h10, hop, hpd, htr, hne⟩ := id hok
  unfold classCode codeAt
  rw [hc, if_neg (show ¬ ((Value.ref c == Value.none) = true) from Bool.false_ne_true)]
  refine wpAny_bind (wpAny_fieldsOf ho hd ?_)
  rw [h11]
  refine wpAny_bind (wpAny_fieldsOf hop hpd ?_)
  rw [hnf, h2, h7, h9, h10]
  refine wpAny_bind (wpAny_newCodeX fun c' P' h' tk hk hc' hP' hcode' htab' hrec' => ?_)
  have hop' := hk _ _ hop
  refine wpAny_bind (wpAny_updateFieldsOfTheText hop' hpd ?_)
  have hnew : (Obj.mapFields (fun vs => if (codeAmong pos vs.toList).isSome = true then vs else vs ++ #[rawInt pos.line, rawInt pos.col, .ref c']) op).data =
      .fields (ps ++ #[rawInt pos.line, rawInt pos.col, .ref c']) := by
    rw [Obj.data_mapFields hpd, hnf]; rfl
  have hget := Heap.get?_update_self (h := h') (fun o => Obj.mapFields (fun vs => if (codeAmong pos vs.toList).isSome = true then vs else
    vs ++ #[rawInt pos.line, rawInt pos.col, .ref c']) o) hop' (Obj.isFreed_of_fields hnew)
  refine wpAny_bind (wpAny_fieldsOf hget hnew ?_)
  have hl : (ps ++ #[rawInt pos.line, rawInt pos.col, Value.ref c']).toList = ps.toList ++ [rawInt pos.line, rawInt pos.col, .ref c'] := by simp
  rw [hl, codeAmong_snoc _ htr hnf]
  have hcP : c' ≠ P := Nat.ne_of_gt (Nat.lt_of_lt_of_le (Heap.lt_size hop) hc')
  refine wpAny_pure (hQ _ _ _ (fun b o' hb e => ((Heap.SameBut.update ..).extBut b o' hb (hk b o' e))) (by rw [Heap.size_after_update]; exact Nat.le_trans hc' (Nat.le_of_lt hcode'.lt.1)) ⟨op, hop, hget⟩ ?_)
  have hP'P : P' ≠ P := Nat.ne_of_gt (Nat.lt_of_lt_of_le (Heap.lt_size hop) hP')
  obtain ⟨⟨oc, vc, hoc, hcc, hdc, h11c⟩, htP⟩ := htab'
  exact ⟨P', hP', hcode'.extBut (Heap.SameBut.update ..).extBut hcP hP'P, ⟨oc, vc, (Heap.SameBut.update ..).extBut _ _ hcP hoc, hcc, hdc, h11c⟩, (Heap.SameBut.update ..).extBut _ _ hP'P htP⟩
end
/-- cmp_to_key's table of codes: before its first call, and behind it -/
def T16 (h : Heap) (n₀ : Nat) : Prop := (n₀ = 0 ∧ h.get? 16 = some (tabObj #[])) ∨ (n₀ = 6 ∧ ∃ kc P, h.get? 16 = some (tabObj #[rawInt 4, rawInt 4, .ref kc]) ∧ KT 6 h kc P ∧ @LE.le Nat _ 71 P)
theorem hd20 {w : World} {h : Heap} (G : Gl w h) : CodeHd h 20 16 := by
  refine ⟨_, _, _, _, _, _, _, _, _, G.all 20 _ (by decide) (by decide) rfl, rfl, rfl, rfl, rfl, rfl, rfl, rfl, rfl, by decide⟩
section
variable {w : World} {A : Around} {E : Value → Shared → Prop} {h : Heap} {g : Array GenState} {d : Drawn} {tk : Nat} {os : OsState}
theorem ccode {env : Env} {fl : Nat} {name qualname : Str} {scope : Scope} {pos : Pos} {n₀ : Nat} {Q : Value → Shared → Prop} (G : Gl w h) (hz : @LE.le Nat _ 71 h.objs.size) (hc : env.code = .ref 20) (hl : pos.line = 4) (hco : pos.col = 4) (T : T16 h n₀)
    (k : ∀ kc P h' tk', KT n₀ h' kc P → @LE.le Nat _ 71 P → (∀ b o, (n₀ = 6 ∨ @Ne Nat b 16) → h.get? b = some o → h'.get? b = some o) → h'.get? 16 = some (tabObj #[rawInt 4, rawInt 4, .ref kc]) → @LE.le Nat _ h.objs.size h'.objs.size → (n₀ = 0 ∨ n₀ = 6) → (n₀ = 6 ∨ @LE.le Nat _ h.objs.size P) → Q (.ref kc) ⟨h', g, d, tk', os⟩) :
    wpAny (model P0 w) A (classCode env pos fl name qualname scope) Q E ⟨h, g, d, tk, os⟩ := by
  rcases T with ⟨rfl, e⟩ | ⟨rfl, kc, P, e, K, z⟩
  · refine ccodeX hc ((hd20 G).code e trivial) rfl fun c' h' tk' hx hsz hop hnew => ?_
    obtain ⟨op, h1, h2⟩ := hop
    obtain ⟨P', zP, hco', htb⟩ := hnew
    have e1 : op = tabObj #[] := Option.some.inj (h1.symm.trans e)
    subst e1
    refine k c' P' h' tk' ⟨#[], CodeHd.of hco' htb, htb.2, trivial, fun i hi => (nomatch hi), fun i _ _ => rfl⟩ (Nat.le_trans hz zP) (fun b o hb e => hx b o (hb.resolve_left (by decide)) e) ?_ hsz (.inl rfl) (.inr zP)
    rw [h2]
    simp only [Obj.mapFields, codeAmong, hl, hco]
    rfl
  · refine wpAny_codeAt_hit hc ((hd20 G).code e trivial) (c' := .ref kc) ?_ ?_
    · simp [codeAmong, rawInt, hl, hco]
    · exact k kc P h tk K z (fun b o _ e => e) e (Nat.le_refl _) (.inr rfl) (.inl rfl)
end
end Mine
end
/-! part N9 -/
noncomputable section
open PySem PySem.W PyProof.Rows PySem.Calls
namespace Mine
theorem b_build (w : World) : mbl w "__build_class__" = some (.builtin "__build_class__") := by kernel_rfl
theorem g_name (w : World) : mgl w "__name__" = some (.str "law_dp0028_01" 211) := by kernel_rfl
abbrev en (x : Int) (nm : Str) (t : Tok) (v : Value) : DictEntry := ⟨x, .str nm t, v⟩
theorem clsName {w : World} {M : Model} {A : Around} {E : Value → Shared → Prop} {s : Shared} {env : Env} {es : List DictEntry} {m : Nat} {v : Value} {Q : Value → Shared → Prop} (hk : env.scope.kind = .class) (hkn : env.kindOf "__name__" = none) (hd : s.heap.get? env.locals = some (dObj es m)) (e : nsLook "__name__" (dObj es m) = pure none)
    (hg : s.heap.Ns env.globals (mgl w)) (hv : mgl w "__name__" = some v) (h : Q v s) : wpAny M A (loadName env "__name__") Q E s := by
  unfold loadName
  refine wpAny_ite_false (by rw [hk]; rfl) ?_
  have e1 : env.blockKind = .class := by unfold Env.blockKind; rw [hk]; rfl
  rw [e1, hkn]
  refine wpAny_ite_false (by kernel_rfl) ?_
  refine wpAny_bind (wpAny_bind (wpAny_load hd ?_))
  refine wpAny_ite_true rfl ?_
  refine wpAny_bind (wpAny_loadPart hd (wpAny_of_eq e ?_))
  unfold loadGlobal
  refine wpAny_bind (wpAny_nsGet hg ?_)
  rw [hv]
  exact wpAny_pure h
theorem statics1 {M : Model} {A : Around} {E : Value → Shared → Prop} {s : Shared} {x : Str} {Q : List Value → Shared → Prop} (h : Q [.str x s.toks] { s with toks := s.toks + 1 }) : wpAny M A ([x].mapM mkText) Q E s := by
  simp only [List.mapM_cons, List.mapM_nil, bind_pure_comp, map_pure]
  exact wpAny_bind (wpAny_mkText (wpAny_pure h))
/-- what comes after, behind a name: the terms stay small -/
theorem hideQE {M : Model} {A : Around} {α : Type} {c : Sem α} {Q : α → Shared → Prop} {E : Value → Shared → Prop} {s : Shared} (h : ∀ (P : α → Shared → Prop) (E' : Value → Shared → Prop), (∀ v s, Q v s → P v s) → wpAny M A c P E' s) : wpAny M A c Q E s := h Q E fun _ _ x => x
section
variable {w : World} {A : Around} {E : Value → Shared → Prop} {s : Shared}
set_option maxRecDepth 100000 in
set_option maxHeartbeats 8000000 in
theorem ctk_c {n₀ : Nat} (G : Gl w s.heap) (hz : @LE.le Nat _ 71 s.heap.objs.size) (hA : A.depth < 960) (T : T16 s.heap n₀) {f : Addr} {Q : Value → Shared → Prop}
    (k : ∀ s' D, (∀ b o, (n₀ = 6 ∨ @Ne Nat b 16) → s.heap.get? b = some o → s'.heap.get? b = some o) → s'.gens = s.gens → s'.os = s.os → T16 s'.heap 6 → KAt w s'.heap D f → @LT.lt Nat _ s.heap.objs.size D.fi → @LT.lt Nat _ s.heap.objs.size D.cell → Q (.ref D.c) s') : wpAny (model P0 w) A (call (.ref 21) [.ref f]) Q E s := by
  refine wpAny_call (codeAny_call_cells (binds := [("mycmp", .ref f)]) (by show A.depth < 1000; omega) (G.all 21 _ (by decide) (by decide) rfl) rfl G.nolimit ⟨_, _, _, _, rfl, G.all 20 _ (by decide) (by decide) rfl, rfl, rfl⟩ rfl rfl rfl (fun x hx => ?_) fun s₁ hin => ?_)
  · obtain rfl := List.mem_singleton.mp hx
    exact .inr ⟨rfl, rfl⟩
  obtain ⟨L, hL⟩ : ∃ L, L = s.heap.objs.size := ⟨_, rfl⟩
  rw [← hL] at hin ⊢
  generalize henv : callEnvC _ L 21 = env at hin ⊢
  have v1 : env.locals = L := by rw [← henv]; rfl
  have v2 : env.globals = 3 := by rw [← henv]; rfl
  have v3 : env.builtins = 0 := by rw [← henv]; rfl
  have v4 : env.code = .ref 20 := by rw [← henv]; rfl
  have v5 : env.scope.kind = .function := by rw [← henv]; rfl
  have v6 : env.kindOf "object" = some .globalImplicit := by rw [← henv]; rfl
  have v7 : env.kindOf "K" = some .local := by rw [← henv]; rfl
  have v8 : env.cells = [(("mycmp" : Str), L + 1)] := by rw [← henv]; rfl
  have v9 : env.qual = "cmp_to_key.<locals>." := by rw [← henv]; kernel_rfl
  have v10 : env.kindOf "mycmp" = some .cell := by rw [← henv]; rfl
  have hmK : bindL env.kindOf [("mycmp", Value.ref f)] (fun _ => none) = fun _ => none := by rw [← henv]; rfl
  have hcl0 : hin = hin := rfl
  have hcell' := hin.cell "mycmp" (L + 1) (by rw [v8]; rfl)
  have hcm : bindC env.kindOf [("mycmp", Value.ref f)] (fun _ => none) "mycmp" = some (.ref f) := by rw [← henv]; rfl
  rw [hcm] at hcell'
  obtain ⟨⟨h1, tk1, e1⟩, hns, hk1, hfr⟩ := hin.toInCall
  clear hcl0 hin henv hcm
  subst e1
  rw [v1] at hns hfr
  rw [hmK] at hns
  generalize hA' : A.deeper env = A'
  have hdep : A'.depth < 970 := by rw [← hA']; show A.depth + 1 < 970; omega
  clear hA'
  refine hideQE fun Q1 E1 hQ1 => ?_
  refine wpAny_execs_cons ?_
  rw [arm_exec_ClassDef]
  refine stp [] rfl ?_
  refine wpAny_bind (wpAny_standAt ?_)
  have G1 : Gl w h1 := G.keeps hk1
  refine wpAny_bind (wpAny_bind (wpAny_nsGet (v3 ▸ G1.ns0) ?_))
  rw [b_build]
  refine wpAny_pure ?_
  refine wpAny_bind (wpAny_holding ?_)
  refine wpAny_bind (m := evalArgs _ _ _ _) ?_
  unfold evalArgs
  refine wpAny_bind (spliced_more (bname (w := w) G1 (b_object w) (spliced_none ?_) v2 v3 v5 v6))
  refine wpAny_bind (wpAny_pure ?_)
  refine wpAny_holding ?_
  refine wpAny_ite_true rfl ?_
  refine stp [] rfl ?_
  refine stp [.type "object"] rfl ?_
  refine wpAny_pure ?_
  refine wpAny_bind (wpAny_standAt (wpAny_holding ?_))
  unfold buildClass
  refine wpAny_bind (wpAny_newObj_type ?_)
  refine wpAny_bind (forC ?_)
  refine stp true rfl ?_
  refine wpAny_ite_true rfl ?_
  refine wpAny_ite_false (by kernel_rfl) ?_
  refine wpAny_pure (forN ?_)
  refine stp _ tt1 ?_
  refine stp true rfl ?_
  refine wpAny_ite_true rfl ?_
  refine wpAny_bind (forC (stp _ tt1 (stp true tt2 (wpAny_ite_true rfl (wpAny_pure (forN ?_))))))
  refine wpAny_bind (wpAny_mkText ?_)
  refine wpAny_ite_false rfl ?_
  refine wpAny_bind (wpAny_pure ?_)
  refine wpAny_holding ?_
  have hLz : @LT.lt Nat _ L h1.objs.size := hns.lt
  have hbm : ((h1.push { cls := .type "tuple", data := .seq [Value.type "object"].toArray }).push { cls := .type "builtin_function_or_method", data := .fields #[.builtin "type.__prepare__", .type "type"] }).get? (h1.push { cls := .type "tuple", data := .seq [Value.type "object"].toArray }).objs.size = some { cls := .type "builtin_function_or_method", data := .fields #[.builtin "type.__prepare__", .type "type"] } := Heap.get?_push_size _ rfl
  refine wpAny_bind (prget ?_)
  refine wpAny_bind (prcall hbm ?_)
  have hbT : (((h1.push { cls := .type "tuple", data := .seq [Value.type "object"].toArray }).push { cls := .type "builtin_function_or_method", data := .fields #[.builtin "type.__prepare__", .type "type"] }).push (dObj [] 0)).get? h1.objs.size = some { cls := .type "tuple", data := .seq [Value.type "object"].toArray } := Heap.get?_push_of_some _ (Heap.get?_push_of_some _ (Heap.get?_push_size _ rfl))
  have hnd : (((h1.push { cls := .type "tuple", data := .seq [Value.type "object"].toArray }).push { cls := .type "builtin_function_or_method", data := .fields #[.builtin "type.__prepare__", .type "type"] }).push (dObj [] 0)).get? ((h1.push { cls := .type "tuple", data := .seq [Value.type "object"].toArray }).push { cls := .type "builtin_function_or_method", data := .fields #[.builtin "type.__prepare__", .type "type"] }).objs.size = some (dObj [] 0) := Heap.get?_push_size _ rfl
  have k2 : ∀ b o, h1.get? b = some o → (((h1.push { cls := .type "tuple", data := .seq [Value.type "object"].toArray }).push { cls := .type "builtin_function_or_method", data := .fields #[.builtin "type.__prepare__", .type "type"] }).push (dObj [] 0)).get? b = some o := fun b o e => Heap.get?_push_of_some _ (Heap.get?_push_of_some _ (Heap.get?_push_of_some _ e))
  have zn : @LT.lt Nat _ h1.objs.size ((h1.push { cls := .type "tuple", data := .seq [Value.type "object"].toArray }).push { cls := .type "builtin_function_or_method", data := .fields #[.builtin "type.__prepare__", .type "type"] }).objs.size := by simp only [Heap.size_push]; omega
  generalize ((h1.push { cls := .type "tuple", data := .seq [Value.type "object"].toArray }).push { cls := .type "builtin_function_or_method", data := .fields #[.builtin "type.__prepare__", .type "type"] }).push (dObj [] 0) = h2 at hbT hnd k2 ⊢
  generalize ((h1.push { cls := .type "tuple", data := .seq [Value.type "object"].toArray }).push { cls := .type "builtin_function_or_method", data := .fields #[.builtin "type.__prepare__", .type "type"] }).objs.size = nsA at hnd zn ⊢
  generalize hbT' : h1.objs.size = bT at hbT zn hLz ⊢
  have z71 : @LE.le Nat _ 71 nsA := by omega
  have hsys : (nsA == sysModules) = false := by
    have : nsA ≠ 1 := by omega
    simpa [sysModules] using this
  have G2 : Gl w h2 := G1.keeps k2
  refine stp () (if_neg (by rw [hsys]; decide)) ?_
  have f1 : typeLookup (.type "dict") "__getitem__" = pure (some (.builtin "dict.__getitem__")) := by rw [typeLookup_type, builtinLookup_eq_fast]; kernel_rfl
  refine wpAny_bind (wpAny_specialOf ⟨_, hnd, rfl⟩ f1 ?_)
  refine wpAny_ite_false rfl ?_
  refine wpAny_holding ?_
  refine wpAny_ite_false (by kernel_rfl) ?_
  refine stp none rfl ?_
  refine wpAny_ite_false (by kernel_rfl) ?_
  refine stp none rfl ?_
  have hz2 : @LE.le Nat _ 71 h2.objs.size := Nat.le_trans z71 (Nat.le_of_lt (Heap.lt_size hnd))
  have T2 : T16 h2 n₀ := by
    rcases T with ⟨a, b⟩ | ⟨a, kc, P, b, c, e⟩
    · exact .inl ⟨a, k2 _ _ (hk1 _ _ b)⟩
    · exact .inr ⟨a, kc, P, k2 _ _ (hk1 _ _ b), c.keeps fun b o e => k2 _ _ (hk1 _ _ e), e⟩
  refine wpAny_bind (ccode G2 hz2 v4 rfl rfl T2 fun kc P h3 tk3 K3 zP k3 e16 sz3 hn0 hnP => ?_)
  have n16 : @Ne Nat nsA 16 := by omega
  have hnd3 := k3 _ _ (.inr n16) hnd
  have hbT3 := k3 bT _ (.inr (by omega)) hbT
  have G3 : Gl w h3 := G2.keepsLt fun b o _ h16 _ e => k3 b o (.inr h16) e
  rw [v2]
  obtain ⟨bm', ob, b1, b2, b3, b4, b5, b6, b7, b8⟩ := G3.builtins (P := 71) (.inl (Nat.le_refl _))
  refine wpAny_bind (wpAny_builtinsFor G3.ns3 b1 b2 b5 b6 b7 b8 ?_)
  refine wpAny_bind (wpAny_bind (wpAny_nsGet G3.ns3 (wpAny_alloc ?_)))
  have hclo : ∀ sc : Scope, sc.names = [(Str.ofString "__module__", NameKind.local), (Str.ofString "__slots__", NameKind.local), (Str.ofString "__init__", NameKind.local), (Str.ofString "__lt__", NameKind.local), (Str.ofString "__gt__", NameKind.local), (Str.ofString "__eq__", NameKind.local), (Str.ofString "__le__", NameKind.local), (Str.ofString "__ge__", NameKind.local), (Str.ofString "__hash__", NameKind.local), (Str.ofString "mycmp", NameKind.free)] → closureFor sc env = pure [(("mycmp" : Str), L + 1)] := by
    intro sc e
    unfold closureFor cellOf
    rw [e, v8]
    kernel_rfl
  refine stp _ (hclo _ rfl) ?_
  have hqn : qualnameIn env "K" "K" = "cmp_to_key.<locals>.K" := by
    unfold qualnameIn
    rw [v7, v9]
    kernel_rfl
  extract_lets cenv
  have c1 : cenv.locals = nsA := rfl
  have c2 : cenv.globals = 3 := rfl
  have c3 : cenv.code = .ref kc := rfl
  have c4 : cenv.scope.kind = .class := rfl
  have c5 : cenv.qual = "cmp_to_key.<locals>.K" ++ "." := by show qualnameIn env "K" "K" ++ _ = _; rw [hqn]
  have c6 : cenv.cells = [(("mycmp" : Str), L + 1)] := rfl
  have c7 : cenv.builtins = 0 := rfl
  have c8 : cenv.scope.names = [(Str.ofString "__module__", NameKind.local), (Str.ofString "__slots__", NameKind.local), (Str.ofString "__init__", NameKind.local), (Str.ofString "__lt__", NameKind.local), (Str.ofString "__gt__", NameKind.local), (Str.ofString "__eq__", NameKind.local), (Str.ofString "__le__", NameKind.local), (Str.ofString "__ge__", NameKind.local), (Str.ofString "__hash__", NameKind.local), (Str.ofString "mycmp", NameKind.free)] := rfl
  clear_value cenv
  have zL : @LT.lt Nat _ (L + 1) bT := by obtain ⟨o, ho, _⟩ := hcell'; have := Heap.lt_size ho; rw [hbT'] at this; exact this
  have kB : ∀ b o, h3.get? b = some o → (h3.push _).get? b = some o := fun b o e => Heap.get?_push_of_some { cls := .type "frame", slots := #[some (.ref kc), some (.ref 3), some (.ref nsA), none, some ((mgl w "__name__").getD .none), none, some (.ref builtinsNs)] } e
  show wpAny _ _ _ _ _ ⟨h3.push { cls := .type "frame", slots := #[some (.ref kc), some (.ref 3), some (.ref nsA), none, some ((mgl w "__name__").getD .none), none, some (.ref builtinsNs)] }, s.gens, s.drawn, tk3, s.os⟩
  have szB : @LE.le Nat _ h3.objs.size (h3.push { cls := .type "frame", slots := #[some (.ref kc), some (.ref 3), some (.ref nsA), none, some ((mgl w "__name__").getD .none), none, some (.ref builtinsNs)] }).objs.size := by rw [Heap.size_push]; exact Nat.le_succ _
  generalize h3.push { cls := .type "frame", slots := #[some (.ref kc), some (.ref 3), some (.ref nsA), none, some ((mgl w "__name__").getD .none), none, some (.ref builtinsNs)] } = hB at kB szB ⊢
  have GB : Gl w hB := G3.keeps kB
  have I : BI hB hB nsA P kc (dObj [] 0) n₀ n₀ [] := ⟨fun b o _ _ e => e, kB _ _ hnd3, ⟨_, _, rfl, rfl⟩, K3.keeps kB, fun p hp => (nomatch hp), Nat.le_refl _⟩
  have ck : ∀ nm, cenv.kindOf nm = List.lookup nm [(Str.ofString "__module__", NameKind.local), (Str.ofString "__slots__", NameKind.local), (Str.ofString "__init__", NameKind.local), (Str.ofString "__lt__", NameKind.local), (Str.ofString "__gt__", NameKind.local), (Str.ofString "__eq__", NameKind.local), (Str.ofString "__le__", NameKind.local), (Str.ofString "__ge__", NameKind.local), (Str.ofString "__hash__", NameKind.local), (Str.ofString "mycmp", NameKind.free)] := fun nm => by unfold Env.kindOf; rw [c8]
  refine wpAny_holding ?_
  refine wpAny_bind (wpAny_enterFrame GB.nolimit (by show A'.depth < 1000; omega) ?_)
  refine wpAny_bind (wpAny_onRaise ?_)
  refine wpAny_bind (clsName (w := w) c4 (by rw [ck]; kernel_rfl) (by rw [c1]; exact I.dn) (by kernel_rfl) (by rw [c2]; exact GB.ns3) (g_name w) ?_)
  refine wpAny_bind (I.store (fun x => [en x "__module__" tk3 (.str "law_dp0028_01" 211)]) 1 c4 (.inl (by rw [ck]; kernel_rfl)) c1 (by kernel_rfl) (fun x => by kernel_rfl) fun h5 x0 I => ?_)
  refine wpAny_bind (wpAny_mkText ?_)
  refine wpAny_bind (I.store (fun x => [en x0 "__module__" tk3 (.str "law_dp0028_01" 211), en x "__qualname__" (tk3 + 1 + 1) (.str (qualnameIn env "K" "K") (tk3 + 1))]) 2 c4 (.inr ⟨by rw [ck]; kernel_rfl, by kernel_rfl⟩) c1 (by kernel_rfl) (fun x => by kernel_rfl) fun h5 x1 I => ?_)
  refine wpAny_bind (wpAny_mkInt ?_)
  refine wpAny_bind (I.store (fun x => [en x0 "__module__" tk3 (.str "law_dp0028_01" 211), en x1 "__qualname__" (tk3 + 1 + 1) (.str (qualnameIn env "K" "K") (tk3 + 1)), en x "__firstlineno__" (tk3 + 1 + 1 + 1 + 1) (.int 4 (tk3 + 1 + 1 + 1))]) 3 c4 (.inr ⟨by rw [ck]; kernel_rfl, by kernel_rfl⟩) c1 (by kernel_rfl) (fun x => by kernel_rfl) fun h5 x2 I => ?_)
  refine wpAny_pure ?_
  refine wpAny_bind (wpAny_run (codeAny_body rfl rfl ?_))
  refine hideQE fun Q2 E2 hQ2 => ?_
  refine wpAny_execs_cons (wpAny_Assign_Name (wpAny_Constant_str ?_))
  refine I.store (fun x => [en x0 "__module__" tk3 (.str "cpy313.functools" (tk3 + 1 + 1 + 1 + 1 + 1)), en x1 "__qualname__" (tk3 + 1 + 1) (.str (qualnameIn env "K" "K") (tk3 + 1)), en x2 "__firstlineno__" (tk3 + 1 + 1 + 1 + 1) (.int 4 (tk3 + 1 + 1 + 1))]) 3 c4 (.inl (by rw [ck]; kernel_rfl)) c1 (by kernel_rfl) (fun x => by kernel_rfl) fun h6 x3 I => ?_
  generalize tk3 + 1 + 1 + 1 + 1 + 1 = t5 at I ⊢
  generalize t5 + 1 + 1 = t6
  refine wpAny_execs_cons (wpAny_Assign_Name (List_ (spliced_more (wpAny_Constant_str (spliced_none (wpAny_newList ?_))))))
  have I := I.push { cls := .type "list", data := .seq [Value.str "obj" t6].toArray } rfl
  generalize h6.objs.size = sl at I ⊢
  generalize t6 + 1 = t7
  refine I.store (fun x => [en x0 "__module__" tk3 (.str "cpy313.functools" t5), en x1 "__qualname__" (tk3 + 1 + 1) (.str (qualnameIn env "K" "K") (tk3 + 1)), en x2 "__firstlineno__" (tk3 + 1 + 1 + 1 + 1) (.int 4 (tk3 + 1 + 1 + 1)), en x "__slots__" t7 (.ref sl)]) 4 c4 (.inl (by rw [ck]; kernel_rfl)) c1 (by kernel_rfl) (fun x => by kernel_rfl) fun h7 x4 I => ?_
  have sz7 := I.sz
  have hcl0 : ∀ sc : Scope, sc.names = [(Str.ofString "self", NameKind.local), (Str.ofString "obj", NameKind.local)] → closureFor sc cenv = pure [] := by
    intro sc e
    unfold closureFor cellOf
    rw [e]
    kernel_rfl
  have hcl1 : ∀ sc : Scope, sc.names = [(Str.ofString "self", NameKind.local), (Str.ofString "other", NameKind.local), (Str.ofString "mycmp", NameKind.free)] → closureFor sc cenv = pure [(("mycmp" : Str), L + 1)] := by
    intro sc e
    unfold closureFor cellOf
    rw [e, c6]
    kernel_rfl
  have hq : ∀ i, i < 6 → qualnameIn cenv (nameK i) (nameK i) = qK i := by
    intro i hi
    have e : cenv.kindOf (nameK i) = some .local := by
      rw [ck]
      match i, hi with
      | 0, _ => kernel_rfl
      | 1, _ => kernel_rfl
      | 2, _ => kernel_rfl
      | 3, _ => kernel_rfl
      | 4, _ => kernel_rfl
      | 5, _ => kernel_rfl
    unfold qualnameIn qK
    rw [e, c5]
    rfl
  refine wpAny_execs_cons (nestDef_K rfl rfl rfl (BI.def GB I (i := 0) (by omega) hn0 (fun e => e) zP z71 rfl (hq 0 (by omega)) (hcl0 _ rfl) c2 c3 fun h8 fi ci oi vi ti ctv0 doc0 tk8 I hdi hvi loi hii => ?_))
  refine I.store (fun x => [en x0 "__module__" tk3 (.str "cpy313.functools" t5), en x1 "__qualname__" (tk3 + 1 + 1) (.str (qualnameIn env "K" "K") (tk3 + 1)), en x2 "__firstlineno__" (tk3 + 1 + 1 + 1 + 1) (.int 4 (tk3 + 1 + 1 + 1)), en x4 "__slots__" t7 (.ref sl), en x "__init__" tk8 (.ref fi)]) 5 c4 (.inl (by rw [ck]; kernel_rfl)) c1 (by kernel_rfl) (fun x => by kernel_rfl) fun h9 y0 I => ?_
  have hfi := Heap.lt_size (I.ex _ (.head _)).1
  refine wpAny_execs_cons (nestDef_K rfl rfl rfl (BI.def GB I (i := 1) (by omega) (by omega) (fun e => by omega) zP z71 rfl (hq 1 (by omega)) (hcl1 _ rfl) c2 c3 fun h10 fl ci1 oi1 vi1 ti1 ctv1 doc1 tk10 I hdi1 hvi1 loi1 hii1 => ?_))
  refine I.store (fun x => [en x0 "__module__" tk3 (.str "cpy313.functools" t5), en x1 "__qualname__" (tk3 + 1 + 1) (.str (qualnameIn env "K" "K") (tk3 + 1)), en x2 "__firstlineno__" (tk3 + 1 + 1 + 1 + 1) (.int 4 (tk3 + 1 + 1 + 1)), en x4 "__slots__" t7 (.ref sl), en y0 "__init__" tk8 (.ref fi), en x "__lt__" tk10 (.ref fl)]) 6 c4 (.inl (by rw [ck]; kernel_rfl)) c1 (by kernel_rfl) (fun x => by kernel_rfl) fun h11 y1 I => ?_
  refine wpAny_execs_cons (nestDef_K rfl rfl rfl (BI.def GB I (i := 2) (by omega) (by omega) (fun e => by omega) zP z71 rfl (hq 2 (by omega)) (hcl1 _ rfl) c2 c3 fun h12 f2 ci2 oi2 vi2 ti2 ctv2 doc2 tk12 I hdi2 hvi2 loi2 hii2 => ?_))
  refine I.store (fun x => [en x0 "__module__" tk3 (.str "cpy313.functools" t5), en x1 "__qualname__" (tk3 + 1 + 1) (.str (qualnameIn env "K" "K") (tk3 + 1)), en x2 "__firstlineno__" (tk3 + 1 + 1 + 1 + 1) (.int 4 (tk3 + 1 + 1 + 1)), en x4 "__slots__" t7 (.ref sl), en y0 "__init__" tk8 (.ref fi), en y1 "__lt__" tk10 (.ref fl), en x "__gt__" tk12 (.ref f2)]) 7 c4 (.inl (by rw [ck]; kernel_rfl)) c1 (by kernel_rfl) (fun x => by kernel_rfl) fun h13 y2 I => ?_
  refine wpAny_execs_cons (nestDef_K rfl rfl rfl (BI.def GB I (i := 3) (by omega) (by omega) (fun e => by omega) zP z71 rfl (hq 3 (by omega)) (hcl1 _ rfl) c2 c3 fun h14 f3 ci3 oi3 vi3 ti3 ctv3 doc3 tk14 I hdi3 hvi3 loi3 hii3 => ?_))
  refine I.store (fun x => [en x0 "__module__" tk3 (.str "cpy313.functools" t5), en x1 "__qualname__" (tk3 + 1 + 1) (.str (qualnameIn env "K" "K") (tk3 + 1)), en x2 "__firstlineno__" (tk3 + 1 + 1 + 1 + 1) (.int 4 (tk3 + 1 + 1 + 1)), en x4 "__slots__" t7 (.ref sl), en y0 "__init__" tk8 (.ref fi), en y1 "__lt__" tk10 (.ref fl), en y2 "__gt__" tk12 (.ref f2), en x "__eq__" tk14 (.ref f3)]) 8 c4 (.inl (by rw [ck]; kernel_rfl)) c1 (by kernel_rfl) (fun x => by kernel_rfl) fun h15 y3 I => ?_
  refine wpAny_execs_cons (nestDef_K rfl rfl rfl (BI.def GB I (i := 4) (by omega) (by omega) (fun e => by omega) zP z71 rfl (hq 4 (by omega)) (hcl1 _ rfl) c2 c3 fun h16 f4 ci4 oi4 vi4 ti4 ctv4 doc4 tk16 I hdi4 hvi4 loi4 hii4 => ?_))
  refine I.store (fun x => [en x0 "__module__" tk3 (.str "cpy313.functools" t5), en x1 "__qualname__" (tk3 + 1 + 1) (.str (qualnameIn env "K" "K") (tk3 + 1)), en x2 "__firstlineno__" (tk3 + 1 + 1 + 1 + 1) (.int 4 (tk3 + 1 + 1 + 1)), en x4 "__slots__" t7 (.ref sl), en y0 "__init__" tk8 (.ref fi), en y1 "__lt__" tk10 (.ref fl), en y2 "__gt__" tk12 (.ref f2), en y3 "__eq__" tk14 (.ref f3), en x "__le__" tk16 (.ref f4)]) 9 c4 (.inl (by rw [ck]; kernel_rfl)) c1 (by kernel_rfl) (fun x => by kernel_rfl) fun h17 y4 I => ?_
  refine wpAny_execs_cons (nestDef_K rfl rfl rfl (BI.def GB I (i := 5) (by omega) (by omega) (fun e => by omega) zP z71 rfl (hq 5 (by omega)) (hcl1 _ rfl) c2 c3 fun h18 f5 ci5 oi5 vi5 ti5 ctv5 doc5 tk18 I hdi5 hvi5 loi5 hii5 => ?_))
  refine I.store (fun x => [en x0 "__module__" tk3 (.str "cpy313.functools" t5), en x1 "__qualname__" (tk3 + 1 + 1) (.str (qualnameIn env "K" "K") (tk3 + 1)), en x2 "__firstlineno__" (tk3 + 1 + 1 + 1 + 1) (.int 4 (tk3 + 1 + 1 + 1)), en x4 "__slots__" t7 (.ref sl), en y0 "__init__" tk8 (.ref fi), en y1 "__lt__" tk10 (.ref fl), en y2 "__gt__" tk12 (.ref f2), en y3 "__eq__" tk14 (.ref f3), en y4 "__le__" tk16 (.ref f4), en x "__ge__" tk18 (.ref f5)]) 10 c4 (.inl (by rw [ck]; kernel_rfl)) c1 (by kernel_rfl) (fun x => by kernel_rfl) fun h19 y5 I => ?_
  refine wpAny_execs_cons (wpAny_Assign_Name (wpAny_Constant_none ?_))
  refine I.store (fun x => [en x0 "__module__" tk3 (.str "cpy313.functools" t5), en x1 "__qualname__" (tk3 + 1 + 1) (.str (qualnameIn env "K" "K") (tk3 + 1)), en x2 "__firstlineno__" (tk3 + 1 + 1 + 1 + 1) (.int 4 (tk3 + 1 + 1 + 1)), en x4 "__slots__" t7 (.ref sl), en y0 "__init__" tk8 (.ref fi), en y1 "__lt__" tk10 (.ref fl), en y2 "__gt__" tk12 (.ref f2), en y3 "__eq__" tk14 (.ref f3), en y4 "__le__" tk16 (.ref f4), en y5 "__ge__" tk18 (.ref f5), en x "__hash__" (tk18 + 1) .none]) 11 c4 (.inl (by rw [ck]; kernel_rfl)) c1 (by kernel_rfl) (fun x => by kernel_rfl) fun h20 y6 I => ?_
  refine wpAny_execs_nil (hQ2 _ _ ?_)
  refine wpAny_bind (wpAny_onRaise ?_)
  refine wpAny_bind (statics1 ?_)
  refine wpAny_bind (wpAny_newTextTuple ?_)
  have I := I.push { cls := .type "tuple", data := .seq [Value.str "obj" (tk18 + 1 + 1)].toArray } rfl
  generalize h20.objs.size = st at I ⊢
  refine wpAny_bind (I.store (fun x => [en x0 "__module__" tk3 (.str "cpy313.functools" t5), en x1 "__qualname__" (tk3 + 1 + 1) (.str (qualnameIn env "K" "K") (tk3 + 1)), en x2 "__firstlineno__" (tk3 + 1 + 1 + 1 + 1) (.int 4 (tk3 + 1 + 1 + 1)), en x4 "__slots__" t7 (.ref sl), en y0 "__init__" tk8 (.ref fi), en y1 "__lt__" tk10 (.ref fl), en y2 "__gt__" tk12 (.ref f2), en y3 "__eq__" tk14 (.ref f3), en y4 "__le__" tk16 (.ref f4), en y5 "__ge__" tk18 (.ref f5), en y6 "__hash__" (tk18 + 1) .none, en x "__static_attributes__" (tk18 + 1 + 1 + 1) (.ref st)]) 12 c4 (.inr ⟨by rw [ck]; kernel_rfl, by kernel_rfl⟩) c1 (by kernel_rfl) (fun x => by kernel_rfl) fun h21 y7 I => ?_)
  refine wpAny_pure ?_
  refine wpAny_ite_false rfl ?_
  obtain ⟨B, hB0⟩ : ∃ B : NB, B = { hh := fun i => match i with | 0 => x0 | 13 => x1 | 1 => x2 | 2 => x4 | 3 => y0 | 4 => y1 | 5 => y2 | 6 => y3 | 7 => y4 | 8 => y5 | 9 => y6 | _ => y7, tt := fun i => match i with | 0 => tk3 | 13 => tk3 + 1 + 1 | 14 => tk3 + 1 | 1 => tk3 + 1 + 1 + 1 + 1 | 2 => t7 | 3 => tk8 | 4 => tk10 | 5 => tk12 | 6 => tk14 | 7 => tk16 | 8 => tk18 | 9 => tk18 + 1 | _ => tk18 + 1 + 1 + 1, vv := fun i => match i with | 0 => .str "cpy313.functools" t5 | 1 => .int 4 (tk3 + 1 + 1 + 1) | 3 => .ref fi | 4 => .ref fl | 5 => .ref f2 | 6 => .ref f3 | 7 => .ref f4 | 8 => .ref f5 | 9 => .none | _ => .ref st, sl := sl, ep := 12, qual := qualnameIn env "K" "K" } := ⟨_, rfl⟩
  have hnB : h21.get? nsA = some ⟨.type "dict", none, .dict B.es.toArray B.ep, #[]⟩ := by rw [hB0]; exact I.dn
  obtain ⟨ps3, C3, hP3, ht3, _⟩ := K3
  have nP : ∀ b o, hB.get? b = some o → o.cls ≠ .none → @Ne Nat b P := fun b o e hc q => by
    rw [q, kB _ _ hP3] at e
    cases e
    exact hc rfl
  have hbTB := kB _ _ hbT3
  have hbT21 := I.keep bT _ (by omega) (.inr (nP _ _ hbTB (by decide))) hbTB
  have szz : @LT.lt Nat _ nsA hB.objs.size := Nat.lt_of_lt_of_le (Heap.lt_size hnd3) szB
  have G21 : Gl w h21 := GB.keepsLt fun b o hb _ _ e => I.keep b o (by omega) (.inr (by omega)) e
  have fn : ∀ a o, h21.get? a = some o → o.cls = .type "function" → NoSet h21 (.ref a) := fun a o e hc => NoSet.ref ⟨o, e, hc⟩ (by rw [typeLookup_type, builtinLookup_eq_fast]; kernel_rfl)
  have hv : ∀ i ∈ [0, 1, 3, 4, 5, 6, 7, 8, 9, 10], NoSet h21 (B.vv i) := by
    rw [hB0]
    refine List.forall_mem_cons.mpr ⟨NoSet.val (T := "str") (fun _ _ => rfl) rfl (by rw [typeLookup_type, builtinLookup_eq_fast]; kernel_rfl), ?_⟩
    refine List.forall_mem_cons.mpr ⟨NoSet.val (T := "int") (fun _ _ => rfl) rfl (by rw [typeLookup_type, builtinLookup_eq_fast]; kernel_rfl), ?_⟩
    refine List.forall_mem_cons.mpr ⟨fn fi _ (I.ex (fi, _) (by repeat (first | exact List.Mem.head _ | apply List.Mem.tail))).1 rfl, ?_⟩
    refine List.forall_mem_cons.mpr ⟨fn fl _ (I.ex (fl, _) (by repeat (first | exact List.Mem.head _ | apply List.Mem.tail))).1 rfl, ?_⟩
    refine List.forall_mem_cons.mpr ⟨fn f2 _ (I.ex (f2, _) (by repeat (first | exact List.Mem.head _ | apply List.Mem.tail))).1 rfl, ?_⟩
    refine List.forall_mem_cons.mpr ⟨fn f3 _ (I.ex (f3, _) (by repeat (first | exact List.Mem.head _ | apply List.Mem.tail))).1 rfl, ?_⟩
    refine List.forall_mem_cons.mpr ⟨fn f4 _ (I.ex (f4, _) (by repeat (first | exact List.Mem.head _ | apply List.Mem.tail))).1 rfl, ?_⟩
    refine List.forall_mem_cons.mpr ⟨fn f5 _ (I.ex (f5, _) (by repeat (first | exact List.Mem.head _ | apply List.Mem.tail))).1 rfl, ?_⟩
    refine List.forall_mem_cons.mpr ⟨NoSet.val (T := "NoneType") (fun _ _ => rfl) rfl (by rw [typeLookup_type, builtinLookup_eq_fast]; kernel_rfl), ?_⟩
    refine List.forall_mem_cons.mpr ⟨NoSet.ref (T := "tuple") ⟨_, (I.ex (st, _) (by repeat (first | exact List.Mem.head _ | apply List.Mem.tail))).1, rfl⟩ (by rw [typeLookup_type, builtinLookup_eq_fast]; kernel_rfl), ?_⟩
    exact fun e he => (nomatch he)
  have hsl : h21.IsList B.sl [Value.str "obj" t6].toArray := by
    rw [hB0]
    exact ⟨_, (I.ex (sl, _) (by repeat (first | exact List.Mem.head _ | apply List.Mem.tail))).1, rfl, _, rfl⟩
  refine wpAny_bind (tcall h21 _ _ _ _ bT nsA _ t6 B hbT21 hnB hsys hsl G21 (by rw [hB0]; exact hqn) hv fun h' c ns' md x y tk' u u' u'' q1 q2 q3 q4 q5 q6 q7 => ?_)
  refine wpAny_pure ?_
  refine stp (.ref c) rfl ?_
  refine wpAny_bind (wpAny_standAt ?_)
  refine wpAny_bind (wpAny_bindName ?_)
  have hL16 : @Ne Nat L 16 := by omega
  obtain ⟨oL, esL, epL, hoL, hdL, rL⟩ := hns
  have hcL : oL.cls ≠ .none ∨ True := .inr trivial
  have hoL3 : h3.get? L = some oL := k3 L _ (.inr hL16) (k2 _ _ hoL)
  have nLP : @Ne Nat L P := fun q => by
    rw [q, hP3] at hoL3
    cases hoL3
    cases hdL
  have hoL' : h'.get? L = some oL := q1 _ _ (I.keep L _ (by omega) (.inr nLP) (kB _ _ hoL3))
  have nsL : h'.Ns env.locals (fun _ => none) := by rw [v1]; exact ⟨oL, esL, epL, hoL', hdL, rL⟩
  refine wpAny_storeName_local v7 nsL (fun h'' hn'' hs'' => ?_) (by show (env.scope.kind == .class || (env.scope.kind == .module && env.locals != env.globals)) = false; rw [v5]; rfl)
  refine wpAny_pure ?_
  rw [v1] at hs''
  refine wpAny_execs_cons (wpAny_Return_some (lname hn'' (if_pos rfl) ?_ v5 v7))
  have sz21 := I.sz
  have kk : ∀ b o, @Ne Nat b L → h'.get? b = some o → h''.get? b = some o := fun b o hb e => (hs''.2 b hb).trans e
  have hcc : h3.IsCell (L + 1) (some (.ref f)) := by
    obtain ⟨oc, ho, hd⟩ := hcell'
    exact ⟨oc, k3 _ _ (.inr (by omega)) (k2 _ _ ho), hd⟩
  obtain ⟨occ, hocc, hdcc⟩ := hcc
  have nCP : @Ne Nat (L + 1) P := fun q => by
    rw [q, hP3] at hocc
    cases hocc
    cases hdcc
  have hcell'' : h''.IsCell (L + 1) (some (.ref f)) := ⟨occ, kk _ _ (by omega) (q1 _ _ (I.keep _ _ (by omega) (.inr nCP) (kB _ _ hocc))), hdcc⟩
  have efi := (I.ex (fi, _) (by repeat (first | exact List.Mem.head _ | apply List.Mem.tail))).1
  have efl := (I.ex (fl, _) (by repeat (first | exact List.Mem.head _ | apply List.Mem.tail))).1
  have eci := (I.ex (ci, _) (by repeat (first | exact List.Mem.head _ | apply List.Mem.tail))).1
  have ecl := (I.ex (ci1, _) (by repeat (first | exact List.Mem.head _ | apply List.Mem.tail))).1
  have lfl := Heap.lt_size efl
  rw [show qualnameIn cenv (Str.ofString "__init__") (Str.ofString "__init__") = qK 0 from hq 0 (by omega)] at efi
  rw [show qualnameIn cenv (Str.ofString "__lt__") (Str.ofString "__lt__") = qK 1 from hq 1 (by omega)] at efl
  have zfi : @LT.lt Nat _ L fi := by omega
  have zfl : @LT.lt Nat _ fi fl := Nat.lt_of_lt_of_le hfi loi1
  have nci : @Ne Nat ci L := fun q => by
    rw [q, show h21.get? L = some oL from I.keep L _ (by omega) (.inr nLP) (kB _ _ hoL3)] at eci
    cases eci
    rw [hdL] at hdi; cases hdi
  have ncl : @Ne Nat ci1 L := fun q => by
    rw [q, show h21.get? L = some oL from I.keep L _ (by omega) (.inr nLP) (kB _ _ hoL3)] at ecl
    cases ecl
    rw [hdL] at hdi1; cases hdi1
  have lns : @LT.lt Nat _ L ns' := by omega
  obtain ⟨D, hD⟩ : ∃ D : KD, D = { c := c, ns := ns', fi := fi, fl := fl, md := md, cell := L + 1, hh := fun i => match i with | 11 => x | 12 => y | i => B.hh i, tt := fun i => match i with | 11 => u | 12 => u' | 30 => 3 | 31 => u'' | i => B.tt i, vv := fun i => match i with | 2 => .ref sl | 12 => .none | 20 => .ref bT | 22 => .str "K" tk1 | 23 => .str B.qual (B.tt 14) | 25 => .bool false | 32 => (mgl w "__name__").getD .none | 33 => .ref ci | 34 => ctv0 | 35 => (mgl w "__name__").getD .none | 36 => .ref ci1 | 37 => ctv1 | 38 => doc0 | 39 => doc1 | i => B.vv i, qual := B.qual, qi := qK 0, ql := qK 1 } := ⟨_, rfl⟩
  have KA : KAt w h'' D f := by
    refine ⟨fun a o e => ?_, ?_, ?_, ?_, ?_, ?_, ?_, ?_⟩
    · have hm := mem_of_lookupK e
      rw [hD, hB0] at hm
      simp only [KD.fr, List.mem_cons, List.not_mem_nil, or_false, Prod.mk.injEq] at hm
      rcases hm with ⟨rfl, rfl⟩ | ⟨rfl, rfl⟩ | ⟨rfl, rfl⟩ | ⟨rfl, rfl⟩ | ⟨rfl, rfl⟩
      · rw [hB0] at q2; exact kk _ _ (by omega) q2
      · rw [hB0] at q3; exact kk _ _ (by omega) q3
      · exact kk _ _ (by omega) q4
      · exact kk _ _ (by omega) (q1 _ _ efi)
      · exact kk _ _ (by omega) (q1 _ _ efl)
    · rw [hD]; exact zfl
    · rw [hD]; exact Nat.lt_of_lt_of_le lfl q5
    · rw [hD]; exact q6
    · rw [hD]; exact q7
    · rw [hD]; exact ⟨ci, oi, vi, ti, rfl, kk _ _ nci (q1 _ _ eci), hdi, hvi⟩
    · rw [hD]; exact ⟨ci1, oi1, vi1, ti1, rfl, kk _ _ ncl (q1 _ _ ecl), hdi1, hvi1⟩
    · rw [hD]; exact hcell''
  have hDc : D.c = c := by rw [hD]
  rw [← hDc]
  refine hQ1 _ _ ?_
  refine k _ D (fun b o hb e => ?_) rfl rfl (.inr ⟨rfl, kc, P, ?_, ?_, zP⟩) KA (by rw [hD]; show @LT.lt Nat _ _ fi; omega) (by rw [hD]; show @LT.lt Nat _ _ (L + 1); omega)
  · have hbs : @LT.lt Nat _ b s.heap.objs.size := Heap.lt_size e
    refine kk _ _ (by omega) (q1 _ _ (I.keep b o (by omega) ?_ (kB _ _ (k3 b o hb (k2 _ _ (hk1 _ _ e))))))
    rcases hnP with h6 | hle
    · exact .inl h6
    · exact .inr (by have t1 : @LT.lt Nat _ nsA h2.objs.size := Heap.lt_size hnd; omega)
  · exact kk _ _ (by omega) (q1 _ _ (I.keep 16 _ (by omega) (.inr (by omega)) (kB _ _ e16)))
  · have hkt := I.kt
    have e6 : max (max (max (max (max (max n₀ (0 + 1)) (1 + 1)) (2 + 1)) (3 + 1)) (4 + 1)) (5 + 1) = 6 := by omega
    rw [e6] at hkt
    exact (hkt.keeps q1).same hoL' hdL hs''
end
end Mine
end
/-! part M1 -/
noncomputable section
namespace Mine
/-- p lies behind o in the order of tuples -/
def Hp (o p : Int × Int) : Prop := o.1 < p.1 ∨ (o.1 = p.1 ∧ o.2 < p.2)
theorem pos_of {a b : Int} (h : 0 < a) (h2 : 0 < a * b) : 0 < b := by
  rcases Int.lt_trichotomy b 0 with h3 | h3 | h3
  · have := Int.mul_neg_of_pos_of_neg h h3; omega
  · rw [h3] at h2; simp at h2
  · exact h3
theorem nn_of {a b : Int} (h : 0 < a) (h2 : 0 ≤ a * b) : 0 ≤ b := Int.nonneg_of_mul_nonneg_right h2 h
theorem le_of {a b c : Int} (h : 0 < a) (h2 : a * b ≤ a * c) : b ≤ c := Int.le_of_mul_le_mul_left h2 h
theorem tr1 {o b c p : Int × Int} (hb : Hp o b) (hc : Hp o c) (hp : Hp o p) (h1 : 0 < turn o b c) (h2 : 0 ≤ turn o c p) : 0 < turn o b p := by
  obtain ⟨o1, o2⟩ := o; obtain ⟨b1, b2⟩ := b; obtain ⟨c1, c2⟩ := c; obtain ⟨p1, p2⟩ := p
  simp only [Hp, turn] at *
  have e : (c1 - o1) * ((b1 - o1) * (p2 - o2) - (b2 - o2) * (p1 - o1)) = (b1 - o1) * ((c1 - o1) * (p2 - o2) - (c2 - o2) * (p1 - o1)) + (p1 - o1) * ((b1 - o1) * (c2 - o2) - (b2 - o2) * (c1 - o1)) := by grind
  have hb1 : 0 ≤ b1 - o1 := by omega
  have hp1 : 0 ≤ p1 - o1 := by omega
  have hc1 : 0 ≤ c1 - o1 := by omega
  by_cases c0 : 0 < c1 - o1
  · refine pos_of c0 ?_
    rw [e]
    have t1 := Int.mul_nonneg hb1 h2
    by_cases p0 : 0 < p1 - o1
    · have := Int.mul_pos p0 h1; omega
    · have p00 : p1 - o1 = 0 := by omega
      have p20 : 0 < p2 - o2 := by omega
      by_cases b0 : 0 < b1 - o1
      · have t3 := Int.mul_pos b0 p20
        have t4 := Int.mul_pos c0 t3
        have : (b1 - o1) * ((c1 - o1) * (p2 - o2) - (c2 - o2) * (p1 - o1)) = (c1 - o1) * ((b1 - o1) * (p2 - o2)) := by rw [p00]; grind
        rw [this, p00]
        omega
      · have b00 : b1 - o1 = 0 := by omega
        have b20 : 0 < b2 - o2 := by omega
        have := Int.mul_pos b20 c0
        rw [b00] at h1
        omega
  · have c00 : c1 - o1 = 0 := by omega
    have c20 : 0 < c2 - o2 := by omega
    rw [c00] at h1 h2
    have hbp : 0 < b1 - o1 := by
      refine pos_of c20 ?_
      have : (c2 - o2) * (b1 - o1) = (b1 - o1) * (c2 - o2) := Int.mul_comm _ _
      rw [this]; simpa using h1
    have hp0 : p1 - o1 = 0 := by
      by_cases p0 : 0 < p1 - o1
      · have := Int.mul_pos c20 p0; simp at h2; omega
      · omega
    have p20 : 0 < p2 - o2 := by omega
    have := Int.mul_pos hbp p20
    rw [hp0]; simpa using this
theorem par0 {o c p q : Int × Int} (hc : Hp o c) (hp : Hp o p) (h1 : turn o c p = 0) (h2 : 0 ≤ turn o c q) : 0 ≤ turn o p q := by
  obtain ⟨o1, o2⟩ := o; obtain ⟨c1, c2⟩ := c; obtain ⟨p1, p2⟩ := p; obtain ⟨q1, q2⟩ := q
  simp only [Hp, turn] at *
  have hp1 : 0 ≤ p1 - o1 := by omega
  have e : (c1 - o1) * ((p1 - o1) * (q2 - o2) - (p2 - o2) * (q1 - o1)) = (p1 - o1) * ((c1 - o1) * (q2 - o2) - (c2 - o2) * (q1 - o1)) - (q1 - o1) * ((c1 - o1) * (p2 - o2) - (c2 - o2) * (p1 - o1)) := by grind
  by_cases c0 : 0 < c1 - o1
  · refine nn_of c0 ?_
    rw [e, h1]
    have := Int.mul_nonneg hp1 h2
    simpa using this
  · have c00 : c1 - o1 = 0 := by omega
    have c20 : 0 < c2 - o2 := by omega
    rw [c00] at h1 h2
    have hp0 : p1 - o1 = 0 := by
      by_cases p0 : 0 < p1 - o1
      · have := Int.mul_pos c20 p0; simp at h1; omega
      · omega
    have p20 : 0 < p2 - o2 := by omega
    have hq : q1 - o1 ≤ 0 := by
      by_cases q0 : 0 < q1 - o1
      · have := Int.mul_pos c20 q0; simp at h2; omega
      · omega
    rw [hp0]
    have := Int.mul_nonneg (Int.le_of_lt p20) (show 0 ≤ -(q1 - o1) by omega)
    rw [Int.mul_neg] at this
    simp
    omega
theorem far_nn (a b : Int × Int) : 0 ≤ far a b := by unfold far; split <;> split <;> omega
theorem far_self (a : Int × Int) : far a a = 0 := by unfold far; simp
theorem far_pos {o b : Int × Int} (h : Hp o b) : 0 < far o b := by
  unfold far Hp at *; split <;> split <;> omega
/-- two points in one direction -/
theorem par1 {o b q : Int × Int} (hb : Hp o b) (hq : q = o ∨ Hp o q) (h : turn o b q = 0) : far o b * (q.1 - o.1) = far o q * (b.1 - o.1) ∧ far o b * (q.2 - o.2) = far o q * (b.2 - o.2) := by
  rcases hq with rfl | hq
  · rw [far_self]; simp
  obtain ⟨o1, o2⟩ := o; obtain ⟨b1, b2⟩ := b; obtain ⟨q1, q2⟩ := q
  simp only [Hp, turn, far] at *
  by_cases b0 : b1 - o1 = 0
  · have b20 : 0 < b2 - o2 := by omega
    rw [b0] at h
    have q0 : q1 - o1 = 0 := by
      by_cases p0 : 0 < q1 - o1
      · have := Int.mul_pos b20 p0; simp at h; omega
      · omega
    have q20 : 0 < q2 - o2 := by omega
    have x1 : (if o1 - b1 < 0 then -(o1 - b1) else o1 - b1) = 0 := by split <;> omega
    have x2 : (if o1 - q1 < 0 then -(o1 - q1) else o1 - q1) = 0 := by split <;> omega
    have x3 : (if o2 - b2 < 0 then -(o2 - b2) else o2 - b2) = b2 - o2 := by split <;> omega
    have x4 : (if o2 - q2 < 0 then -(o2 - q2) else o2 - q2) = q2 - o2 := by split <;> omega
    rw [x1, x2, x3, x4, b0, q0]
    constructor
    · simp
    · grind
  · have bp : 0 < b1 - o1 := by omega
    have q0 : 0 < q1 - o1 := by
      by_cases p0 : q1 - o1 = 0
      · have q20 : 0 < q2 - o2 := by omega
        have := Int.mul_pos bp q20
        rw [p0] at h; simp at h; omega
      · omega
    have x1 : (if o1 - b1 < 0 then -(o1 - b1) else o1 - b1) = b1 - o1 := by split <;> omega
    have x2 : (if o1 - q1 < 0 then -(o1 - q1) else o1 - q1) = q1 - o1 := by split <;> omega
    rw [x1, x2]
    have e : (b1 - o1) * (q2 - o2) = (b2 - o2) * (q1 - o1) := by omega
    by_cases s : b2 - o2 < 0
    · have q2n : q2 - o2 < 0 := by
        have t := Int.mul_pos (show 0 < -(b2 - o2) by omega) q0
        rw [Int.neg_mul] at t
        have := pos_of bp (b := -(q2 - o2)) (by rw [Int.mul_neg]; omega)
        omega
      have x3 : (if o2 - b2 < 0 then -(o2 - b2) else o2 - b2) = o2 - b2 := by split <;> omega
      have x4 : (if o2 - q2 < 0 then -(o2 - q2) else o2 - q2) = o2 - q2 := by split <;> omega
      rw [x3, x4]
      constructor <;> grind
    · have q2n : 0 ≤ q2 - o2 := by
        have t := Int.mul_nonneg (show 0 ≤ b2 - o2 by omega) (Int.le_of_lt q0)
        exact nn_of bp (by omega)
      have x3 : (if o2 - b2 < 0 then -(o2 - b2) else o2 - b2) = b2 - o2 := by split <;> omega
      have x4 : (if o2 - q2 < 0 then -(o2 - q2) else o2 - q2) = q2 - o2 := by split <;> omega
      rw [x3, x4]
      constructor <;> grind
end Mine
end
/-! part M2 -/
noncomputable section
namespace Mine
abbrev P2 := Int × Int
theorem absE (x : Int) : (if x < 0 then -x else x) = (x.natAbs : Int) := by split <;> omega
theorem far_eq (a b : P2) : far a b = ((a.1 - b.1).natAbs : Int) + ((a.2 - b.2).natAbs : Int) := by unfold far; rw [absE, absE]
/-- a scaled vector is no longer -/
theorem scale1 {γ β x d : Int} (hγ : 0 < γ) (h0 : 0 ≤ β) (h1 : β ≤ γ) (e : γ * x = β * d) : (x.natAbs : Int) ≤ d.natAbs := by
  have e1 : γ.natAbs * x.natAbs = β.natAbs * d.natAbs := by rw [← Int.natAbs_mul, ← Int.natAbs_mul, e]
  have h2 : β.natAbs ≤ γ.natAbs := by omega
  have h3 : β.natAbs * d.natAbs ≤ γ.natAbs * d.natAbs := Nat.mul_le_mul_right _ h2
  rw [← e1] at h3
  have := Nat.le_of_mul_le_mul_left h3 (by omega)
  omega
def Ed (b p q : P2) : Prop := 0 ≤ turn b p q ∧ (turn b p q = 0 → far b q ≤ far b p)
def leO (o a b : P2) : Prop := 0 < turn o a b ∨ (turn o a b = 0 ∧ far o a ≤ far o b)
theorem leO.nn {o a b : P2} (h : leO o a b) : 0 ≤ turn o a b := by rcases h with h | h <;> omega
theorem turn_cyc (a b c : P2) : turn a b c = turn b c a := by unfold turn; grind
theorem turn_sw (a b c : P2) : turn a c b = - turn a b c := by unfold turn; grind
theorem far1 {o b p q : P2} (h : turn b p q = 0) (h1 : 0 < turn o b p) (h2 : 0 ≤ turn o b q) (h3 : turn o p q ≤ 0) : far b q ≤ far b p := by
  have e1 : turn o b p * (q.1 - b.1) = turn o b q * (p.1 - b.1) := by unfold turn at *; grind
  have e2 : turn o b p * (q.2 - b.2) = turn o b q * (p.2 - b.2) := by unfold turn at *; grind
  have e3 : turn o b q ≤ turn o b p := by
    have : turn o p q = turn o b q - turn o b p + turn b p q := by unfold turn; grind
    omega
  have s1 := scale1 h1 h2 e3 e1
  have s2 := scale1 h1 h2 e3 e2
  rw [far_eq, far_eq]
  omega
/-- the top below a new point that turns left lies in a lesser direction -/
theorem lem5 {o a b p : P2} (hb : Hp o b) (hp : Hp o p) (hbp : leO o b p) (ha : a = o ∨ 0 < turn o a b) (ht : 0 < turn a b p) : 0 < turn o b p := by
  rcases ha with rfl | ha
  · exact ht
  rcases hbp with h | ⟨h, hf⟩
  · exact h
  exfalso
  obtain ⟨e1, e2⟩ := par1 hb (.inr hp) h
  have hfb := far_pos hb
  have e3 : far o b * turn o a p = far o p * turn o a b := by unfold turn; grind
  have e4 : turn a b p = turn o b p + turn o a b - turn o a p := by unfold turn; grind
  have e5 : turn o a b ≤ turn o a p := by
    refine le_of hfb ?_
    rw [e3]
    exact Int.mul_le_mul_of_nonneg_right hf (Int.le_of_lt ha)
  omega
/-- leftness goes down the chain -/
theorem lemD {o a b c p : P2} (h1 : 0 < turn b c p) (h2 : 0 < turn a b c) (h3 : 0 < turn o b c) (h4 : 0 < turn o b p) (h5 : a = o ∨ 0 < turn o a b) : 0 < turn a b p := by
  rcases h5 with rfl | h5
  · exact h4
  have e : turn o b c * turn a b p = turn a b c * turn o b p + turn b c p * turn o a b := by unfold turn; grind
  refine pos_of h3 ?_
  rw [e]
  have := Int.mul_pos h2 h4
  have := Int.mul_pos h1 h5
  omega
/-- above the new edge: by the popped point -/
theorem lemU {o b c p q : P2} (h1 : turn b c p ≤ 0) (h2 : 0 ≤ turn b c q) (h3 : 0 < turn o b c) (h4 : 0 < turn o b p) (h5 : 0 ≤ turn o b q) : 0 ≤ turn b p q := by
  have e : turn o b c * turn b p q = (-turn b c p) * turn o b q + turn b c q * turn o b p := by unfold turn; grind
  refine nn_of h3 ?_
  rw [e]
  have := Int.mul_nonneg (show 0 ≤ -turn b c p by omega) h5
  have := Int.mul_nonneg h2 (Int.le_of_lt h4)
  omega
/-- above the new edge: by the greatest point so far -/
theorem lemM {o b p q : P2} (hb : Hp o b) (hq : q = o ∨ Hp o q) (h : turn o b q = 0) (hf : far o q ≤ far o b) (h4 : 0 < turn o b p) : 0 ≤ turn b p q := by
  obtain ⟨e1, e2⟩ := par1 hb hq h
  have hfb := far_pos hb
  have e3 : far o b * turn b p q = (far o b - far o q) * turn o b p := by unfold turn at *; grind
  refine nn_of hfb ?_
  rw [e3]
  exact Int.mul_nonneg (by omega) (Int.le_of_lt h4)
/-- below the new edge -/
theorem lemB {o a b p q : P2} (h1 : 0 < turn a b p) (h2 : 0 ≤ turn a b q) (h3 : a = o ∨ 0 < turn o a b) (h4 : 0 < turn o b p) (h5 : turn o b q < 0) : 0 < turn b p q := by
  rcases h3 with rfl | h3
  · omega
  have e : turn o a b * turn b p q = turn a b q * turn o b p + turn a b p * (-turn o b q) := by unfold turn; grind
  refine pos_of h3 ?_
  rw [e]
  have := Int.mul_nonneg h2 (Int.le_of_lt h4)
  have := Int.mul_pos h1 (show 0 < -turn o b q by omega)
  omega
/-- the closing edge -/
theorem lemC {o p q : P2} (hp : Hp o p) (hq : q = o ∨ (Hp o q ∧ leO o q p)) : Ed p o q := by
  have e0 : turn p o q = turn o q p := by unfold turn; grind
  rcases hq with rfl | ⟨hq, hl⟩
  · refine ⟨by unfold turn; grind, fun _ => Int.le_refl _⟩
  refine ⟨by rw [e0]; exact hl.nn, fun h => ?_⟩
  rw [e0] at h
  have hf : far o q ≤ far o p := by rcases hl with h' | ⟨_, h'⟩; omega; exact h'
  obtain ⟨e1, e2⟩ := par1 hp (.inr hq) (by rw [turn_sw]; omega)
  have hfp := far_pos hp
  have s1 := scale1 (x := p.1 - q.1) (d := p.1 - o.1) hfp (show 0 ≤ far o p - far o q by omega) (by have := far_nn o q; omega) (by grind)
  have s2 := scale1 (x := p.2 - q.2) (d := p.2 - o.2) hfp (show 0 ≤ far o p - far o q by omega) (by have := far_nn o q; omega) (by grind)
  rw [far_eq, far_eq]
  omega
end Mine
end
/-! part M3 -/
noncomputable section
namespace Mine
/-- the kept points, the last first: each edge has all of Q on its left -/
noncomputable def Chain (o : P2) (Q : List P2) : List P2 → Prop
  | [] => False
  | [x] => x = o
  | p :: b :: R => Hp o p ∧ (∀ q ∈ Q, Ed b p q) ∧ (b = o ∨ 0 < turn o b p) ∧ (∀ a R', R = a :: R' → 0 < turn a b p) ∧ Chain o Q (b :: R)
theorem Chain.ext {o p : P2} {Q : List P2} (hp : Hp o p) : ∀ {R : List P2} {b : P2}, Chain o Q (b :: R) → (∀ a R', R = a :: R' → 0 < turn a b p) → (b = o ∨ 0 < turn o b p) → Chain o (p :: Q) (b :: R)
  | [], b, h, _, _ => h
  | [a], b, ⟨h1, h2, h3, h4, h5⟩, ht, hb => by
    refine ⟨h1, fun q hq => ?_, h3, h4, h5⟩
    rcases List.mem_cons.mp hq with rfl | hq
    · have := ht a [] rfl; exact ⟨by omega, fun e => by omega⟩
    · exact h2 q hq
  | a :: a' :: R, b, ⟨h1, h2, h3, h4, h5⟩, ht, hb => by
    have tab := ht a (a' :: R) rfl
    obtain ⟨g1, g2, g3, g4, g5⟩ := id h5
    have hao : ¬ a = o := by rintro rfl; unfold Hp at g1; omega
    have hbo : ¬ b = o := by rintro rfl; unfold Hp at h1; omega
    have oab := h3.resolve_left hao
    have obp := hb.resolve_left hbo
    have oap : 0 < turn o a p := tr1 g1 h1 hp oab (Int.le_of_lt obp)
    refine ⟨h1, fun q hq => ?_, h3, h4, Chain.ext hp h5 (fun x R' e => ?_) (.inr oap)⟩
    · rcases List.mem_cons.mp hq with rfl | hq
      · exact ⟨by omega, fun e => by omega⟩
      · exact h2 q hq
    · cases e
      exact lemD tab (h4 a' R rfl) oab oap g3
/-- the new edge, when the pops have ended -/
theorem Chain.push {o p : P2} {Q : List P2} (hQ : ∀ q ∈ Q, q = o ∨ (Hp o q ∧ leO o q p)) (hp : Hp o p) {R : List P2} {b : P2} (C : Chain o Q (b :: R)) (hbQ : b = o ∨ leO o b p) (ht : ∀ a R', R = a :: R' → 0 < turn a b p)
    (hU : ∀ q ∈ Q, 0 ≤ turn o b q → (b = o ∨ 0 < turn o b p) → 0 ≤ turn b p q ∧ (b = o → turn o p q = 0 → far o q ≤ far o p)) : Chain o (p :: Q) (p :: b :: R) := by
  cases R with
  | nil =>
    have hbo : b = o := C
    subst hbo
    refine ⟨hp, fun q hq => ?_, .inl rfl, ht, rfl⟩
    rcases List.mem_cons.mp hq with rfl | hq
    · exact ⟨by unfold turn; grind, fun _ => Int.le_refl _⟩
    · have z : turn b b q = 0 := by unfold turn; grind
      obtain ⟨u1, u2⟩ := hU q hq (by omega) (.inl rfl)
      exact ⟨u1, fun e => u2 rfl e⟩
  | cons a R =>
    obtain ⟨h1, h2, h3, h4, h5⟩ := id C
    have hbo : ¬ b = o := by rintro rfl; unfold Hp at h1; omega
    have tab := ht a R rfl
    have obp := lem5 h1 hp (hbQ.resolve_left hbo) h3 tab
    refine ⟨hp, fun q hq => ?_, .inr obp, ht, Chain.ext hp C ht (.inr obp)⟩
    rcases List.mem_cons.mp hq with rfl | hq
    · exact ⟨by unfold turn; grind, fun _ => Int.le_refl _⟩
    by_cases hs : 0 ≤ turn o b q
    · obtain ⟨u1, _⟩ := hU q hq hs (.inr obp)
      refine ⟨u1, fun e => far1 e obp hs ?_⟩
      rcases hQ q hq with rfl | ⟨_, hl⟩
      · unfold turn; grind
      · have := hl.nn; rw [turn_sw]; omega
    · have := lemB tab (h2 q hq).1 h3 obp (by omega)
      exact ⟨by omega, fun e => by omega⟩
/-- what the pops leave -/
theorem Chain.pop {o p : P2} {Q : List P2} (hQ : ∀ q ∈ Q, q = o ∨ (Hp o q ∧ leO o q p)) (hp : Hp o p) (ho : o ∈ Q) : ∀ {R : List P2} {b : P2}, Chain o Q (b :: R) → b ∈ Q → (∀ x ∈ R, x ∈ Q) →
    (∀ q ∈ Q, 0 ≤ turn o b q → (b = o ∨ 0 < turn o b p) → 0 ≤ turn b p q ∧ (b = o → turn o p q = 0 → far o q ≤ far o p)) → Chain o (p :: Q) (p :: popR p (b :: R))
  | [], b, C, hb, hR, hU => by
    have hbo : b = o := C
    exact Chain.push hQ hp C (.inl hbo) (fun a R' e => by cases e) hU
  | a :: R, b, C, hb, hR, hU => by
    unfold popR
    by_cases ht : turn a b p ≤ 0
    · rw [if_pos ht]
      obtain ⟨h1, h2, h3, h4, h5⟩ := id C
      refine Chain.pop hQ hp ho h5 (hR a (.head _)) (fun x hx => hR x (.tail _ hx)) fun q hq hs hap => ?_
      rcases hap with rfl | hap
      · have hbl := (hQ b hb).resolve_left (by rintro rfl; unfold Hp at h1; omega)
        have z : turn a b p = 0 := by have := hbl.2.nn; omega
        have z2 := par0 h1 hp z (h2 q hq).1
        refine ⟨z2, fun _ e => ?_⟩
        rcases hQ q hq with rfl | ⟨_, hl⟩
        · rw [far_self]; exact far_nn _ _
        · rcases hl with hl | ⟨_, hl⟩
          · rw [turn_sw] at hl; omega
          · exact hl
      · have hao : ¬ a = o := by rintro rfl; have : turn a a p = 0 := by unfold turn; grind
                                 omega
        exact ⟨lemU ht (h2 q hq).1 (h3.resolve_left hao) hap hs, fun e => absurd e hao⟩
    · rw [if_neg ht]
      have hbo : b = o ∨ leO o b p := by
        rcases hQ b hb with h | h
        · exact .inl h
        · exact .inr h.2
      exact Chain.push hQ hp C hbo (fun x R' e => by cases e; omega) hU
theorem popR_ne (p : P2) : ∀ (n : Nat) (l : List P2), l.length ≤ n → l ≠ [] → popR p l ≠ [] := by
  intro n
  induction n with
  | zero => intro l hl h; cases l; exact absurd rfl h; simp at hl
  | succ n ih =>
    intro l hl h
    match l, hl with
    | [_], _ => simp [popR]
    | b :: a :: r, hl =>
      unfold popR
      split
      · exact ih (a :: r) (by simpa using hl) (by simp)
      · simp
/-- the scan: what is kept behind a sorted list -/
theorem scan {o : P2} : ∀ (xs : List P2) (Q : List P2) (t : P2) (R : List P2), o ∈ Q → (∀ q ∈ Q, q = o ∨ (Hp o q ∧ leO o q t)) → Chain o Q (t :: R) → t ∈ Q → (∀ x ∈ R, x ∈ Q) → (R = [] → ∀ q ∈ Q, q = o) → xs.Pairwise (leO o) → (∀ x ∈ xs, Hp o x ∧ ∀ q ∈ Q, q = o ∨ leO o q x) →
    ∃ t' R', (xs.foldl pushF (t :: R).reverse) = (t' :: R').reverse ∧ Chain o (xs.reverse ++ Q) (t' :: R') ∧ (∀ q ∈ xs.reverse ++ Q, q = o ∨ (Hp o q ∧ leO o q t')) ∧ (R' = [] → ∀ q ∈ xs.reverse ++ Q, q = o) ∧ t' ∈ xs.reverse ++ Q ∧ ∀ x ∈ R', x ∈ xs.reverse ++ Q
  | [], Q, t, R, ho, hQ, C, ht, hR, he, _, _ => ⟨t, R, rfl, C, hQ, he, ht, hR⟩
  | p :: xs, Q, t, R, ho, hQ, C, ht, hR, he, hs, hx => by
    obtain ⟨hp, hqp⟩ := hx p (.head _)
    have hQp : ∀ q ∈ Q, q = o ∨ (Hp o q ∧ leO o q p) := fun q hq => by
      rcases hQ q hq with h | h
      · exact .inl h
      · rcases hqp q hq with h' | h'
        · exact .inl h'
        · exact .inr ⟨h.1, h'⟩
    have C' := Chain.pop hQp hp ho C ht hR (fun q hq hs' htp => by
      by_cases hto : t = o
      · subst hto
        have hq0 : q = t := by
          cases R with
          | nil => exact he rfl q hq
          | cons a R => obtain ⟨h1, _⟩ := C; unfold Hp at h1; omega
        subst hq0
        exact ⟨by unfold turn; grind, fun _ _ => by rw [far_self]; exact far_nn _ _⟩
      · have otp := htp.resolve_left hto
        have hHt := ((hQ t ht).resolve_left hto).1
        refine ⟨?_, fun e => absurd e hto⟩
        rcases hQ q hq with rfl | ⟨hHq, hl⟩
        · exact lemM hHt (.inl rfl) (by unfold turn; grind) (by rw [far_self]; exact far_nn _ _) otp
        · have z : turn o q t = 0 := by have := hl.nn; have e := turn_sw o t q; omega
          have hf : far o q ≤ far o t := by rcases hl with h | ⟨_, h⟩; omega; exact h
          exact lemM hHt (.inr hHq) (by have e := turn_sw o t q; omega) hf otp)
    obtain ⟨hs1, hs2⟩ := List.pairwise_cons.mp hs
    have hsub : ∀ x ∈ popR p (t :: R), x ∈ p :: Q := fun x hx' => by
      have := popR_sub p _ _ (Nat.le_refl _) x hx'
      rcases List.mem_cons.mp this with rfl | h
      · exact .tail _ ht
      · exact .tail _ (hR x h)
    obtain ⟨t', R', e1, e2, e3, e4, e5, e6⟩ := scan xs (p :: Q) p (popR p (t :: R)) (.tail _ ho) (fun q hq => by
        rcases List.mem_cons.mp hq with rfl | hq
        · exact .inr ⟨hp, .inr ⟨by unfold turn; grind, Int.le_refl _⟩⟩
        · exact hQp q hq) C' (.head _) hsub (fun e => absurd e (popR_ne p _ _ (Nat.le_refl _) (by simp))) hs2 (fun x hx' => by
        refine ⟨(hx x (.tail _ hx')).1, fun q hq => ?_⟩
        rcases List.mem_cons.mp hq with rfl | hq
        · exact .inr (hs1 x hx')
        · exact (hx x (.tail _ hx')).2 q hq)
    refine ⟨t', R', ?_, ?_, ?_, ?_, ?_, ?_⟩
    · rw [List.foldl_cons, ← e1]
      unfold pushF
      simp
    all_goals simp only [List.reverse_cons, List.append_assoc, List.singleton_append]; assumption
end Mine
end
/-! part M4 -/
noncomputable section
namespace Mine
noncomputable def dueF (pts : List P2) (o : P2) : Nat → List P2 → List P2
  | 0, d => d
  | n + 1, d => match pts.filter (fun t => isNext pts (d.getLast?.getD o) t) with
    | [] => d
    | a :: _ => if a = o then d else dueF pts o n (d ++ [a])
theorem bad_iff (h t p : P2) : bad h t p = false ↔ Ed h t p := by
  unfold bad Ed
  simp only [Bool.or_eq_false_iff, Bool.and_eq_false_iff, decide_eq_false_iff_not, beq_eq_false_iff_ne, ne_eq]
  constructor
  · rintro ⟨a, b⟩; exact ⟨by omega, fun e => by rcases b with b | b; exact absurd e b; omega⟩
  · rintro ⟨a, b⟩; refine ⟨by omega, ?_⟩
    by_cases e : turn h t p = 0
    · exact .inr (by have := b e; omega)
    · exact .inl e
theorem isNext_iff (pts : List P2) (h t : P2) : isNext pts h t = true ↔ t ≠ h ∧ ∀ p ∈ pts, Ed h t p := by
  unfold isNext
  simp only [Bool.and_eq_true, Bool.not_eq_true', decide_eq_false_iff_not, List.all_eq_true, bad_iff, ne_eq]
theorem opp {u1 u2 v1 v2 : Int} (h : u1 * v2 = u2 * v1) (hf : (u1.natAbs : Int) + u2.natAbs = v1.natAbs + v2.natAbs) : (v1 = u1 ∧ v2 = u2) ∨ (v1 = -u1 ∧ v2 = -u2) := by
  have e : u1.natAbs * v2.natAbs = u2.natAbs * v1.natAbs := by rw [← Int.natAbs_mul, ← Int.natAbs_mul, h]
  have e1 : u1.natAbs = v1.natAbs := by
    have hD : v2.natAbs = u1.natAbs + u2.natAbs - v1.natAbs := by omega
    have hle : v1.natAbs ≤ u1.natAbs + u2.natAbs := by omega
    generalize u1.natAbs = A at *; generalize u2.natAbs = B at *; generalize v1.natAbs = C at *; generalize v2.natAbs = D at *
    have hs : D + C = A + B := by omega
    have key : (A : Int) * (A + B) = C * (A + B) := by
      have h1 : (A : Int) * D = B * C := by exact_mod_cast e
      have h2 : (D : Int) = A + B - C := by omega
      rw [h2] at h1
      grind
    by_cases z : A + B = 0
    · omega
    · have := Int.eq_of_mul_eq_mul_right (show ((A : Int) + B) ≠ 0 by omega) key
      omega
  have e2 : u2.natAbs = v2.natAbs := by omega
  rcases Int.natAbs_eq_natAbs_iff.mp e1 with a | a <;> rcases Int.natAbs_eq_natAbs_iff.mp e2 with b | b
  · exact .inl ⟨a.symm, b.symm⟩
  · subst a
    have hv : u1 * v2 = 0 := by rw [b] at h; grind
    rcases Int.mul_eq_zero.mp hv with z | z
    · exact .inr ⟨by omega, by omega⟩
    · exact .inl ⟨by omega, by omega⟩
  · subst b
    have hv : v1 * u2 = 0 := by rw [a] at h; grind
    rcases Int.mul_eq_zero.mp hv with z | z
    · exact .inl ⟨by omega, by omega⟩
    · exact .inr ⟨by omega, by omega⟩
  · exact .inr ⟨by omega, by omega⟩
/-- there is one next point -/
theorem uniq {h s t : P2} (h1 : Ed h s t) (h2 : Ed h t s) (no : ¬ (t.1 - h.1 = -(s.1 - h.1) ∧ t.2 - h.2 = -(s.2 - h.2))) : t = s := by
  have z : turn h s t = 0 := by have e := turn_sw h s t; have := h1.1; have := h2.1; omega
  have f1 := h1.2 z
  have f2 := h2.2 (by have e := turn_sw h s t; omega)
  have f : far h s = far h t := by omega
  rw [far_eq, far_eq] at f
  have z' : (s.1 - h.1) * (t.2 - h.2) = (s.2 - h.2) * (t.1 - h.1) := by unfold turn at z; omega
  rcases opp z' (by omega) with ⟨a, b⟩ | ⟨a, b⟩
  · exact Prod.ext (by omega) (by omega)
  · exact absurd ⟨a, b⟩ no
theorem filter_head {pts : List P2} {f : P2 → Bool} {s : P2} (hs : s ∈ pts) (hf : f s = true) (hu : ∀ t ∈ pts, f t = true → t = s) : ∃ r, pts.filter f = s :: r := by
  have hm : s ∈ pts.filter f := List.mem_filter.mpr ⟨hs, hf⟩
  cases e : pts.filter f with
  | nil => rw [e] at hm; cases hm
  | cons x r =>
    have hx : x ∈ pts.filter f := by rw [e]; exact .head _
    obtain ⟨a, b⟩ := List.mem_filter.mp hx
    rw [hu x a b]
    exact ⟨r, rfl⟩
theorem Chain.edge {o : P2} {Q : List P2} : ∀ {A : List P2} {s h : P2} {B : List P2}, Chain o Q (A ++ s :: h :: B) → Hp o s ∧ (∀ q ∈ Q, Ed h s q) ∧ (h = o ∨ 0 < turn o h s)
  | [], s, h, B, ⟨a, b, c, _⟩ => ⟨a, b, c⟩
  | [x], s, h, B, ⟨_, _, _, _, r⟩ => Chain.edge (A := []) r
  | x :: y :: A, s, h, B, ⟨_, _, _, _, r⟩ => Chain.edge (A := y :: A) r
theorem Chain.bottom {o : P2} {Q : List P2} : ∀ {A : List P2} {h : P2} {B : List P2}, Chain o Q (A ++ h :: B) → B ≠ [] → Hp o h
  | [], h, [], _, n => absurd rfl n
  | [], h, b :: B, ⟨a, _⟩, _ => a
  | [x], h, B, C, n => by
    cases B with
    | nil => exact absurd rfl n
    | cons b B => obtain ⟨_, _, _, _, r⟩ := C; exact Chain.bottom (A := []) r n
  | x :: y :: A, h, B, C, n => by
    obtain ⟨_, _, _, _, r⟩ := C; exact Chain.bottom (A := y :: A) r n
theorem due_eq {o t' : P2} {R' : List P2} {pts Q : List P2} (hQ : ∀ q, q ∈ Q ↔ q ∈ pts) (ho : o ∈ pts) (C : Chain o Q (t' :: R')) (hmax : ∀ q ∈ Q, q = o ∨ (Hp o q ∧ leO o q t')) (he : R' = [] → ∀ q ∈ Q, q = o) (hin : ∀ x ∈ t' :: R', x ∈ Q) :
    ∀ (n : Nat) (A : List P2) (h : P2) (B : List P2), t' :: R' = A ++ h :: B → A.length ≤ n → dueF pts o n (h :: B).reverse = (t' :: R').reverse := by
  intro n
  induction n with
  | zero =>
    intro A h B e hA
    have : A = [] := List.eq_nil_of_length_eq_zero (by omega)
    subst this
    rw [e]; rfl
  | succ n ih =>
    intro A h B e hA
    have hlast : ((h :: B).reverse.getLast?.getD o) = h := by simp
    unfold dueF
    rw [hlast]
    rcases A.eq_nil_or_concat with rfl | ⟨A', s, rfl⟩
    · obtain ⟨rfl, rfl⟩ := List.cons.inj e
      cases R' with
      | nil =>
        have hto : t' = o := C
        have hall := he rfl
        have : pts.filter (fun t => isNext pts t' t) = [] := by
          rw [List.filter_eq_nil_iff]
          intro x hx hn
          have := ((isNext_iff _ _ _).mp hn).1
          exact this ((hall x ((hQ x).mpr hx)).trans hto.symm)
        rw [this]
      | cons b R =>
        have hHt : Hp o t' := C.1
        have hto : o ≠ t' := by rintro rfl; unfold Hp at hHt; omega
        have hno : isNext pts t' o = true := (isNext_iff _ _ _).mpr ⟨hto, fun q hq => lemC hHt (hmax q ((hQ q).mpr hq))⟩
        obtain ⟨r, hr⟩ := filter_head (f := fun t => isNext pts t' t) ho hno (fun x hx hn => by
          obtain ⟨x1, x2⟩ := (isNext_iff _ _ _).mp hn
          refine uniq (((isNext_iff _ _ _).mp hno).2 x hx) (x2 o ho) ?_
          rintro ⟨a, b⟩
          rcases hmax x ((hQ x).mpr hx) with rfl | ⟨_, hl⟩
          · unfold Hp at hHt; omega
          · have hz : turn o x t' = 0 := by
              have e1 : x.1 - o.1 = 2 * (t'.1 - o.1) := by omega
              have e2 : x.2 - o.2 = 2 * (t'.2 - o.2) := by omega
              unfold turn; rw [e1, e2]; grind
            rcases hl with h | ⟨_, h⟩
            · omega
            · rw [far_eq, far_eq] at h
              unfold Hp at hHt
              omega)
        rw [hr]
        simp
    · have e' : t' :: R' = A' ++ s :: h :: B := by rw [e]; simp
      have C2 : Chain o Q (A' ++ s :: h :: B) := e' ▸ C
      obtain ⟨hHs, hE, hoh⟩ := Chain.edge C2
      have hsQ : s ∈ Q := hin s (by rw [e']; simp)
      have hso : s ≠ o := by rintro rfl; unfold Hp at hHs; omega
      have hsh : s ≠ h := by
        rintro rfl
        rcases hoh with rfl | h'
        · exact hso rfl
        · have : turn o s s = 0 := by unfold turn; grind
          omega
      have hns : isNext pts h s = true := (isNext_iff _ _ _).mpr ⟨hsh, fun q hq => hE q ((hQ q).mpr hq)⟩
      obtain ⟨r, hr⟩ := filter_head (f := fun t => isNext pts h t) ((hQ s).mp hsQ) hns (fun x hx hn => by
        obtain ⟨x1, x2⟩ := (isNext_iff _ _ _).mp hn
        refine uniq (hE x ((hQ x).mpr hx)) (x2 s ((hQ s).mp hsQ)) ?_
        rintro ⟨a, b⟩
        rcases hoh with rfl | h'
        · rcases hmax x ((hQ x).mpr hx) with rfl | ⟨hHx, _⟩
          · exact x1 rfl
          · unfold Hp at hHx hHs; omega
        · have := (x2 o ho).1
          have ez : turn h x o = - turn h s o := by unfold turn; rw [a, b]; grind
          have ec : turn h s o = turn o h s := by unfold turn; grind
          omega)
      rw [hr]
      simp only [hso, if_false]
      have e3 : (h :: B).reverse ++ [s] = (s :: h :: B).reverse := by simp
      rw [e3]
      exact ih A' s (h :: B) e' (by simp at hA; omega)
/-- the plain law -/
theorem plain {pts others : List P2} {o : P2} (ho : o ∈ pts) (hmin : ∀ q ∈ pts, q = o ∨ Hp o q) (hmem : ∀ q, q ∈ others ↔ (q ∈ pts ∧ q ≠ o)) (hs : others.Pairwise (leO o)) (hl : others.length ≤ pts.length) :
    others.foldl pushF [o] = dueF pts o pts.length [o] := by
  obtain ⟨t', R', e1, C, hmax, he, ht, hR⟩ := scan others [o] o [] (.head _) (fun q hq => .inl (List.mem_singleton.mp hq)) rfl (.head _) (fun x hx => (nomatch hx)) (fun _ q hq => List.mem_singleton.mp hq) hs (fun x hx => ⟨(hmin x ((hmem x).mp hx).1).resolve_left ((hmem x).mp hx).2, fun q hq => .inl (List.mem_singleton.mp hq)⟩)
  have hQ : ∀ q, q ∈ others.reverse ++ [o] ↔ q ∈ pts := by
    intro q
    rw [List.mem_append, List.mem_reverse, hmem, List.mem_singleton]
    constructor
    · rintro (h | rfl)
      · exact h.1
      · exact ho
    · intro h
      by_cases e : q = o
      · exact .inr e
      · exact .inl ⟨h, e⟩
  have hfl : ∀ (xs ys : List P2), (xs.foldl pushF ys).length ≤ xs.length + ys.length := by
    intro xs
    induction xs with
    | nil => intro ys; simp
    | cons x xs ih =>
      intro ys
      have := ih (pushF ys x)
      have := pushF_len ys x
      simp only [List.foldl_cons, List.length_cons]
      omega
  have hlen := hfl others [o]
  have e1' : others.foldl pushF [o] = (t' :: R').reverse := e1
  rw [e1'] at hlen ⊢
  simp only [List.length_reverse, List.length_cons, List.length_nil] at hlen
  obtain ⟨A, hA⟩ : ∃ A, t' :: R' = A ++ [o] := by
    have bot : ∀ (L : List P2) (x : P2), Chain o (others.reverse ++ [o]) (x :: L) → ∃ A, x :: L = A ++ [o] := by
      intro L
      induction L with
      | nil => intro x h; exact ⟨[], by rw [show x = o from h]; rfl⟩
      | cons y L ih => intro x h; obtain ⟨A, hA⟩ := ih y h.2.2.2.2; exact ⟨x :: A, by rw [hA]; rfl⟩
    exact bot R' t' C
  have hAl : A.length = R'.length := by
    have := congrArg List.length hA
    simp at this
    omega
  have := due_eq hQ ho C hmax he (fun x hx => by rcases List.mem_cons.mp hx with rfl | h; exact ht; exact hR x h) pts.length A o [] hA (by omega)
  rw [← this]
  rfl
end Mine
end
/-! part M5 -/
noncomputable section
open PySem PySem.W PyProof.Rows PySem.Calls
namespace Mine
theorem okT_bind {α β : Type} {n : Nat} {lt : Nat → Nat → Bool} {P : β → Prop} {f : α → KasT β} : ∀ (t : KasT α), okT n lt (fun a => okT n lt P (f a)) t → okT n lt P (t.bind f)
  | .ret a, h => h
  | .ask i j k, ⟨h1, h2, h3⟩ => ⟨h1, h2, okT_bind _ h3⟩
theorem okT_mono {α : Type} {n : Nat} {lt : Nat → Nat → Bool} {P Q : α → Prop} (hpq : ∀ a, P a → Q a) : ∀ (t : KasT α), okT n lt P t → okT n lt Q t
  | .ret a, h => hpq a h
  | .ask i j k, ⟨h1, h2, h3⟩ => ⟨h1, h2, okT_mono hpq _ h3⟩
theorem okT_congr {α : Type} {n : Nat} {lt lt' : Nat → Nat → Bool} {P : α → Prop} (e : ∀ i j, i < n → j < n → lt i j = lt' i j) : ∀ (t : KasT α), okT n lt P t → okT n lt' P t
  | .ret a, h => h
  | .ask i j k, ⟨h1, h2, h3⟩ => ⟨h1, h2, by rw [← e i j h1 h2]; exact okT_congr e _ h3⟩
section
variable (r : Nat → Int) {n : Nat}
abbrev ltR : Nat → Nat → Bool := fun i j => decide (r i < r j)
def KR (p : Array Nat) (i : Nat) : Int := r (p.getD i 0)
structure PA (n : Nat) (p : Array Nat) : Prop where
  sz : p.size = n
  pm : p.Perm (List.range n).toArray
theorem PA.lt {p : Array Nat} (h : PA n p) {i : Nat} (hi : i < n) : p.getD i 0 < n := by
  have hm : p.getD i 0 ∈ p.toList := by
    have : i < p.size := by rw [h.sz]; exact hi
    have e : p.getD i 0 = p[i] := by simp [Array.getD, this]
    rw [e]; simp
  have := (Array.Perm.toList h.pm).mem_iff.mp hm
  simpa using this
theorem KR_rev {p : Array Nat} (h : PA n p) {i j : Nat} (hj : j ≤ n) (k : Nat) : KR r (kas_rev p i j) k = if i ≤ k ∧ k < j then KR r p (i + j - 1 - k) else KR r p k := by
  have e := getElem?_mirror_all (xs := p) (i := i) (j := j) (by rw [h.sz]; exact hj) k
  unfold KR kas_rev
  simp only [Array.getD_eq_getD_getElem?, e]
  split <;> rfl
theorem PA.rev {p : Array Nat} (h : PA n p) (i j : Nat) : PA n (kas_rev p i j) := ⟨(mirror_size _ _ _ _).trans h.sz, (mirror_perm _ _ _ _).trans h.pm⟩
theorem KR_bub {p : Array Nat} (h : PA n p) {k d : Nat} (hk : k < n) (hd : d ≤ k) (i : Nat) : KR r (bubble p k d) i = if i = k - d then KR r p k else if k - d < i ∧ i ≤ k then KR r p (i - 1) else KR r p i := by
  have e := getElem?_bubble (xs := p) (src := k) (by rw [h.sz]; exact hk) d hd i
  unfold KR
  simp only [Array.getD_eq_getD_getElem?, e]
  split
  · rfl
  · split <;> rfl
theorem PA.bub {p : Array Nat} (h : PA n p) (k d : Nat) : PA n (bubble p k d) := ⟨(bubble_size _ _ _).trans h.sz, (bubble_perm _ _ _).trans h.pm⟩
theorem asc_ok {p : Array Nat} (h : PA n p) : ∀ (f m : Nat), 1 ≤ m → m + f ≤ n → (∀ i, i + 1 < m → KR r p i ≤ KR r p (i + 1)) →
    okT n (ltR r) (fun m' => m ≤ m' ∧ m' ≤ m + f ∧ (∀ i, i + 1 < m' → KR r p i ≤ KR r p (i + 1)) ∧ (m' < m + f → KR r p m' < KR r p (m' - 1))) (kas_asc p f m)
  | 0, m, h1, h2, h3 => ⟨Nat.le_refl _, Nat.le_refl _, h3, fun q => by omega⟩
  | f + 1, m, h1, h2, h3 => by
    refine ⟨h.lt (by omega), h.lt (by omega), ?_⟩
    by_cases hc : KR r p m < KR r p (m - 1)
    · have e : ltR r (p.getD m 0) (p.getD (m - 1) 0) = true := decide_eq_true hc
      simp only [e, if_true]
      exact ⟨Nat.le_refl _, by omega, h3, fun _ => hc⟩
    · have e : ltR r (p.getD m 0) (p.getD (m - 1) 0) = false := decide_eq_false hc
      simp only [e, Bool.false_eq_true, if_false]
      refine okT_mono ?_ _ (asc_ok h f (m + 1) (by omega) (by omega) fun i hi => ?_)
      · rintro a ⟨x1, x2, x3, x4⟩
        exact ⟨by omega, by omega, x3, fun q => x4 (by omega)⟩
      · by_cases hi' : i + 1 < m
        · exact h3 i hi'
        · have : i = m - 1 := by omega
          subst this
          have : m - 1 + 1 = m := by omega
          rw [this]; omega
/-- a run that goes down, its last q + 1 alike -/
structure DN (n : Nat) (p : Array Nat) (m q : Nat) : Prop where
  pa : PA n p
  m1 : 1 ≤ m
  mq : q + 1 ≤ m
  mn : m ≤ n
  dn : ∀ i, i + 1 < m → KR r p (i + 1) ≤ KR r p i
  eq : ∀ i, m - (q + 1) ≤ i → i < m → KR r p i = KR r p (m - 1)
theorem DN.rev {p : Array Nat} {m q : Nat} (D : DN r n p m q) : PA n (kas_rev p (m - (q + 1)) m) ∧ ∀ i, KR r (kas_rev p (m - (q + 1)) m) i = KR r p i := by
  have mq := D.mq
  refine ⟨D.pa.rev _ _, fun i => ?_⟩
  rw [KR_rev r D.pa D.mn]
  split
  · rename_i hi
    rw [D.eq _ (by omega) (by omega), D.eq i hi.1 hi.2]
  · rfl
theorem desc_ok : ∀ (f : Nat) (p : Array Nat) (m q : Nat), m + f ≤ n → DN r n p m q → okT n (ltR r) (fun x : Array Nat × Nat × Nat => DN r n x.1 x.2.1 x.2.2 ∧ m ≤ x.2.1) (kas_desc f p m q)
  | 0, p, m, q, _, D => ⟨D, Nat.le_refl _⟩
  | f + 1, p, m, q, hf, D => by
    have m1 := D.m1
    refine ⟨D.pa.lt (by omega), D.pa.lt (by omega), ?_⟩
    by_cases hc : KR r p m < KR r p (m - 1)
    · have e : ltR r (p.getD m 0) (p.getD (m - 1) 0) = true := decide_eq_true hc
      simp only [e, if_true]
      have dn' : ∀ i, i + 1 < m + 1 → KR r p (i + 1) ≤ KR r p i := fun i hi => by
        by_cases h : i + 1 < m
        · exact D.dn i h
        · have e : i = m - 1 := by omega
          subst e
          rw [show m - 1 + 1 = m by omega]; omega
      by_cases hq : q > 0
      · rw [if_pos hq]
        obtain ⟨r1, r2⟩ := D.rev
        refine okT_mono (fun a x => ⟨x.1, by omega⟩) _ (desc_ok f _ (m + 1) 0 (by omega) ⟨r1, by omega, by omega, by omega, fun i hi => by rw [r2, r2]; exact dn' i hi, fun i h1 h2 => by rw [show i = m by omega, show m + 1 - 1 = m by omega]⟩)
      · rw [if_neg hq]
        refine okT_mono (fun a x => ⟨x.1, by omega⟩) _ (desc_ok f p (m + 1) 0 (by omega) ⟨D.pa, by omega, by omega, by omega, dn', fun i h1 h2 => by rw [show i = m by omega, show m + 1 - 1 = m by omega]⟩)
    · have e : ltR r (p.getD m 0) (p.getD (m - 1) 0) = false := decide_eq_false hc
      simp only [e, Bool.false_eq_true, if_false]
      refine ⟨D.pa.lt (by omega), D.pa.lt (by omega), ?_⟩
      by_cases hd : KR r p (m - 1) < KR r p m
      · have e : ltR r (p.getD (m - 1) 0) (p.getD m 0) = true := decide_eq_true hd
        simp only [e, if_true]
        exact ⟨D, Nat.le_refl _⟩
      · have e : ltR r (p.getD (m - 1) 0) (p.getD m 0) = false := decide_eq_false hd
        simp only [e, Bool.false_eq_true, if_false]
        have mq := D.mq
        refine okT_mono (fun a x => ⟨x.1, by omega⟩) _ (desc_ok f p (m + 1) (q + 1) (by omega) ⟨D.pa, by omega, by omega, by omega, fun i hi => ?_, fun i h1 h2 => ?_⟩)
        · by_cases h : i + 1 < m
          · exact D.dn i h
          · have e : i = m - 1 := by omega
            subst e
            rw [show m - 1 + 1 = m by omega]; omega
        · rw [show m + 1 - 1 = m by omega]
          by_cases h : i = m
          · rw [h]
          · have := D.eq i (by omega) (by omega)
            omega
def Run (n : Nat) (x : Nat × Array Nat) : Prop := PA n x.2 ∧ 1 ≤ x.1 ∧ x.1 ≤ n ∧ ∀ i, i + 1 < x.1 → KR r x.2 i ≤ KR r x.2 (i + 1)
theorem tail3_ok {p : Array Nat} {m : Nat} (h : PA n p) (m1 : 1 ≤ m) (mn : m ≤ n) (dn : ∀ i, i + 1 < m → KR r p (i + 1) ≤ KR r p i) : okT n (ltR r) (Run r n) (kas_tail3 m n p) := by
  unfold kas_tail3
  have hr := h.rev 0 m
  refine okT_bind _ (okT_mono ?_ _ (asc_ok r hr (n - m) m m1 (by omega) fun i hi => ?_))
  · rintro a ⟨x1, x2, x3, x4⟩
    exact ⟨hr, by omega, by omega, x3⟩
  · rw [KR_rev r h mn, KR_rev r h mn, if_pos (by omega), if_pos (by omega)]
    have := dn (0 + m - 1 - (i + 1)) (by omega)
    rw [show 0 + m - 1 - (i + 1) + 1 = 0 + m - 1 - i by omega] at this
    exact this
theorem descPart_ok {p : Array Nat} {m : Nat} (D : DN r n p m 0) (hm : m < n) (hlt : KR r p m ≤ KR r p (m - 1)) : okT n (ltR r) (Run r n) (kas_descPart m n p) := by
  have m1 := D.m1
  unfold kas_descPart
  refine okT_bind _ (okT_mono ?_ _ (desc_ok r (n - (m + 1)) p (m + 1) 0 (by omega) ⟨D.pa, by omega, by omega, by omega, fun i hi => ?_, fun i h1 h2 => ?_⟩))
  · rintro ⟨p', m', q'⟩ ⟨D', hle⟩
    dsimp only at D' hle ⊢
    by_cases hq : q' > 0
    · rw [if_pos hq]
      obtain ⟨r1, r2⟩ := D'.rev
      exact tail3_ok r r1 D'.m1 D'.mn fun i hi => by rw [r2, r2]; exact D'.dn i hi
    · rw [if_neg hq]
      exact tail3_ok r D'.pa D'.m1 D'.mn D'.dn
  · by_cases h : i + 1 < m
    · exact D.dn i h
    · have e : i = m - 1 := by omega
      subst e
      rw [show m - 1 + 1 = m by omega]; exact hlt
  · rw [show i = m by omega, show m + 1 - 1 = m by omega]
theorem mono_of {f : Nat → Int} {m : Nat} (h : ∀ i, i + 1 < m → f i ≤ f (i + 1)) : ∀ (d i : Nat), i + d < m → f i ≤ f (i + d)
  | 0, i, _ => Int.le_refl _
  | d + 1, i, hi => Int.le_trans (mono_of h d i (by omega)) (h (i + d) (by omega))
theorem count_ok (hn : 2 ≤ n) {p : Array Nat} (h : PA n p) : okT n (ltR r) (Run r n) (kas_count n p) := by
  unfold kas_count
  refine okT_bind _ (okT_mono ?_ _ (asc_ok r h (n - 1) 1 (Nat.le_refl _) (by omega) fun i hi => by omega))
  rintro m ⟨x1, x2, x3, x4⟩
  by_cases hm : m = n
  · subst hm
    simp only [beq_self_eq_true, if_true]
    exact ⟨h, x1, Nat.le_refl _, x3⟩
  · have e : (m == n) = false := by simpa using hm
    simp only [e, Bool.false_eq_true, if_false]
    have hlt := x4 (by omega)
    by_cases h1 : m > 1
    · rw [if_pos h1]
      refine ⟨h.lt (by omega), h.lt (by omega), ?_⟩
      by_cases hc : KR r p 0 < KR r p (m - 1)
      · have e : ltR r (p.getD 0 0) (p.getD (m - 1) 0) = true := decide_eq_true hc
        simp only [e, if_true]
        exact ⟨h, x1, by omega, x3⟩
      · have e : ltR r (p.getD 0 0) (p.getD (m - 1) 0) = false := decide_eq_false hc
        simp only [e, Bool.false_eq_true, if_false]
        have all : ∀ i, i < m → KR r p i = KR r p (m - 1) := fun i hi => by
          have a := mono_of x3 i 0 (by omega)
          have b := mono_of x3 (m - 1 - i) i (by omega)
          rw [show i + (m - 1 - i) = m - 1 by omega] at b
          rw [Nat.zero_add] at a
          omega
        have rv : ∀ i, KR r (kas_rev p 0 m) i = KR r p i := fun i => by
          rw [KR_rev r h (by omega)]
          split
          · rw [all _ (by omega), all i (by omega)]
          · rfl
        refine descPart_ok r ⟨h.rev _ _, by omega, by omega, by omega, fun i hi => ?_, fun i a b => ?_⟩ (by omega) ?_
        · rw [rv, rv, all _ (by omega), all i (by omega)]; exact Int.le_refl _
        · rw [rv, rv, all i b, all (m - 1) (by omega)]
        · rw [rv, rv]; omega
    · rw [if_neg h1]
      have m1 : m = 1 := by omega
      subst m1
      refine descPart_ok r ⟨h, by omega, by omega, by omega, fun i hi => by omega, fun i a b => by rw [show i = 1 - 1 by omega]⟩ (by omega) (by omega)
theorem place_ok {p : Array Nat} (h : PA n p) {k : Nat} (hk : k < n) (so : ∀ i, i + 1 < k → KR r p i ≤ KR r p (i + 1)) : ∀ (f l rr : Nat), l ≤ rr → rr ≤ k → rr - l ≤ f → (∀ i, i < l → KR r p i ≤ KR r p k) → (∀ i, rr ≤ i → i < k → KR r p k < KR r p i) →
    okT n (ltR r) (fun l' => l' ≤ k ∧ (∀ i, i < l' → KR r p i ≤ KR r p k) ∧ ∀ i, l' ≤ i → i < k → KR r p k < KR r p i) (kas_place p k f l rr)
  | 0, l, rr, a1, a2, a3, a4, a5 => ⟨by omega, a4, fun i hi => a5 i (by omega)⟩
  | f + 1, l, rr, a1, a2, a3, a4, a5 => by
    unfold kas_place
    by_cases hl : l ≥ rr
    · rw [if_pos hl]; exact ⟨by omega, a4, fun i hi => a5 i (by omega)⟩
    · rw [if_neg hl]
      refine ⟨h.lt hk, h.lt (by omega), ?_⟩
      by_cases hc : KR r p k < KR r p ((l + rr) / 2)
      · have e : ltR r (p.getD k 0) (p.getD ((l + rr) / 2) 0) = true := decide_eq_true hc
        simp only [e, if_true]
        refine place_ok h hk so f l _ (by omega) (by omega) (by omega) a4 fun i h1 h2 => ?_
        have := mono_of so (i - (l + rr) / 2) ((l + rr) / 2) (by omega)
        rw [show (l + rr) / 2 + (i - (l + rr) / 2) = i by omega] at this
        omega
      · have e : ltR r (p.getD k 0) (p.getD ((l + rr) / 2) 0) = false := decide_eq_false hc
        simp only [e, Bool.false_eq_true, if_false]
        refine place_ok h hk so f _ rr (by omega) a2 (by omega) (fun i hi => ?_) a5
        have := mono_of so ((l + rr) / 2 - i) i (by omega)
        rw [show i + ((l + rr) / 2 - i) = (l + rr) / 2 by omega] at this
        omega
theorem bin_ok : ∀ (f : Nat) (p : Array Nat) (k : Nat), k + f = n → PA n p → (∀ i, i + 1 < k → KR r p i ≤ KR r p (i + 1)) → okT n (ltR r) (fun p' => PA n p' ∧ ∀ i, i + 1 < n → KR r p' i ≤ KR r p' (i + 1)) (kas_bin f p k)
  | 0, p, k, hk, h, so => ⟨h, by rw [show k = n by omega] at so; exact so⟩
  | f + 1, p, k, hk, h, so => by
    unfold kas_bin
    refine okT_bind _ (okT_mono ?_ _ (place_ok r h (k := k) (by omega) so k 0 k (Nat.zero_le _) (Nat.le_refl _) (by omega) (fun i hi => by omega) (fun i a b => by omega)))
    rintro l ⟨l1, l2, l3⟩
    refine bin_ok f _ (k + 1) (by omega) (h.bub _ _) fun i hi => ?_
    rw [KR_bub r h (by omega) (by omega), KR_bub r h (by omega) (by omega)]
    have ekl : k - (k - l) = l := by omega
    rw [ekl]
    by_cases c1 : i + 1 < l
    · rw [if_neg (by omega), if_neg (by omega), if_neg (by omega), if_neg (by omega)]
      exact so i (by omega)
    by_cases c2 : i + 1 = l
    · rw [if_neg (by omega), if_neg (by omega), if_pos c2]
      exact l2 i (by omega)
    by_cases c3 : i = l
    · rw [if_pos c3, if_neg (by omega), if_pos (by omega)]
      have := l3 i (by omega) (by omega)
      rw [show i + 1 - 1 = i by omega]; omega
    · rw [if_neg c3, if_pos (by omega), if_neg (by omega), if_pos (by omega)]
      have := so (i - 1) (by omega)
      rw [show i - 1 + 1 = i by omega] at this
      rw [show i + 1 - 1 = i by omega]
      exact this
theorem sort_ok (hn : 2 ≤ n) : okT n (ltR r) (fun p' => PA n p' ∧ ∀ i, i + 1 < n → KR r p' i ≤ KR r p' (i + 1)) (kas_sort n) := by
  unfold kas_sort
  refine okT_bind _ (okT_mono ?_ _ (count_ok r hn ⟨by simp, Array.Perm.refl _⟩))
  rintro ⟨m, p⟩ ⟨h, h1, h2, h3⟩
  dsimp only at h h1 h2 h3 ⊢
  by_cases hm : m < n
  · rw [if_pos hm]
    refine bin_ok r _ p (max m 1) (by omega) h fun i hi => h3 i (by omega)
  · rw [if_neg hm]
    exact ⟨h, by rw [show m = n by omega] at h3; exact h3⟩
end
/-- nothing is less: the places stay -/
theorem id_ok {n : Nat} (hn : 2 ≤ n) : okT n (fun _ _ => false) (fun p => p = (List.range n).toArray) (kas_sort n) := by
  have asc : ∀ (f m : Nat), 1 ≤ m → m + f = n → okT n (fun _ _ => false) (fun m' => m' = n) (kas_asc (List.range n).toArray f m) := by
    intro f
    induction f with
    | zero => intro m _ h; exact h
    | succ f ih =>
      intro m h1 h
      have g : ∀ i, i < n → (List.range n).toArray.getD i 0 < n := fun i hi => by simp [Array.getD, hi]
      refine ⟨g _ (by omega), g _ (by omega), ?_⟩
      simp only [Bool.false_eq_true, if_false]
      exact ih (m + 1) (by omega) (by omega)
  unfold kas_sort kas_count
  refine okT_bind _ (okT_bind _ (okT_mono ?_ _ (asc (n - 1) 1 (Nat.le_refl _) (by omega))))
  rintro m rfl
  simp only [beq_self_eq_true, if_true]
  show okT _ _ _ (if m < m then _ else _)
  rw [if_neg (Nat.lt_irrefl _)]
  rfl
end Mine
end
/-! part M6 -/
noncomputable section
open PySem PySem.W PyProof.Rows PySem.Calls
namespace Mine
theorem leO_iff (o a b : P2) : leO o a b ↔ ¬ cmpv o b a < 0 := by
  unfold leO cmpv
  by_cases h : turn o a b = 0
  · simp [h]
  · simp [h]; omega
theorem leO.trans {o a b c : P2} (ha : Hp o a) (hb : Hp o b) (hc : Hp o c) (h1 : leO o a b) (h2 : leO o b c) : leO o a c := by
  rcases h1 with h1 | ⟨h1, f1⟩
  · exact .inl (tr1 ha hb hc h1 h2.nn)
  · rcases h2 with h2 | ⟨h2, f2⟩
    · refine .inl ?_
      by_cases hn : 0 < turn o a c
      · exact hn
      · have e := turn_sw o a c
        have e' := turn_sw o a b
        have := tr1 hb hc ha h2 (by omega)
        omega
    · have e1 := turn_sw o a b
      have e2 := turn_sw o a c
      have z1 := par0 (q := c) hb ha (by omega) (by omega)
      have z2 := par0 (q := a) hb hc h2 (by omega)
      exact .inr ⟨by omega, by omega⟩
theorem leO.refl (o a : P2) : leO o a a := .inr ⟨by unfold turn; grind, Int.le_refl _⟩
theorem leO.total {o a b : P2} (h : ¬ leO o a b) : leO o b a := by
  unfold leO at *
  have e := turn_sw o a b
  by_cases z : turn o a b = 0
  · exact .inr ⟨by omega, by omega⟩
  · exact .inl (by omega)
theorem countP_lt {α : Type} {p q : α → Bool} {a : α} : ∀ {l : List α}, (∀ x ∈ l, p x = true → q x = true) → a ∈ l → q a = true → p a = false → l.countP p < l.countP q
  | x :: l, h, ha, hq, hp => by
    have hle : l.countP p ≤ l.countP q := List.countP_mono_left fun y hy => h y (.tail _ hy)
    rw [List.countP_cons, List.countP_cons]
    rcases List.mem_cons.mp ha with rfl | ha
    · simp only [hq, hp, if_true, Bool.false_eq_true, if_false]; omega
    · have := countP_lt (fun y hy => h y (.tail _ hy)) ha hq hp
      by_cases hx : p x = true
      · simp only [hx, h x (.head _) hx, if_true]; omega
      · have hx' : p x = false := by simpa using hx
        rw [hx']
        by_cases hy : q x = true
        · simp only [hy, Bool.false_eq_true, if_false, if_true]; omega
        · have hy' : q x = false := by simpa using hy
          simp only [hy', Bool.false_eq_true, if_false]; omega
def rk (ps : List P2) (o x : P2) : Int := ps.countP (fun q => decide (cmpv o q x < 0))
theorem rk_iff {ps : List P2} {o a b : P2} (hH : ∀ q ∈ ps, Hp o q) (ha : a ∈ ps) (hb : b ∈ ps) : cmpv o a b < 0 ↔ rk ps o a < rk ps o b := by
  constructor
  · intro h
    have hab : leO o a b := leO.total (fun q => (leO_iff _ _ _).mp q h)
    have := countP_lt (p := fun q => decide (cmpv o q a < 0)) (q := fun q => decide (cmpv o q b < 0)) (a := a) (l := ps) (fun x hx hp => by
      rw [decide_eq_true_eq] at hp ⊢
      by_cases hn : cmpv o x b < 0
      · exact hn
      · exact absurd hp ((leO_iff _ _ _).mp (hab.trans (hH a ha) (hH b hb) (hH x hx) ((leO_iff _ _ _).mpr hn)))) ha (decide_eq_true h) (decide_eq_false ((leO_iff _ _ _).mp (leO.refl o a)))
    unfold rk; omega
  · intro h
    by_cases hn : cmpv o a b < 0
    · exact hn
    · exfalso
      have hba : leO o b a := (leO_iff _ _ _).mpr hn
      have hle : ps.countP (fun q => decide (cmpv o q b < 0)) ≤ ps.countP (fun q => decide (cmpv o q a < 0)) := List.countP_mono_left fun x hx hp => by
        rw [decide_eq_true_eq] at hp ⊢
        by_cases hm : cmpv o x a < 0
        · exact hm
        · exact absurd hp ((leO_iff _ _ _).mp (hba.trans (hH b hb) (hH a ha) (hH x hx) ((leO_iff _ _ _).mpr hm)))
      unfold rk at h; omega
theorem Pts.pick {h : Heap} {vs : List Value} {ps : List P2} (hp : Pts h vs ps) : ∀ {l : List Nat}, (∀ i ∈ l, i < vs.length) → Pts h (l.map fun i => vs.getD i Value.none) (l.map fun i => ps.getD i (0, 0))
  | [], _ => trivial
  | i :: l, hl => by
    obtain ⟨a, p, e1, e2, e3⟩ := hp.get (i := i) (v := vs[i]'(hl i (.head _))) (by simp)
    have e4 : vs.getD i Value.none = .ref a := by rw [List.getD_eq_getElem?_getD, List.getElem?_eq_getElem (hl i (.head _)), e1]; rfl
    have e5 : ps.getD i (0, 0) = p := by rw [List.getD_eq_getElem?_getD, e2]; rfl
    rw [List.map_cons, List.map_cons, e4, e5]
    exact ⟨e3, Pts.pick hp fun j hj => hl j (.tail _ hj)⟩
/-- what the sort by turning gives -/
def OutS (h : Heap) (o : P2) (ps : List P2) (out : List Value) : Prop := ∃ qs, Pts h out qs ∧ qs.Perm ps ∧ qs.Pairwise (leO o)
theorem outS {h : Heap} {vs : List Value} {ps : List P2} {o : P2} (hp : Pts h vs ps) (hH : ∀ q ∈ ps, Hp o q) (h2 : 2 ≤ vs.length) :
    okT vs.length (fun i j => decide (cmpv o (ps.getD i (0, 0)) (ps.getD j (0, 0)) < 0)) (fun p : Array Nat => p.size = vs.length → OutS h o ps (p.toList.map fun i => vs.getD i Value.none)) (kas_sort vs.length) := by
  have hlen := hp.len
  have hmem : ∀ i, i < vs.length → ps.getD i (0, 0) ∈ ps := fun i hi => by
    rw [List.getD_eq_getElem?_getD, List.getElem?_eq_getElem (by omega)]; simp
  refine okT_congr (lt := ltR fun i => rk ps o (ps.getD i (0, 0))) (fun i j hi hj => ?_) _ (okT_mono ?_ _ (sort_ok (fun i => rk ps o (ps.getD i (0, 0))) h2))
  · rw [decide_eq_decide]
    exact (rk_iff hH (hmem i hi) (hmem j hj)).symm
  · rintro p ⟨A, hs⟩ _
    have hperm : p.toList.Perm (List.range vs.length) := by simpa using Array.Perm.toList A.pm
    have hl : ∀ i ∈ p.toList, i < vs.length := fun i hi => List.mem_range.mp (hperm.mem_iff.mp hi)
    refine ⟨p.toList.map fun i => ps.getD i (0, 0), hp.pick hl, ?_, ?_⟩
    · have e : (List.range vs.length).map (fun i => ps.getD i (0, 0)) = ps := by
        apply List.ext_getElem
        · simp [hlen]
        · intro i h1 h2
          simp at h1
          simp [List.getD_eq_getElem?_getD, List.getElem?_eq_getElem h2]
      have := hperm.map fun i => ps.getD i (0, 0)
      rw [e] at this
      exact this
    · rw [List.pairwise_map, List.pairwise_iff_getElem]
      intro i j hi hj hij
      have hi' : i < p.size := by simpa using hi
      have hj' : j < p.size := by simpa using hj
      have hsz := A.sz
      have m := mono_of hs (j - i) i (by omega)
      rw [show i + (j - i) = j by omega] at m
      have ei : p.getD i 0 = p.toList[i] := by simp [Array.getD, hi']
      have ej : p.getD j 0 = p.toList[j] := by simp [Array.getD, hj']
      unfold KR at m
      rw [ei, ej] at m
      dsimp only at m
      rw [leO_iff]
      intro hc
      have := (rk_iff hH (hmem _ (hl _ (List.getElem_mem _))) (hmem _ (hl _ (List.getElem_mem _)))).mp hc
      omega
theorem outI {vs : List Value} (h2 : 2 ≤ vs.length) : okT vs.length (fun _ _ => false) (fun p : Array Nat => p.size = vs.length → (p.toList.map fun i => vs.getD i Value.none) = vs) (kas_sort vs.length) := by
  refine okT_mono ?_ _ (id_ok h2)
  rintro p rfl _
  apply List.ext_getElem
  · simp
  · intro i h1 h2
    simp at h1
    simp [List.getD_eq_getElem?_getD, List.getElem?_eq_getElem h2]
end Mine
end
/-! part L1 -/
noncomputable section
open PySem PySem.W PyProof.Rows PySem.Calls
namespace Mine
/-- the items made of the places below k that pass -/
noncomputable def Fil (p : Nat → Bool) (F : Nat → Value → Prop) : Nat → List Value → Prop
  | 0, ys => ys = []
  | k + 1, ys => if p k = true then ∃ ys' y, ys = ys' ++ [y] ∧ Fil p F k ys' ∧ F k y else Fil p F k ys
theorem Fil.mono {p : Nat → Bool} {F F' : Nat → Value → Prop} (h : ∀ i y, F i y → F' i y) : ∀ {k : Nat} {ys : List Value}, Fil p F k ys → Fil p F' k ys
  | 0, _, e => e
  | k + 1, ys, e => by
    unfold Fil at e ⊢
    split at e
    · rename_i hp
      rw [if_pos hp]
      obtain ⟨ys', y, a, b, c⟩ := e
      exact ⟨ys', y, a, b.mono h, h _ _ c⟩
    · rename_i hp
      rw [if_neg hp]
      exact e.mono h
theorem Fil.len {p : Nat → Bool} {F : Nat → Value → Prop} : ∀ {k : Nat} {ys : List Value}, Fil p F k ys → ys.length ≤ k
  | 0, _, e => by rw [show _ = [] from e]; exact Nat.le_refl _
  | k + 1, ys, e => by
    unfold Fil at e
    split at e
    · obtain ⟨ys', y, a, b, c⟩ := e
      have := b.len
      rw [a, List.length_append, List.length_singleton]; omega
    · have := e.len; omega
section
variable {prog : Program} {w : World} {A : Around} {E : Value → Shared → Prop} {s : Shared} {env : Env}
/-- one turn of a comprehension: the tests of item i, then its element -/
def Turn (prog : Program) (w : World) (A : Around) (env : Env) (scope : Scope) (cl : List (Str × Addr)) (x : Str) (ifs : List Expr) (elt : Expr) (wr : List Addr) (P : Nat → Value → Prop) (p : Nat → Bool) (F : Addr → Addr → Heap → Nat → Value → Prop) (n : Nat) (s₂ : Shared) : Prop :=
  ∀ (C D : Addr) (i : Nat) (v : Value) (s₃ : Shared) (m₃ : Str → Option Value) (E' : Value → Shared → Prop) (K1 : Value → Shared → Prop) (K0 : Shared → Prop), i < n → P i v → s₃.heap.Ns C m₃ → m₃ x = some v → (∃ o, s₃.heap.get? D = some o ∧ o.cls = .type "list") → (∀ b ∈ wr, ∃ o, s₃.heap.get? b = some o ∧ o.cls ≠ .type "tuple") → @LE.le Nat _ s₂.heap.objs.size C →
    (∀ b o, b ∉ wr → s₂.heap.get? b = some o → s₃.heap.get? b = some o) → (∀ s₄ y, Ext s₃ s₄ → p i = true → F C D s₄.heap i y → K1 y s₄) → (∀ s₄, Ext s₃ s₄ → p i = false → K0 s₄) →
    wpAny (model prog w) A (forIn ifs true fun c r => if r = true then do let ok ← isTrue c (compEnvC scope cl C env) (eval c (compEnvC scope cl C env)); pure (ForInStep.yield ok) else pure (ForInStep.yield r))
      (fun ok s₄ => if ok = true then wpAny (model prog w) A (eval elt (compEnvC scope cl C env)) (fun y s₅ => K1 y s₅) E' s₄ else K0 s₄) E' s₃
set_option maxHeartbeats 4000000 in
theorem compCore {elt iter : Expr} {x : Str} {px : Pos} {ifs : List Expr} {scope : Scope} {cl : List (Str × Addr)} {pos : Pos} {s₂ : Shared} {I : Addr} {fp wr : List Addr} {n : Nat} {P : Nat → Value → Prop} {St : Nat → Heap → Prop} {p : Nat → Bool} {F : Addr → Addr → Heap → Nat → Value → Prop} {RR : Value → Addr → Result → Shared → Prop}
    (hcell : ∀ y ∈ scope.names, y.2 ≠ .cell) (hkind : scope.kind = .function) (hx : scope.names.lookup x = some .local)
    (W : Walks prog w A I fp wr n P St) (hsz : n ≤ 1000) (hst : St 0 s₂.heap) (hfp : ∀ b ∈ fp, @LT.lt Nat _ b s₂.heap.objs.size) (hlive : ∀ i h, St i h → ∀ b ∈ wr, ∃ o, h.get? b = some o ∧ o.cls ≠ .type "tuple")
    (Fm : ∀ C D h h' i y, F C D h i y → (∀ b o, @Ne Nat b C → @Ne Nat b D → b ∉ wr → h.get? b = some o → h'.get? b = some o) → F C D h' i y)
    (hT : Turn prog w A env scope cl x ifs elt wr P p F n s₂)
    (hRR : ∀ C D s' m' ys, s₂.heap.get? D = none → s₂.heap.get? C = none → @Ne Nat D C → s'.heap.Ns C m' → s'.heap.PlainList D ys.toArray → Fil p (F C D s'.heap) n ys → (∀ b o, b ∉ wr → s₂.heap.get? b = some o → s'.heap.get? b = some o) → s'.gens = s₂.gens → s'.os = s₂.os → RR (.ref D) C (.ok .next) s') :
    wpAny (model prog w) A (newList []) (fun acc s₃ => wpAny (model prog w) A (newFunctionEnv scope env.globals cl [] env.qual none .none (some env)) (fun cenv s₄ =>
      codeAny (model prog w) A (.compStart (.ListComp elt [⟨.Name x px, iter, ifs, 0⟩] scope pos) 0 (.ref I) acc { cenv with scope := relabel scope env }) (RR acc cenv.locals) s₄) E s₃) E s₂ := by
  refine wpAny_newObj_type (wpAny_newFunctionEnv hcell (by intro y hy; simp at hy) (fun h₁ hns₁ hsb₁ => ?_) hkind)
  dsimp only at hns₁ hsb₁ ⊢
  generalize hH2 : s₂.heap.push { cls := .type "list", dict := none, data := .seq ([] : List Value).toArray } = H2 at hns₁ hsb₁ ⊢
  have hC : H2.objs.size = s₂.heap.objs.size + 1 := by rw [← hH2, Heap.size_push]
  generalize hDD : s₂.heap.objs.size = D at *
  generalize hCC : H2.objs.size = C at *
  have hDC : @Ne Nat D C := by omega
  have old : ∀ b o, s₂.heap.get? b = some o → h₁.get? b = some o := fun b o e => hsb₁.extBut b o (by have t : @LT.lt Nat _ b s₂.heap.objs.size := Heap.lt_size e; rw [hDD] at t; exact (show @Ne Nat b C by omega)) (Heap.get?_push_of_some _ (hH2 ▸ Heap.get?_push_of_some _ e))
  have hDf : D ∉ fp := fun hm => Nat.lt_irrefl _ (hfp _ hm)
  have hCf : C ∉ fp := fun hm => by have := hfp _ hm; omega
  have hCw : C ∉ wr := fun h => hCf (W.sub _ h)
  have hDw : D ∉ wr := fun h => hDf (W.sub _ h)
  have nD : s₂.heap.get? D = none := Heap.get?_none_of_le (by rw [hDD]; exact Nat.le_refl _)
  have nC : s₂.heap.get? C = none := Heap.get?_none_of_le (by rw [hDD]; exact (show @LE.le Nat _ D C by omega))
  have hacc : h₁.PlainList D #[] := ⟨_, hsb₁.extBut _ _ hDC (Heap.get?_push_of_some _ (hH2 ▸ (hDD ▸ Heap.get?_push_size _ rfl)))⟩
  have hst₁ : St 0 h₁ := W.frame _ _ _ hst fun b _ o e => old b o e
  have loop : ∀ s₃ : Shared, s₃ = { s₂ with heap := h₁, toks := s₂.toks + ([] : List (Str × Value)).length } →
      codeAny (model prog w) A (.compLoop (.ListComp elt [⟨.Name x px, iter, ifs, 0⟩] scope pos) 0 (.ref I) (.ref D) (compEnvC scope cl C env)) (RR (.ref D) C) s₃ := by
    rintro s₃ rfl
    refine codeAny_compLoop_tests (fun k s' => ∃ j m' ys, k = n + 1 - j ∧ j ≤ n ∧ St j s'.heap ∧ s'.heap.PlainList D ys.toArray ∧ s'.heap.Ns C m' ∧ Fil p (F C D s'.heap) j ys ∧ (∀ b o, b ∉ wr → s₂.heap.get? b = some o → s'.heap.get? b = some o) ∧ s'.gens = s₂.gens ∧ s'.os = s₂.os) ?_ (n + 1)
      ⟨0, _, [], rfl, Nat.zero_le _, hst₁, hacc, hns₁, rfl, fun b o _ e => old b o e, rfl, rfl⟩
    rintro k s' ⟨j, m', ys, rfl, hj, hst', hacc', hn', hfil, hk, hg, hos⟩
    by_cases hlt : j < n
    · refine W.item j _ _ _ hlt hst' fun v h₂ tk₂ hPv hst₂ hk₂ => ?_
      refine wpAny_assign_Name (wpAny_storeName_local (lookup_relabel_local hx) (hn'.at' fun o e => hk₂ _ o hCw e) (fun h₃ hn₃ hs₃ => ?_) (by simp [compEnvC, relabel, hkind]))
      have up₃ : ∀ b o, @Ne Nat b C → b ∉ wr → s'.heap.get? b = some o → h₃.get? b = some o := fun b o hbC hbf e => hs₃.extBut b o hbC (hk₂ b o hbf e)
      have hst₃ : St (j + 1) h₃ := W.frame _ _ _ hst₂ fun b hb o e => hs₃.extBut b o (fun (h : b = C) => hCf (h ▸ hb)) e
      have hacc₃ : h₃.PlainList D ys.toArray := hacc'.at fun o e => up₃ D o hDC hDw e
      have hfil₃ : Fil p (F C D h₃) j ys := hfil.mono fun i y hF => Fm C D _ _ i y hF fun b o a _ c e => up₃ b o a c e
      refine hT C D j v ⟨h₃, s'.gens, s'.drawn, tk₂ + 1, s'.os⟩ (fun y => if y = x then some v else m' y) _ _ _ hlt hPv hn₃ (if_pos rfl) ?_ (hlive _ _ hst₃) (by omega) (fun b o hb e => up₃ b o ?_ hb (hk b o hb e)) (fun s₄ y X₄ hp hF => ?_) (fun s₄ X₄ hp => ?_)
      · obtain ⟨e, he⟩ := hacc₃; exact ⟨_, he, rfl⟩
      · rintro rfl; rw [nC] at e; cases e
      · have hsz' : ys.toArray.size ≤ sizeLine := by have := hfil.len; rw [List.size_toArray, sizeLine_eq]; omega
        refine wpAny_list_append_plain (hsz := hsz') (hacc₃.at fun o e => X₄.keep _ o e) fun h₅ hl₅ hs₅ => ?_
        refine ⟨n + 1 - (j + 1), by omega, j + 1, _, ys ++ [y], rfl, hlt, ?_, by simpa using hl₅, (hn₃.keeps X₄.keep).sameBut hs₅ (Ne.symm hDC), ?_, fun b o hb e => hs₅.extBut b o ?_ (X₄.keep _ _ (up₃ b o ?_ hb (hk b o hb e))), X₄.gens.trans hg, X₄.os.trans hos⟩
        · exact W.frame _ _ h₅ hst₃ fun b hb o e => hs₅.extBut b o (fun h => hDf (h ▸ hb)) (X₄.keep b o e)
        · unfold Fil
          rw [if_pos hp]
          refine ⟨ys, y, rfl, hfil₃.mono fun i y hF => Fm C D _ _ i y hF fun b o _ b' _ e => hs₅.extBut b o b' (X₄.keep _ _ e), Fm C D _ _ _ _ hF fun b o _ b' _ e => hs₅.extBut b o b' e⟩
        · rintro rfl; rw [nD] at e; cases e
        · rintro rfl; rw [nC] at e; cases e
      · refine ⟨n + 1 - (j + 1), by omega, j + 1, _, ys, rfl, hlt, W.frame _ _ _ hst₃ fun b _ o e => X₄.keep b o e, hacc₃.at fun o e => X₄.keep _ o e, hn₃.keeps X₄.keep, ?_, fun b o hb e => X₄.keep _ _ (up₃ b o ?_ hb (hk b o hb e)), X₄.gens.trans hg, X₄.os.trans hos⟩
        · unfold Fil
          rw [if_neg (by rw [hp]; decide)]
          exact hfil₃.mono fun i y hF => Fm C D _ _ i y hF fun b o _ _ _ e => X₄.keep _ _ e
        · rintro rfl; rw [nC] at e; cases e
    · have hin : j = n := by omega
      subst hin
      refine W.done _ _ _ hst' fun h₂ tk₂ hk₂ => ?_
      exact hRR C D _ m' ys nD nC hDC (hn'.at' fun o e => hk₂ _ o hCw e) (hacc'.at fun o e => hk₂ _ o hDw e) (hfil.mono fun i y hF => Fm C D _ _ i y hF fun b o _ _ c e => hk₂ b o c e) (fun b o hb e => hk₂ b o hb (hk b o hb e)) hg hos
  exact codeAny_compStart_list (loop _ rfl) (W.self 0 _ _ _ hst₁ (loop _ rfl))
theorem compX {elt iter : Expr} {x : Str} {px : Pos} {ifs : List Expr} {scope : Scope} {cl : List (Str × Addr)} {pos : Pos} {Q : Value → Shared → Prop}
    (hclos : closureFor scope env = pure cl) (hcell : ∀ y ∈ scope.names, y.2 ≠ .cell) (hkind : scope.kind = .function)
    (hnames : ∀ y ∈ scope.names, y.2 = .local → scope.names.lookup y.1 = some .local) (hx : scope.names.lookup x = some .local)
    (h : wpAny (model prog w) A (eval iter env) (fun xv s₁ => wpAny (model prog w) A (pyIter xv) (fun it s₂ => ∃ I fp wr n P St p F, it = .ref I ∧ Walks prog w A I fp wr n P St ∧ n ≤ 1000 ∧ St 0 s₂.heap ∧ (∀ b ∈ fp, @LT.lt Nat _ b s₂.heap.objs.size) ∧ (∀ i h, St i h → ∀ b ∈ wr, ∃ o, h.get? b = some o ∧ o.cls ≠ .type "tuple") ∧
      (∀ C D h h' i y, F C D h i y → (∀ b o, @Ne Nat b C → @Ne Nat b D → b ∉ wr → h.get? b = some o → h'.get? b = some o) → F C D h' i y) ∧
      Turn prog w A env scope cl x ifs elt wr P p F n s₂ ∧
      (∀ C D s' ys, s₂.heap.get? D = none → s₂.heap.get? C = none → s'.heap.IsList D ys.toArray → Fil p (F C D s'.heap) n ys → (∀ b o, b ∉ wr → s₂.heap.get? b = some o → s'.heap.get? b = some o) → s'.gens = s₂.gens → s'.os = s₂.os → Q (.ref D) s')) E s₁) E s)
    (hs : ∀ x, foldedSetIterable iter env x = pure x := by intro _; rfl) :
    wpAny (model prog w) A (eval (.ListComp elt [⟨.Name x px, iter, ifs, 0⟩] scope pos) env) Q E s := by
  rw [eval_ListComp]
  refine wpAny_comprehension_free (use := none) rfl hs hclos hkind hnames (wpAny_mono h (fun xv s₁ h₁ => wpAny_mono h₁ (fun it s₂ h₂ => ?_) fun _ _ e => e) fun _ _ e => e)
  obtain ⟨I, fp, wr, n, P, St, p, F, rfl, W, hsz, hst, hfp, hlive, Fm, hT, hQ⟩ := h₂
  refine compCore (RR := fun acc C => compPost (model prog w) A E none Q acc C) hcell hkind hx W hsz hst hfp hlive Fm hT fun C D s' m' ys nD nC hDC hn hpl hfil hk hg hos => ?_
  refine ⟨m', hn, fun h₃ hs₃ => hQ C D _ ys nD nC ?_ ?_ (fun b o hb e => ?_) hg hos⟩
  · exact (hpl.extBut hs₃.extBut hDC).isList
  · exact hfil.mono fun i y hF => Fm C D _ _ i y hF fun b o a _ c e => hs₃.extBut b o a e
  · exact hs₃.extBut b o (by rintro rfl; rw [nC] at e; cases e) (hk b o hb e)
theorem compU {elt iter : Expr} {x y : Str} {px py : Pos} {ifs : List Expr} {scope : Scope} {cl : List (Str × Addr)} {pos spos : Pos} {Q : Flow → Shared → Prop}
    (hsw : swapsWith (.ListComp elt [⟨.Name x px, iter, ifs, 0⟩] scope pos) (some (.Name y py)) spos.line env = pure true)
    (hclos : closureFor scope env = pure cl) (hcell : ∀ y ∈ scope.names, y.2 ≠ .cell) (hkind : scope.kind = .function)
    (hnames : ∀ y ∈ scope.names, y.2 = .local → scope.names.lookup y.1 = some .local) (hx : scope.names.lookup x = some .local)
    (h : wpAny (model prog w) A (eval iter env) (fun xv s₁ => wpAny (model prog w) A (pyIter xv) (fun it s₂ => ∃ I fp wr n P St p F, it = .ref I ∧ Walks prog w A I fp wr n P St ∧ n ≤ 1000 ∧ St 0 s₂.heap ∧ (∀ b ∈ fp, @LT.lt Nat _ b s₂.heap.objs.size) ∧ (∀ i h, St i h → ∀ b ∈ wr, ∃ o, h.get? b = some o ∧ o.cls ≠ .type "tuple") ∧
      (∀ C D h h' i y, F C D h i y → (∀ b o, @Ne Nat b C → @Ne Nat b D → b ∉ wr → h.get? b = some o → h'.get? b = some o) → F C D h' i y) ∧
      Turn prog w A env scope cl x ifs elt wr P p F n s₂ ∧
      (∀ C D s' m' ys, s₂.heap.get? D = none → s₂.heap.get? C = none → @Ne Nat D C → s'.heap.Ns C m' → s'.heap.PlainList D ys.toArray → Fil p (F C D s'.heap) n ys → (∀ b o, b ∉ wr → s₂.heap.get? b = some o → s'.heap.get? b = some o) → s'.gens = s₂.gens → s'.os = s₂.os →
        wpAny (model prog w) A (storeName env y (.ref D)) (fun _ s'' => ∃ m, s''.heap.Ns C m ∧ ∀ h', Heap.SameBut C s''.heap h' → Q .next { s'' with heap := h' }) E s')) E s₁) E s)
    (hs : ∀ x, foldedSetIterable iter env x = pure x := by intro _; rfl) :
    wpAny (model prog w) A (exec (.Assign [.Name y py] (.ListComp elt [⟨.Name x px, iter, ifs, 0⟩] scope pos) spos) env) Q E s := by
  rw [exec_Assign_Name_used _ _ _ _ hsw]
  refine wpAny_bind (wpAny_standAt (wpAny_bind ?_))
  show wpAny _ A (do let _ ← comprehension (.ListComp elt [⟨.Name x px, iter, ifs, 0⟩] scope pos) scope env _ (newList []) false (eval iter env) (some (assign (.Name y py) env))) _ _ s
  refine wpAny_bind (wpAny_mono (wpAny_comprehension_free (use := some (assign (.Name y py) env)) (Q := fun _ s' => Q .next s') rfl hs hclos hkind hnames
    (wpAny_mono h (fun xv s₁ h₁ => wpAny_mono h₁ (fun it s₂ h₂ => ?_) fun _ _ e => e) fun _ _ e => e)) (fun _ s' hq => wpAny_pure (wpAny_pure hq)) fun _ _ e => e)
  obtain ⟨I, fp, wr, n, P, St, p, F, rfl, W, hsz, hst, hfp, hlive, Fm, hT, hQ⟩ := h₂
  refine compCore (RR := fun acc C => compPost (model prog w) A E (some (assign (.Name y py) env)) (fun _ s' => Q .next s') acc C) hcell hkind hx W hsz hst hfp hlive Fm hT fun C D s' m' ys nD nC hDC hn hpl hfil hk hg hos => ?_
  show wpAny _ A (assign (.Name y py) env (.ref D)) _ _ _
  exact wpAny_assign_Name (hQ C D s' m' ys nD nC hDC hn hpl hfil hk hg hos)
end
end Mine
end
/-! part L2 -/
noncomputable section
open PySem PySem.W PyProof.Rows PySem.Calls
namespace Mine
abbrev csL (L : Nat) : List (Str × Addr) := [("least", L + 4), ("due", L + 3), ("points", L + 2), ("table", L + 1)]
theorem csL_cases {L : Nat} {n : Str} {c : Addr} (h : (csL L).lookup n = some c) : (n = "least" ∧ c = L + 4) ∨ (n = "due" ∧ c = L + 3) ∨ (n = "points" ∧ c = L + 2) ∨ (n = "table" ∧ c = L + 1) := by
  have := mem_of_lookup h
  simp only [List.mem_cons, List.not_mem_nil, or_false, Prod.mk.injEq] at this
  exact this
/-- the law's frame: L, its cells, and what lies apart from what is written -/
structure LS (h₀ : Heap) (Hs : List Addr) (L : Nat) (h : Heap) (m cm : Str → Option Value) (g : Heap) : Prop where
  ns : h.Ns L m
  cell : ∀ n c, (csL L).lookup n = some c → h.IsCell c (cm n)
  gk : ∀ b o, g.get? b = some o → h.get? b = some o
  gh : ∀ b ∈ Hs, g.get? b = none
  hk : ∀ b o, @Ne Nat b 16 → @Ne Nat b 67 → h₀.get? b = some o → g.get? b = some o
  zL : @LE.le Nat _ 71 L
  ol : ∀ b ∈ Hs, h₀.get? b = none ∨ @Eq Nat b 16 ∨ @Eq Nat b 67
section
variable {w : World} {M : Model} {A : Around} {E : Value → Shared → Prop} {s : Shared} {h₀ h h' g : Heap} {Hs : List Addr} {L : Nat} {m cm : Str → Option Value} {env : Env}
theorem LS.grow (S : LS h₀ Hs L h m cm g) (k : ∀ b o, @Ne Nat b 16 → @Ne Nat b 67 → h.get? b = some o → h'.get? b = some o) (h16 : 16 ∈ Hs) (h67 : 67 ∈ Hs) :
    ∃ g', LS h₀ Hs L h' m cm g' ∧ (∀ b o, g.get? b = some o → g'.get? b = some o) ∧ ∀ b o, b ∉ Hs → h'.get? b = some o → g'.get? b = some o := by
  have zL := S.zL
  have n16 : ∀ b o, g.get? b = some o → @Ne Nat b 16 ∧ @Ne Nat b 67 := fun b o e => ⟨(fun q => by rw [q, S.gh _ h16] at e; cases e), (fun q => by rw [q, S.gh _ h67] at e; cases e)⟩
  have sub : ∀ b o, g.get? b = some o → (hideAll h' Hs).get? b = some o := fun b o e => hideAll_get _ (k b o (n16 b o e).1 (n16 b o e).2 (S.gk b o e)) fun hb => by rw [S.gh _ hb] at e; cases e
  refine ⟨hideAll h' Hs, ⟨?_, ?_, fun b o e => of_hideAll _ e, fun b hb => hideAll_none _ hb, fun b o a c e => sub _ _ (S.hk b o a c e), zL, S.ol⟩, sub, fun b o hb e => hideAll_get _ e hb⟩
  · obtain ⟨o, es, ep, a, r⟩ := S.ns
    exact ⟨o, es, ep, k _ _ (by omega) (by omega) a, r⟩
  · intro n c e
    obtain ⟨o, a, r⟩ := S.cell n c e
    refine ⟨o, k _ _ ?_ ?_ a, r⟩ <;> rcases csL_cases e with ⟨_, rfl⟩ | ⟨_, rfl⟩ | ⟨_, rfl⟩ | ⟨_, rfl⟩ <;> omega
theorem LS.stL (S : LS h₀ Hs L h m cm g) (hs : Heap.SameBut L h h') {m' : Str → Option Value} (hn : h'.Ns L m') (hL : L ∈ Hs) : LS h₀ Hs L h' m' cm g := by
  refine ⟨hn, fun n c e => ?_, fun b o e => (hs.2 b fun q => by rw [q, S.gh _ hL] at e; cases e).trans (S.gk b o e), S.gh, S.hk, S.zL, S.ol⟩
  obtain ⟨o, a, r⟩ := S.cell n c e
  refine ⟨o, (hs.2 c ?_).trans a, r⟩
  rcases csL_cases e with ⟨_, rfl⟩ | ⟨_, rfl⟩ | ⟨_, rfl⟩ | ⟨_, rfl⟩ <;> (show @Ne Nat _ _; omega)
theorem LS.stC (S : LS h₀ Hs L h m cm g) {n : Str} {c : Addr} {v : Value} (hc : (csL L).lookup n = some c) (hs : Heap.SameBut c h h') (hv : h'.IsCell c (some v)) (hH : c ∈ Hs) : LS h₀ Hs L h' m (fun y => if y = n then some v else cm y) g := by
  refine ⟨?_, fun n' c' e => ?_, fun b o e => (hs.2 b fun q => by rw [q, S.gh _ hH] at e; cases e).trans (S.gk b o e), S.gh, S.hk, S.zL, S.ol⟩
  · obtain ⟨o, es, ep, a, r⟩ := S.ns
    refine ⟨o, es, ep, (hs.2 L ?_).trans a, r⟩
    rcases csL_cases hc with ⟨_, rfl⟩ | ⟨_, rfl⟩ | ⟨_, rfl⟩ | ⟨_, rfl⟩ <;> (show @Ne Nat _ _; omega)
  · by_cases hn : n' = n
    · subst hn
      rw [hc] at e; cases e
      rw [if_pos rfl]; exact hv
    · rw [if_neg hn]
      obtain ⟨o, a, r⟩ := S.cell n' c' e
      refine ⟨o, (hs.2 c' ?_).trans a, r⟩
      rcases csL_cases hc with ⟨q1, rfl⟩ | ⟨q1, rfl⟩ | ⟨q1, rfl⟩ | ⟨q1, rfl⟩ <;> rcases csL_cases e with ⟨q2, rfl⟩ | ⟨q2, rfl⟩ | ⟨q2, rfl⟩ | ⟨q2, rfl⟩ <;> first | (exact absurd (q2.trans q1.symm) hn) | (show @Ne Nat _ _; omega)
theorem LS.gl (S : LS h₀ Hs L h m cm g) (G : Gl w h₀) : Gl w g := ⟨fun a o n1 n2 e => S.hk _ _ n1 n2 (G.all a o n1 n2 e), let ⟨o, es, ep, ho, r⟩ := G.ns0; ⟨o, es, ep, S.hk _ _ (show @Ne Nat 0 16 by decide) (show @Ne Nat 0 67 by decide) ho, r⟩⟩
/-- store a local -/
theorem lstL {M : Model} {x : Str} {v : Value} {Q : Unit → Shared → Prop} (S : LS h₀ Hs L s.heap m cm g) (hL : L ∈ Hs) (hloc : env.locals = L) (hk : env.scope.kind = .function) (hl : env.kindOf x = some .local)
    (k : ∀ h', LS h₀ Hs L h' (fun y => if y = x then some v else m y) cm g → Heap.SameBut L s.heap h' → Q () { s with heap := h', toks := s.toks + 1 }) : wpAny M A (storeName env x v) Q E s := by
  subst hloc
  exact wpAny_storeName_local hl S.ns (fun h' hn hs => k h' (S.stL hs hn hL) hs) (by show (env.scope.kind == .class || (env.scope.kind == .module && env.locals != env.globals)) = false; rw [hk]; rfl)
theorem lstC {M : Model} {x : Str} {c : Addr} {v : Value} {Q : Unit → Shared → Prop} (S : LS h₀ Hs L s.heap m cm g) (hc : (csL L).lookup x = some c) (hH : c ∈ Hs) (hcs : env.cells = csL L) (hk : env.scope.kind = .function) (hl : env.kindOf x = some .cell)
    (k : ∀ h', LS h₀ Hs L h' m (fun y => if y = x then some v else cm y) g → Heap.SameBut c s.heap h' → Q () { s with heap := h' }) : wpAny M A (storeName env x v) Q E s :=
  wpAny_storeName_cell hk hl (by rw [hcs]; exact hc) (S.cell x c hc) fun h' hv hs => k h' (S.stC hc hs hv hH) hs
/-- read a cell -/
theorem lcell {M : Model} {x : Str} {pos : Pos} {c : Addr} {v : Value} {Q : Value → Shared → Prop} (hc : env.cells.lookup x = some c) (hv : s.heap.IsCell c (some v)) (hk : env.scope.kind = .function) (hl : env.kindOf x = some .cell) (h : Q v s) (hd : (x == ("__debug__" : Str)) = false := by decide) :
    wpAny M A (eval (.Name x pos) env) Q E s := wpAny_Name (wpAny_loadName_cell hk hl hc hv h) hd
end
end Mine
end
/-! part L24 -/
noncomputable section
open PySem PySem.W PyProof.Rows PySem.Calls
namespace Mine
theorem filter_places {α : Type} (f : α → Bool) (d : α) : ∀ (l : List α), ((List.range l.length).filter (fun i => f (l.getD i d))).map (fun i => l.getD i d) = l.filter f := by
  intro l
  have e : (List.range l.length).map (fun i => l.getD i d) = l := by
    apply List.ext_getElem
    · simp
    · intro i h1 h2
      simp [List.getD_eq_getElem?_getD, List.getElem?_eq_getElem h2]
  have : ((List.range l.length).filter (f ∘ fun i => l.getD i d)).map (fun i => l.getD i d) = ((List.range l.length).map (fun i => l.getD i d)).filter f := by rw [List.filter_map]
  rw [e] at this
  exact this
theorem ltPt_iff (p q : P2) : ltPt p q = true ↔ Hp p q := by
  unfold ltPt Hp
  split
  · rename_i h; simp [h]
  · rename_i h; simp [h]
theorem minF_min : ∀ (l : List P2) (b : P2), ∀ q ∈ b :: l, q = minF b l ∨ Hp (minF b l) q
  | [], b, q, h => .inl (List.mem_singleton.mp h)
  | x :: l, b, q, h => by
    rw [minF_cons]
    have ih := minF_min l (if ltPt x b then x else b)
    have hb : (if ltPt x b then x else b) = minF (if ltPt x b then x else b) l ∨ Hp (minF (if ltPt x b then x else b) l) (if ltPt x b then x else b) := ih _ (.head _)
    have tr : ∀ {a c d : P2}, (c = a ∨ Hp a c) → (d = c ∨ Hp c d) → d = a ∨ Hp a d := by
      rintro a c d (rfl | h1) (rfl | h2)
      · exact .inl rfl
      · exact .inr h2
      · exact .inr h1
      · right; unfold Hp at *; omega
    have tot : ∀ c d : P2, ¬ Hp c d → c = d ∨ Hp d c := by
      intro c d h
      unfold Hp at *
      by_cases e1 : c.1 = d.1
      · by_cases e2 : c.2 = d.2
        · exact .inl (Prod.ext e1 e2)
        · exact .inr (by omega)
      · exact .inr (by omega)
    rcases List.mem_cons.mp h with rfl | h
    · refine tr hb ?_
      split
      · rename_i hlt; exact .inr ((ltPt_iff _ _).mp hlt)
      · exact .inl rfl
    rcases List.mem_cons.mp h with rfl | h
    · refine tr hb ?_
      split
      · exact .inl rfl
      · rename_i hlt
        exact tot q b fun hh => hlt ((ltPt_iff _ _).mpr hh)
    · exact ih q (.tail _ h)
end Mine
end
/-! part L25 -/
noncomputable section
open PySem PySem.W PyProof.Rows PySem.Calls
namespace Mine
theorem dueF_nil {pts d : List P2} {o e : P2} {k : Nat} (he : d.getLast?.getD o = e) (h : pts.filter (fun t => isNext pts e t) = []) : dueF pts o (k + 1) d = d := by
  subst he; unfold dueF; rw [h]
theorem dueF_cons {pts d r : List P2} {o e x : P2} {k : Nat} (he : d.getLast?.getD o = e) (h : pts.filter (fun t => isNext pts e t) = x :: r) : dueF pts o (k + 1) d = if x = o then d else dueF pts o k (d ++ [x]) := by
  subst he; rw [dueF, h]
theorem swF {elt : Expr} {gens : List Comprehension} {sc : Scope} {p pos : Pos} {t : Str} {line : Nat} {env : Env} (h : env.kindOf t = some .cell) : swapsWith (.ListComp elt gens sc p) (some (.Name t pos)) line env = pure false := by
  unfold swapsWith
  show (pure (env.blockKind == .function && env.kindOf t == some .local && pos.line == (Expr.ListComp elt gens sc p).pos.line && !(sc.names.any fun (n, k) => n == t && (k == .local || k == .cell))) : Sem Bool) = pure false
  have e : (env.kindOf t == some NameKind.local) = false := by rw [h]; rfl
  rw [e, Bool.and_false, Bool.false_and, Bool.false_and]
theorem relAny {env : Env} {x : Str} {k₀ k₁ : NameKind} (hk : (if (k₀ == NameKind.free && env.scope.kind == .function && env.kindOf x == some .cell) = true then NameKind.cell else k₀) = k₁) : ∀ {names : List (Str × NameKind)}, names.lookup x = some k₀ →
    (names.map fun (n, k) => if (k == NameKind.free && env.scope.kind == .function && env.kindOf n == some .cell) then (n, NameKind.cell) else (n, k)).lookup x = some k₁
  | [], h => by simp at h
  | (n, k) :: r, h => by
    have ih := @relAny env x k₀ k₁ hk r
    show List.lookup x ((if (k == NameKind.free && env.scope.kind == .function && env.kindOf n == some .cell) = true then (n, NameKind.cell) else (n, k)) :: _) = _
    cases hx : x == n with
    | true =>
      have e := beq_iff_eq.mp hx
      subst e
      simp only [List.lookup_cons, hx] at h
      cases h
      by_cases hc : (k₀ == NameKind.free && env.scope.kind == .function && env.kindOf x == some .cell) = true
      · rw [if_pos hc] at hk ⊢
        rw [List.lookup_cons, hx, hk]
      · rw [if_neg hc] at hk ⊢
        rw [List.lookup_cons, hx, hk]
    | false =>
      simp only [List.lookup_cons, hx] at h
      by_cases hc : (k == NameKind.free && env.scope.kind == .function && env.kindOf n == some .cell) = true
      · rw [if_pos hc]; simp only [List.lookup_cons, hx]; exact ih h
      · rw [if_neg hc]; simp only [List.lookup_cons, hx]; exact ih h
theorem relL {env : Env} {sc : Scope} {cl : List (Str × Addr)} {C : Addr} {x : Str} (h : sc.names.lookup x = some .local) : (compEnvC sc cl C env).kindOf x = some .local := relAny rfl h
theorem relG {env : Env} {sc : Scope} {cl : List (Str × Addr)} {C : Addr} {x : Str} (h : sc.names.lookup x = some .globalImplicit) : (compEnvC sc cl C env).kindOf x = some .globalImplicit := relAny rfl h
theorem relC {env : Env} {sc : Scope} {cl : List (Str × Addr)} {C : Addr} {x : Str} (v5 : env.scope.kind = .function) (hx : env.kindOf x = some .cell) (h : sc.names.lookup x = some .free) : (compEnvC sc cl C env).kindOf x = some .cell := relAny (by rw [v5, hx]; rfl) h
section
variable {w : World} {A : Around} {E : Value → Shared → Prop} {s : Shared} {env : Env}
theorem range_c {x : Str} {rp rpos lp lpos xp : Pos} {c l : Addr} {vs : List Value} {K : Value → Shared → Prop} (G : Gl w s.heap) (v2 : env.globals = 3) (v3 : env.builtins = 0) (v5 : env.scope.kind = .function) (kr : env.kindOf "range" = some .globalImplicit) (kl : env.kindOf "len" = some .globalImplicit)
    (hc : env.cells.lookup x = some c) (hv : s.heap.IsCell c (some (.ref l))) (hx : env.kindOf x = some .cell) (hd : (x == ("__debug__" : Str)) = false) (hl : s.heap.IsList l vs.toArray) (h64 : vs.length < 64)
    (h : ∀ s' I, Ext s s' → IsRangeIter s'.heap I (0 + ((0 : Nat) : Int) * 1) ((vs.length : Int) - ((0 : Nat) : Int)) 1 → @LE.le Nat _ s.heap.objs.size I → @LT.lt Nat _ I s'.heap.objs.size → K (.ref I) s') :
    wpAny (model P0 w) A (eval (.Call (.Name "range" rp) [.Call (.Name "len" lp) [.Name x xp] [] lpos] [] rpos) env) (fun xv s₁ => wpAny (model P0 w) A (pyIter xv) K E s₁) E s := by
  refine wpAny_Call_NameR (bname (w := w) G (b_range w) ?_ v2 v3 v5 kr)
  refine PyProof.Rows.callWith_type1 (args_cons (Call_ (bname (w := w) G (b_len w) ?_ v2 v3 v5 kl)))
  refine PyProof.Rows.callWith_builtin1 (args_cons (lcell hc hv v5 hx (args_nil (call_len_list hl (by rw [List.size_toArray]; omega) ?_)) hd))
  refine args_nil (call_range_1 ?_)
  refine wpAny_pyIter_range (IsRange.new ..) (small_one (by decide) (by decide) (by rw [List.size_toArray]; omega) (by rw [List.size_toArray]; omega)) ?_
  have e : Builtin.Range.rangeSize 0 (vs.toArray.size : Int) 1 = (vs.length : Int) := by rw [rangeSize_one, List.size_toArray]; split <;> omega
  rw [e]
  refine h _ _ ⟨fun b o e => Heap.get?_push_of_some _ (Heap.get?_push_of_some _ e), rfl, rfl⟩ ?_ (by simp only [Heap.size_push]; exact Nat.le_succ _) (by simp only [Heap.size_push]; exact Nat.lt_succ_self _)
  show Heap.get? _ _ = _
  have := Heap.get?_push_size (h := s.heap.push { cls := .type "range", data := .fields #[.int 0 (s.toks + 1 + 1), .int (vs.toArray.size : Int) (s.toks + 1), .int 1 (s.toks + 1 + 1 + 1)] }) (o := { cls := .type "range_iterator", data := .fields #[rawInt 0, rawInt (vs.length : Int), rawInt 1] }) rfl
  simpa using this
/-- an item of a list of ints, from the front or from behind -/
theorem itemZ {value slice : Expr} {l : Addr} {vs : List Value} {ns : List Int} {k : Int} {u : Tok} {j : Nat} {Q : Value → Shared → Prop} (hl : s.heap.IsList l vs.toArray) (hi : IntsAre vs ns) (hk : k = j ∨ k = (j : Int) - ns.length) (hj : j < ns.length) (h64 : ns.length < 64) (h : ∀ t, Q (.int (ns.getD j 0) t) s)
    (hs : subscripted slice false (.ref l) (.int k u) = operate [.ref l, .int k u] (getItem (.ref l) (.int k u)) := by with_unfolding_all rfl) :
    wpAny (model P0 w) A (subscriptTail value slice (.ref l) (.int k u)) Q E s := by
  have hlen := hi.length
  obtain ⟨t, ht⟩ := hi.get j (ns.getD j 0) (by rw [List.getD_eq_getElem?_getD, List.getElem?_eq_getElem hj]; rfl)
  refine tail_any hl.typeIs slot_list_getitem.lookup ?_ hs
  rcases hk with rfl | rfl
  · exact wpAny_getItem_list hl (by omega) (by omega) (x := .int (ns.getD j 0) t) (by simpa using ht) (h t)
  · refine wpAny_getItem_list_neg hl (by omega) (by rw [List.size_toArray]; omega) (by omega) (x := .int (ns.getD j 0) t) ?_ (h t)
    have : ((j : Int) - ns.length + (vs.toArray.size : Int)).toNat = j := by rw [List.size_toArray]; omega
    rw [this]
    simpa using ht
theorem callKw {M : Model} {id : Str} {p pos : Pos} {args : List Expr} {kws : List Keyword} {Q : Value → Shared → Prop}
    (h : wpAny M A (eval (.Name id p) env) (fun f s₁ => wpAny M A (callWith pos f [] (backTo pos (starEach args env)) (backToKw pos (keywordEach kws env))) Q E s₁) E s) : wpAny M A (eval (.Call (.Name id p) args kws pos) env) Q E s := by
  show wpAny M A (do callWith pos (← eval (.Name id p) env) [] (backTo pos (starEach args env)) (backToKw pos (keywordEach kws env))) Q E s
  exact wpAny_bind h
theorem lamMk {h : Heap} {g : Array GenState} {d : Drawn} {tk : Nat} {os : OsState} {params : Arguments} {body : Expr} {scope : Scope} {clos : List (Str × Addr)} {pos : Pos} {ps : Array Value} {Q : Value → Shared → Prop} (G : Gl w h) (v2 : env.globals = 3) (v4 : env.code = .ref 69) (v7 : env.qual = "law.<locals>.") (hdef : defaultsOf params env = ([], [])) (hcl : closureFor scope env = pure clos) (t67 : h.get? 67 = some (tabObj ps)) (ht : TriplesOk ps.toList) (hnf : codeAmong pos ps.toList = none)
    (k : ∀ h' f c1 ctv tk', (∀ b o, @Ne Nat b 67 → h.get? b = some o → h'.get? b = some o) → h'.get? 67 = some (tabObj (ps ++ #[rawInt pos.line, rawInt pos.col, .ref c1])) → h'.get? f = some (kla_obj "<lambda>" "law.<locals>.<lambda>" params body scope clos ((mgl w "__name__").getD .none) c1 ctv) → h'.CodeRec (.ref c1) "law.<locals>.<lambda>" → @LE.le Nat _ h.objs.size f → @LE.le Nat _ h.objs.size c1 → Q (.ref f) ⟨h', g, d, tk', os⟩) :
    wpAny (model P0 w) A (eval (.Lambda params body scope pos) env) Q E ⟨h, g, d, tk, os⟩ := by
  have hq : env.qual ++ "<lambda>" = ("law.<locals>.<lambda>" : Str) := by rw [v7]; kernel_rfl
  have hcode : CodeHd h 69 67 := ⟨_, _, _, _, _, _, _, _, _, G.all 69 _ (by decide) (by decide) rfl, rfl, rfl, rfl, rfl, rfl, rfl, rfl, rfl, by decide⟩
  refine kla_eval hdef ?_
  rw [hq]
  refine kla_makeFunction (mg := mgl w) hcl v2 G.ns3 v4 hcode t67 ht hnf (by decide) (G.builtins (.inr (.inr rfl))) fun c1 ctv1 h10 tk10 hx10 z10 zz10 hrec10 ht10 => ?_
  refine k _ _ c1 ctv1 tk10 (fun b o hb e => Heap.get?_push_of_some _ (hx10 b o hb e)) (Heap.get?_push_of_some _ ht10) (Heap.get?_push_size _ rfl) (hrec10.push _) ?_ z10
  have t : @LT.lt Nat _ c1 h10.objs.size := zz10
  have t2 : @LE.le Nat _ h.objs.size c1 := z10
  show @LE.le Nat _ h.objs.size h10.objs.size
  omega
theorem KT.but {n : Nat} {h h' : Heap} {kc P : Addr} {p : Array Value} (x : KT n h kc P) (k : ∀ b o, @Ne Nat b 67 → h.get? b = some o → h'.get? b = some o) (t67 : h.get? 67 = some (tabObj p)) (ht : TriplesOk p.toList) (zP : @LE.le Nat _ 71 P) : KT n h' kc P := by
  obtain ⟨ps, a, b, c, d, e⟩ := x
  refine ⟨ps, ?_, k _ _ (by omega) b, c, fun i hi => ?_, e⟩
  · obtain ⟨o, vs, file, tf, flags, tg, inF, text, tt, y1, y2, r⟩ := a
    refine ⟨o, vs, file, tf, flags, tg, inF, text, tt, k _ _ (fun q => ?_) y1, y2, r⟩
    rw [q, t67] at y1; cases y1; cases y2
  · obtain ⟨cv, y, c', o, vs, t, e1, g, hd, hv⟩ := d i hi
    refine ⟨cv, y, c', o, vs, t, e1, k _ _ (fun q => ?_) g, hd, hv⟩
    rw [q, t67] at g
    have e2 : tabObj p = o := Option.some.inj g
    rw [← e2] at hd
    have hd' : p = vs := by injection hd
    rw [← hd'] at hv
    obtain ⟨l⟩ := p
    match l, ht, hv with
    | .int _ _ :: .int _ _ :: _ :: _, _, r => simp at r
theorem LS.on {h₀ h h' g : Heap} {Hs : List Addr} {L : Nat} {m cm : Str → Option Value} (S : LS h₀ Hs L h m cm g) (k : ∀ b o, h.get? b = some o → h'.get? b = some o) : LS h₀ Hs L h' m cm g :=
  ⟨S.ns.keeps k, fun n c e => (S.cell n c e).keeps k, fun b o e => k _ _ (S.gk _ _ e), S.gh, S.hk, S.zL, S.ol⟩
theorem LS.same {h₀ h h' g : Heap} {Hs : List Addr} {L : Nat} {m cm : Str → Option Value} (S : LS h₀ Hs L h m cm g) {a : Addr} (k : Heap.ExtBut a h h') (ha : g.get? a = none) (hb : ∀ b ∈ [L, L + 1, L + 2, L + 3, L + 4], @Ne Nat b a) : LS h₀ Hs L h' m cm g := by
  refine ⟨?_, fun n c e => ?_, fun b o e => k _ _ (fun q => by rw [q, ha] at e; cases e) (S.gk _ _ e), S.gh, S.hk, S.zL, S.ol⟩
  · obtain ⟨o, es, ep, x, r⟩ := S.ns
    exact ⟨o, es, ep, k _ _ (hb L (by simp)) x, r⟩
  · obtain ⟨o, x, r⟩ := S.cell n c e
    refine ⟨o, k _ _ (hb c ?_) x, r⟩
    rcases csL_cases e with ⟨_, rfl⟩ | ⟨_, rfl⟩ | ⟨_, rfl⟩ | ⟨_, rfl⟩ <;> simp
theorem Pts.to {h g : Heap} (k : ∀ a q, Pt h a q → Pt g a q) : ∀ {vs : List Value} {ps : List P2}, Pts h vs ps → Pts g vs ps
  | [], [], _ => trivial
  | .ref _ :: _, _ :: _, ⟨x, y⟩ => ⟨k _ _ x, Pts.to k y⟩
/-- what is written is none of these -/
theorem LS.out {h₀ h g : Heap} {Hs : List Addr} {L : Nat} {m cm : Str → Option Value} (S : LS h₀ Hs L h m cm g) (hH : ∀ b ∈ Hs, b ∈ [L, L + 1, L + 2, L + 3, L + 4, 16, 67]) {p1 p2 : Array Value} (t16 : h.get? 16 = some (tabObj p1)) (t67 : h.get? 67 = some (tabObj p2)) {a : Addr} {o : Obj} (e : h.get? a = some o)
    (hd : ∀ es n, o.data ≠ .dict es n) (hc : ∀ v, o.data ≠ .cell v) (hf : ∀ ps, o ≠ tabObj ps) : a ∉ Hs := by
  intro hm
  have := hH a hm
  simp only [List.mem_cons, List.not_mem_nil, or_false] at this
  rcases this with rfl | rfl | rfl | rfl | rfl | rfl | rfl
  · obtain ⟨o', es, ep, ho, hd', _⟩ := S.ns
    rw [ho] at e; cases e; exact hd _ _ hd'
  · obtain ⟨o', ho, hd'⟩ := S.cell "table" _ rfl
    rw [ho] at e; cases e; exact hc _ hd'
  · obtain ⟨o', ho, hd'⟩ := S.cell "points" _ rfl
    rw [ho] at e; cases e; exact hc _ hd'
  · obtain ⟨o', ho, hd'⟩ := S.cell "due" _ rfl
    rw [ho] at e; cases e; exact hc _ hd'
  · obtain ⟨o', ho, hd'⟩ := S.cell "least" _ rfl
    rw [ho] at e; cases e; exact hc _ hd'
  · rw [t16] at e; cases e; exact hf _ rfl
  · rw [t67] at e; cases e; exact hf _ rfl
theorem LS.fresh {h₀ h g : Heap} {Hs : List Addr} {L : Nat} {m cm : Str → Option Value} (S : LS h₀ Hs L h m cm g) (hH : ∀ b ∈ Hs, b ∈ [L, L + 1, L + 2, L + 3, L + 4, 16, 67]) {p1 p2 : Array Value} (t16 : h.get? 16 = some (tabObj p1)) (t67 : h.get? 67 = some (tabObj p2)) {a : Addr} (e : h.get? a = none) : a ∉ Hs := by
  intro hm
  have := hH a hm
  simp only [List.mem_cons, List.not_mem_nil, or_false] at this
  rcases this with rfl | rfl | rfl | rfl | rfl | rfl | rfl
  · obtain ⟨o', es, ep, ho, hd', _⟩ := S.ns
    rw [ho] at e; cases e
  · obtain ⟨o', ho, hd'⟩ := S.cell "table" _ rfl
    rw [ho] at e; cases e
  · obtain ⟨o', ho, hd'⟩ := S.cell "points" _ rfl
    rw [ho] at e; cases e
  · obtain ⟨o', ho, hd'⟩ := S.cell "due" _ rfl
    rw [ho] at e; cases e
  · obtain ⟨o', ho, hd'⟩ := S.cell "least" _ rfl
    rw [ho] at e; cases e
  · rw [t16] at e; cases e
  · rw [t67] at e; cases e
theorem LS.pt {h₀ h g : Heap} {Hs : List Addr} {L : Nat} {m cm : Str → Option Value} (S : LS h₀ Hs L h m cm g) (hH : ∀ b ∈ Hs, b ∈ [L, L + 1, L + 2, L + 3, L + 4, 16, 67]) {p1 p2 : Array Value} (t16 : h.get? 16 = some (tabObj p1)) (t67 : h.get? 67 = some (tabObj p2)) (hin : ∀ b o, b ∉ Hs → h.get? b = some o → g.get? b = some o) {a : Addr} {q : P2} (x : Pt h a q) : Pt g a q := by
  obtain ⟨t, u, o, ho, hc, n, hd⟩ := x
  refine ⟨t, u, o, hin _ _ (S.out hH t16 t67 ho (fun _ _ e => by rw [hd] at e; cases e) (fun _ e => by rw [hd] at e; cases e) (fun _ e => by rw [e] at hd; cases hd)) ho, hc, n, hd⟩
theorem LS.codeTo {h₀ h g : Heap} {Hs : List Addr} {L : Nat} {m cm : Str → Option Value} (S : LS h₀ Hs L h m cm g) (hH : ∀ b ∈ Hs, b ∈ [L, L + 1, L + 2, L + 3, L + 4, 16, 67]) {p1 p2 : Array Value} (t16 : h.get? 16 = some (tabObj p1)) (t67 : h.get? 67 = some (tabObj p2)) (ht1 : TriplesOk p1.toList) (ht2 : TriplesOk p2.toList) (hin : ∀ b o, b ∉ Hs → h.get? b = some o → g.get? b = some o) {cv : Value} {q : Str} (x : h.CodeRec cv q) : g.CodeRec cv q := by
  obtain ⟨c, o, vs, t, e, ho, hd, hv⟩ := x
  have no : ∀ {p : Array Value}, TriplesOk p.toList → o = tabObj p → False := fun {p} ht e => by
    rw [e] at hd
    have hd' : p = vs := by injection hd
    rw [← hd'] at hv
    obtain ⟨l⟩ := p
    match l, ht, hv with
    | .int _ _ :: .int _ _ :: _ :: _, _, r => simp at r
  refine ⟨c, o, vs, t, e, hin _ _ (fun hm => ?_) ho, hd, hv⟩
  have := hH c hm
  simp only [List.mem_cons, List.not_mem_nil, or_false] at this
  rcases this with rfl | rfl | rfl | rfl | rfl | rfl | rfl
  · obtain ⟨o', es, ep, ho', hd', _⟩ := S.ns
    rw [ho'] at ho; cases ho; rw [hd'] at hd; cases hd
  · obtain ⟨o', ho', hd'⟩ := S.cell "table" _ rfl
    rw [ho'] at ho; cases ho; rw [hd'] at hd; cases hd
  · obtain ⟨o', ho', hd'⟩ := S.cell "points" _ rfl
    rw [ho'] at ho; cases ho; rw [hd'] at hd; cases hd
  · obtain ⟨o', ho', hd'⟩ := S.cell "due" _ rfl
    rw [ho'] at ho; cases ho; rw [hd'] at hd; cases hd
  · obtain ⟨o', ho', hd'⟩ := S.cell "least" _ rfl
    rw [ho'] at ho; cases ho; rw [hd'] at hd; cases hd
  · rw [t16] at ho; exact no ht1 (Option.some.inj ho).symm
  · rw [t67] at ho; exact no ht2 (Option.some.inj ho).symm
theorem LS.katTo {h₀ h g : Heap} {Hs : List Addr} {L n : Nat} {m cm : Str → Option Value} (S : LS h₀ Hs L h m cm g) (hH : ∀ b ∈ Hs, b ∈ [L, L + 1, L + 2, L + 3, L + 4, 16, 67]) {p1 p2 : Array Value} (t16 : h.get? 16 = some (tabObj p1)) (t67 : h.get? 67 = some (tabObj p2)) (ht1 : TriplesOk p1.toList) (ht2 : TriplesOk p2.toList) (hin : ∀ b o, b ∉ Hs → h.get? b = some o → g.get? b = some o) {D : KD} {f : Addr} (X : KAt w h D f) (hn : ∀ b ∈ Hs, @LT.lt Nat _ b n) (z : @LT.lt Nat _ n D.fi) (zc : @LT.lt Nat _ n D.cell) : KAt w g D f := by
  have big : ∀ b : Addr, @LT.lt Nat _ n b → b ∉ Hs := fun b hb hm => Nat.lt_irrefl _ (Nat.lt_trans hb (hn b hm))
  have a1 := X.a1; have a2 := X.a2; have a3 := X.a3; have a4 := X.a4
  refine ⟨fun a o e => hin _ _ (big a ?_) (X.inn a o e), X.a1, X.a2, X.a3, X.a4, S.codeTo hH t16 t67 ht1 ht2 hin X.ci, S.codeTo hH t16 t67 ht1 ht2 hin X.cl, ?_⟩
  · have hm := mem_of_lookupK e
    simp only [KD.fr, List.mem_cons, List.not_mem_nil, or_false, Prod.mk.injEq] at hm
    rcases hm with ⟨rfl, _⟩ | ⟨rfl, _⟩ | ⟨rfl, _⟩ | ⟨rfl, _⟩ | ⟨rfl, _⟩ <;> omega
  · obtain ⟨o, ho, hd⟩ := X.cell
    exact ⟨o, hin _ _ (big _ zc) ho, hd⟩
end
end Mine
end
/-! part L3 -/
noncomputable section
open PySem PySem.W PyProof.Rows PySem.Calls
namespace Mine
def ptAt (tz : List Int) (k : Nat) : P2 := ((tz.getD (if k = 0 then tz.length - 1 else k - 1) 0).fmod 64, (tz.getD k 0).fmod 64)
def ptsOf (tz : List Int) : List P2 := (List.range tz.length).map (ptAt tz)
theorem ptAt_bd (tz : List Int) (k : Nat) : Bd (ptAt tz k) := by
  have h : ∀ x : Int, 0 ≤ x.fmod 64 ∧ x.fmod 64 ≤ 63 := fun x => by rw [Int.fmod_eq_emod_of_nonneg x (by decide)]; omega
  exact ⟨(h _).1, (h _).2, (h _).1, (h _).2⟩
theorem Fil.pts {h : Heap} {q : Nat → P2} {p : Nat → Bool} {F : Nat → Value → Prop} (hF : ∀ i y, F i y → ∃ a, y = .ref a ∧ Pt h a (q i)) : ∀ {k : Nat} {ys : List Value}, Fil p F k ys → Pts h ys (((List.range k).filter p).map q)
  | 0, ys, e => by rw [show ys = [] from e]; exact trivial
  | k + 1, ys, e => by
    rw [List.range_succ, List.filter_append]
    unfold Fil at e
    split at e
    · rename_i hp
      obtain ⟨ys', y, rfl, b, c⟩ := e
      obtain ⟨a, rfl, ha⟩ := hF _ _ c
      simp only [List.filter_cons, hp, if_true, List.filter_nil, List.map_append, List.map_cons, List.map_nil]
      exact Pts.append (b.pts hF) ⟨ha, trivial⟩
    · rename_i hp
      simp only [List.filter_cons, hp, Bool.false_eq_true, if_false, List.filter_nil, List.append_nil]
      exact e.pts hF
set_option maxRecDepth 100000 in
set_option maxHeartbeats 16000000 in
theorem law_c : Walk Mine.top := by
  intro w s₁ l vals zs KX hb0 hg hl hi hlen
  have G : Gl w s₁.heap := ⟨fun a o _ _ e => KX a o e, hb0⟩
  have hz : @LE.le Nat _ 71 s₁.heap.objs.size := Heap.lt_size (G.all 70 _ (by decide) (by decide) rfl)
  have e16 : s₁.heap.get? 16 = some (tabObj #[]) := KX 16 _ rfl
  have e67 : s₁.heap.get? 67 = some (tabObj #[]) := KX 67 _ rfl
  refine wpAny_call (codeAny_call_cells (binds := [("script", .ref l)]) (by decide) (G.all 70 _ (by decide) (by decide) rfl) rfl G.nolimit ⟨_, _, _, _, rfl, G.all 69 _ (by decide) (by decide) rfl, rfl, rfl⟩ rfl rfl rfl (fun x hx => ?_) fun s₂ hin => ?_)
  · obtain rfl := List.mem_singleton.mp hx
    exact .inl rfl
  obtain ⟨L, hL⟩ : ∃ L : Nat, L = s₁.heap.objs.size := ⟨_, rfl⟩
  rw [← hL] at hin ⊢
  generalize henv : callEnvC _ L 70 = env at hin ⊢
  have v1 : env.locals = L := by rw [← henv]; rfl
  have v2 : env.globals = 3 := by rw [← henv]; rfl
  have v3 : env.builtins = 0 := by rw [← henv]; rfl
  have v4 : env.code = .ref 69 := by rw [← henv]; rfl
  have v5 : env.scope.kind = .function := by rw [← henv]; rfl
  have v6 : env.cells = csL L := by rw [← henv]; rfl
  have v7 : env.qual = "law.<locals>." := by rw [← henv]; kernel_rfl
  have kL : ∀ x, x ∈ ["script", "k", "key", "others", "after"] → env.kindOf (Str.ofString x) = some .local := by
    rw [← henv]; intro x hx; simp only [List.mem_cons, List.not_mem_nil, or_false] at hx
    rcases hx with rfl | rfl | rfl | rfl | rfl <;> rfl
  have kC : ∀ x, x ∈ ["table", "points", "due", "least"] → env.kindOf (Str.ofString x) = some .cell := by
    rw [← henv]; intro x hx; simp only [List.mem_cons, List.not_mem_nil, or_false] at hx
    rcases hx with rfl | rfl | rfl | rfl <;> rfl
  have kG : ∀ x, x ∈ ["range", "len", "min", "cmp_to_key", "sorted", "reduce", "_law_push"] → env.kindOf (Str.ofString x) = some .globalImplicit := by
    rw [← henv]; intro x hx; simp only [List.mem_cons, List.not_mem_nil, or_false] at hx
    rcases hx with rfl | rfl | rfl | rfl | rfl | rfl | rfl <;> rfl
  have hmS : bindL env.kindOf [("script", Value.ref l)] (fun _ => none) = fun y : Str => if y = ("script" : Str) then some (Value.ref l) else none := by rw [← henv]; rfl
  have hcmS : bindC env.kindOf [("script", Value.ref l)] (fun _ => none) = fun _ => none := by rw [← henv]; rfl
  rw [hmS, hcmS, v6, v1] at hin
  obtain ⟨⟨⟨h1, tk1, e1⟩, hns, hk1, hfr⟩, hcell, _, _⟩ := hin
  clear henv hmS hcmS
  subst e1
  refine hideQE fun QQ EE hQQ => ?_
  have hA' : (callerA.deeper env).handled = none ∧ (callerA.deeper env).depth < 400 ∧ (callerA.deeper env).units < 100 := ⟨rfl, by show 301 + 1 < 400; omega, by show 4 + 3 < 100; omega⟩
  generalize callerA.deeper env = A at hA' ⊢
  obtain ⟨hh, hdep, hun⟩ := hA'
  have hsz1 : ∀ b o, s₁.heap.get? b = some o → @LT.lt Nat _ b L := fun b o e => by rw [hL]; exact Heap.lt_size e
  have zL : @LE.le Nat _ 71 L := by omega
  obtain ⟨Hs, hHs⟩ : ∃ Hs : List Addr, Hs = [L, L + 1, L + 2, L + 3, L + 4, 16, 67] := ⟨_, rfl⟩
  have nold : ∀ b, @LE.le Nat _ L b → s₁.heap.get? b = none := fun b hb => Heap.get?_none_of_le (by rw [← hL]; exact hb)
  have S : LS s₁.heap Hs L h1 (fun y : Str => if y = ("script" : Str) then some (Value.ref l) else none) (fun _ => none) (hideAll h1 Hs) := by
    refine ⟨hns, fun n c e => hcell n c e, fun b o e => of_hideAll _ e, fun b hb => hideAll_none _ hb, fun b o a c e => hideAll_get _ (hk1 _ _ e) ?_, zL, ?_⟩
    · rw [hHs]
      have := hsz1 b o e
      simp only [List.mem_cons, List.not_mem_nil, or_false, not_or]
      refine ⟨?_, ?_, ?_, ?_, ?_, a, c⟩ <;> (show ¬ @Eq Nat _ _; omega)
    · intro b hb
      rw [hHs] at hb
      simp only [List.mem_cons, List.not_mem_nil, or_false] at hb
      rcases hb with rfl | rfl | rfl | rfl | rfl | rfl | rfl
      · exact .inl (nold _ (Nat.le_refl _))
      · exact .inl (nold _ (by omega))
      · exact .inl (nold _ (by omega))
      · exact .inl (nold _ (by omega))
      · exact .inl (nold _ (by omega))
      · exact .inr (.inl rfl)
      · exact .inr (.inr rfl)
  generalize hideAll h1 Hs = g at S
  have i16 : 16 ∈ Hs := by rw [hHs]; simp
  have i67 : 67 ∈ Hs := by rw [hHs]; simp
  have iL : L ∈ Hs := by rw [hHs]; simp
  have t16 := hk1 _ _ e16
  have t67 := hk1 _ _ e67
  have hl1 : h1.IsList l vals.toArray := let ⟨o, ho, r⟩ := hl; ⟨o, hk1 _ _ ho, r⟩
  refine wpAny_execs_cons (wpAny_Assign_Name (wpAny_BinOp (wpAny_Subscript_list_slice (lname (v1 ▸ S.ns) (if_pos rfl) (evalPart_none_step (evalPart_some_step (wpAny_Constant_int ⟨l, vals.toArray, none, some 40, rfl, hl1, by rw [List.size_toArray, sizeLine_eq, hi.length]; omega, .none, .int _ _, ?_⟩))) v5 (kL "script" (by simp))))))
  have e40 : slicePick vals.toArray none (some 40) none = (vals.take 40).toArray := by
    have := slicePick_upto' vals.toArray 40
    simpa using this
  rw [e40]
  refine List_ (spliced_more (wpAny_Constant_int (spliced_none (wpAny_newList ?_))))
  generalize tk1 + 1 = t9
  have q1 : ((h1.push { cls := .type "slice", data := .fields #[.none, .int 40 tk1, .none] }).push { cls := .type "list", data := .seq (vals.take 40).toArray }).get? (h1.objs.size + 1) = some { cls := .type "list", data := .seq (vals.take 40).toArray } := by
    have := Heap.get?_push_size (h := h1.push { cls := .type "slice", data := .fields #[.none, .int 40 tk1, .none] }) (o := { cls := .type "list", data := .seq (vals.take 40).toArray }) rfl
    rw [Heap.size_push] at this
    exact this
  refine addLs (vs := vals.take 40) (ws := [.int 9 t9]) ⟨_, Heap.get?_push_of_some _ q1, rfl, _, rfl⟩ ⟨_, Heap.get?_push_size _ rfl, rfl, _, rfl⟩ ?_ (by rw [List.length_take, sizeLine_eq]; simp only [List.length_singleton]; omega)
  generalize hh2 : (((h1.push { cls := .type "slice", data := .fields #[.none, .int 40 tk1, .none] }).push { cls := .type "list", data := .seq (vals.take 40).toArray }).push { cls := .type "list", data := .seq [Value.int 9 t9].toArray }) = h2
  have k2 : ∀ b o, h1.get? b = some o → (h2.push { cls := .type "list", data := .seq (vals.take 40 ++ [Value.int 9 t9]).toArray }).get? b = some o := fun b o e => by rw [← hh2]; exact Heap.get?_push_of_some _ (Heap.get?_push_of_some _ (Heap.get?_push_of_some _ (Heap.get?_push_of_some _ e)))
  have hsz2 : @LT.lt Nat _ (L + 4) h2.objs.size := by
    obtain ⟨o, ho, _⟩ := hcell "least" (L + 4) rfl
    have : @LT.lt Nat _ (L + 4) h1.objs.size := Heap.lt_size ho
    rw [← hh2]; simp only [Heap.size_push]; omega
  have hT0 : (h2.push { cls := .type "list", data := .seq (vals.take 40 ++ [Value.int 9 t9]).toArray }).get? h2.objs.size = some { cls := .type "list", data := .seq (vals.take 40 ++ [Value.int 9 t9]).toArray } := Heap.get?_push_size _ rfl
  obtain ⟨g2, S, kg2, in2⟩ := S.grow (fun b o _ _ e => k2 b o e) i16 i67
  have t16 := k2 _ _ t16
  have t67 := k2 _ _ t67
  generalize hTa : h2.objs.size = T at hT0 hsz2 ⊢
  generalize (h2.push { cls := .type "list", data := .seq (vals.take 40 ++ [Value.int 9 t9]).toArray }) = h3 at hT0 S in2 t16 t67 ⊢
  obtain ⟨tz, htz⟩ : ∃ tz : List Int, tz = zs.take 40 ++ [9] := ⟨_, rfl⟩
  obtain ⟨tvs, htvs⟩ : ∃ tvs : List Value, tvs = vals.take 40 ++ [Value.int 9 t9] := ⟨_, rfl⟩
  have hti : IntsAre tvs tz := by rw [htz, htvs]; exact (hi.take 40).append (.cons 9 t9 .nil)
  have htl1 : 1 ≤ tz.length := by rw [htz]; simp
  have htl2 : tz.length ≤ 41 := by rw [htz]; simp; omega
  rw [← htvs] at hT0
  have nHs : ∀ b, @LT.lt Nat _ (L + 4) b → b ∉ Hs := fun b hb => by
    rw [hHs]
    simp only [List.mem_cons, List.not_mem_nil, or_false, not_or]
    refine ⟨?_, ?_, ?_, ?_, ?_, ?_, ?_⟩ <;> (show ¬ @Eq Nat _ _; omega)
  have hTg : g2.get? T = some { cls := .type "list", data := .seq tvs.toArray } := in2 T _ (nHs T hsz2) hT0
  refine lstC S (c := L + 1) rfl (by rw [hHs]; simp) v6 v5 (kC "table" (by simp)) fun h4 S s4 => ?_
  have t16 : h4.get? 16 = _ := (s4.2 16 (show @Ne Nat _ _ by omega)).trans t16
  have t67 : h4.get? 67 = _ := (s4.2 67 (show @Ne Nat _ _ by omega)).trans t67
  have hTL : ∀ h5 : Heap, (∀ b o, g2.get? b = some o → h5.get? b = some o) → h5.IsList T tvs.toArray := fun h5 k => ⟨_, k _ _ hTg, rfl, _, rfl⟩
  have hlv := hti.length
  have G4 : Gl w h4 := (S.gl G).keeps S.gk
  have hcT : h4.IsCell (L + 1) (some (.ref T)) := S.cell "table" (L + 1) rfl
  refine wpAny_execs_cons (wpAny_Assign_Name (compX (cl := [(("table" : Str), L + 1)]) (by unfold closureFor cellOf; rw [v6]; kernel_rfl) (by decide) rfl (by decide) rfl (range_c (w := w) (vs := tvs) G4 v2 v3 v5 (kG "range" (by simp)) (kG "len" (by simp)) (by rw [v6]; rfl) hcT (kC "table" (by simp)) (by decide) (hTL _ S.gk) (by omega) fun s5 I X5 hit lo hi5 => ?_)) (swF (kC "points" (by simp))))
  refine ⟨I, [I], [I], tvs.length, _, _, fun _ => true, fun C D h i y => ∃ a, y = .ref a ∧ Pt h a (ptAt tz i) ∧ @Ne Nat a C ∧ @Ne Nat a D ∧ @Ne Nat a I, rfl, Walks.range hh I 0 1 tvs.length, by omega, hit, fun b hb => by rw [List.mem_singleton.mp hb]; exact hi5, fun i h st b hb => by have e := List.mem_singleton.mp hb; subst e; exact ⟨_, st, (by show Value.type "range_iterator" ≠ Value.type "tuple"; decide)⟩, ?_, ?_, ?_⟩
  · rintro C D h h' i y ⟨a, rfl, ⟨t, u, o, ho, r⟩, n1, n2, n3⟩ k
    exact ⟨a, rfl, ⟨t, u, o, k _ _ n1 n2 (by simpa using n3) ho, r⟩, n1, n2, n3⟩
  · intro C D i v s6 m6 E' K1 K0 hi6 hP hn6 hm6 hD6 hI6 hC6 hk6 hK1 hK0
    obtain ⟨t6, rfl⟩ := hP
    have up : ∀ b o, h4.get? b = some o → s6.heap.get? b = some o := fun b o e => hk6 b o (fun q => by rw [List.mem_singleton.mp q] at e; exact absurd (Heap.lt_size e) (Nat.not_lt.mpr lo)) (X5.keep _ _ e)
    have hcT6 := hcT.keeps up
    have hTL6 := hTL s6.heap (fun b o e => up _ _ (S.gk _ _ e))
    refine wpAny_pure ?_
    rw [if_pos rfl]
    have hlt6 : i < tz.length := by omega
    refine Tuple_ (spliced_more (wpAny_BinOp (Subscript_ (lcell rfl hcT6 rfl (relC v5 (kC "table" (by simp)) rfl) (wpAny_BinOp (lname hn6 hm6 (wpAny_Constant_int (PySem.P.sub_int ?_)) rfl (relL rfl)))))))
    refine itemZ (j := if i = 0 then tz.length - 1 else i - 1) hTL6 hti (by split <;> omega) (by split <;> omega) (by omega) fun t7 => ?_
    refine wpAny_Constant_int (mod_int (by decide) (spliced_more (wpAny_BinOp (Subscript_ (lcell rfl hcT6 rfl (relC v5 (kC "table" (by simp)) rfl) (lname hn6 hm6 ?_ rfl (relL rfl)))))))
    refine itemZ (j := i) hTL6 hti (.inl (by omega)) hlt6 (by omega) fun t8 => ?_
    refine wpAny_Constant_int (mod_int (by decide) (spliced_none (wpAny_newTuple ?_)))
    have nn : ∀ b o, s6.heap.get? b = some o → @Ne Nat s6.heap.objs.size b := fun b o e q => by have := Heap.lt_size e; rw [← q] at this; exact Nat.lt_irrefl _ this
    refine hK1 _ _ ⟨fun b o e => Heap.get?_push_of_some _ e, rfl, rfl⟩ rfl ⟨_, rfl, ⟨_, _, _, Heap.get?_push_size _ rfl, rfl, _, rfl⟩, ?_, ?_, ?_⟩
    · obtain ⟨o, _, _, ho, _⟩ := hn6; exact nn _ _ ho
    · obtain ⟨o, ho, _⟩ := hD6; exact nn _ _ ho
    · obtain ⟨o, ho, _⟩ := hI6 I (by simp); exact nn _ _ ho
  intro C D s6 ps hD6 hC6 hl6 hfil hk6 hg6 hos6
  have hH1 : ∀ b ∈ Hs, b ∈ [L, L + 1, L + 2, L + 3, L + 4, 16, 67] := fun b hb => by rw [hHs] at hb; exact hb
  have up6 : ∀ b o, h4.get? b = some o → s6.heap.get? b = some o := fun b o e => hk6 b o (fun q => by rw [List.mem_singleton.mp q] at e; exact absurd (Heap.lt_size e) (Nat.not_lt.mpr lo)) (X5.keep _ _ e)
  obtain ⟨n, hn⟩ : ∃ n, n = tz.length := ⟨_, rfl⟩
  obtain ⟨pz, hpz⟩ : ∃ pz : List P2, pz = ptsOf tz := ⟨_, rfl⟩
  have hpts6 : Pts s6.heap ps pz := by
    have := hfil.pts (h := s6.heap) (q := ptAt tz) (fun i y ⟨a, e, p, _⟩ => ⟨a, e, p⟩)
    rw [List.filter_eq_self.mpr (fun _ _ => rfl), hlv] at this
    rw [hpz]; exact this
  have hD4 : h4.get? D = none := by cases e : h4.get? D with | none => rfl | some o => rw [X5.keep _ _ e] at hD6; cases hD6
  have hDn := S.fresh hH1 t16 t67 hD4
  have t16 := up6 _ _ t16
  have t67 := up6 _ _ t67
  obtain ⟨g3, S, kg3, in3⟩ := S.grow (fun b o _ _ e => up6 b o e) i16 i67
  have hpts : Pts g3 ps pz := hpts6.to fun a q x => S.pt hH1 t16 t67 in3 x
  obtain ⟨oD, hoD, rD⟩ := hl6
  have hDL : g3.IsList D ps.toArray := ⟨oD, in3 _ _ hDn hoD, rD⟩
  have hplen : ps.length = n := by rw [hpts.len, hpz, hn]; simp [ptsOf]
  have bdz : ∀ q ∈ pz, Bd q := fun q hq => by rw [hpz] at hq; unfold ptsOf at hq; obtain ⟨k, _, rfl⟩ := List.mem_map.mp hq; exact ptAt_bd _ _
  have gens6 : s6.gens = s₁.gens := hg6.trans X5.gens
  have os6 : s6.os = s₁.os := hos6.trans X5.os
  obtain ⟨h6, gg6, d6, tk6, o6⟩ := s6
  refine lstC S (c := L + 2) rfl (by rw [hHs]; simp) v6 v5 (kC "points" (by simp)) fun h7 S s7 => ?_
  have t16 : h7.get? 16 = _ := (s7.2 16 (show @Ne Nat _ _ by omega)).trans t16
  have t67 : h7.get? 67 = _ := (s7.2 67 (show @Ne Nat _ _ by omega)).trans t67
  have lk : ∀ {h : Heap} {b : Addr} {its : Array Value}, g3.IsList b its → (∀ b o, g3.get? b = some o → h.get? b = some o) → h.IsList b its := fun ⟨o, ho, r⟩ k => ⟨o, k _ _ ho, r⟩
  have hcP : h7.IsCell (L + 2) (some (.ref D)) := S.cell "points" (L + 2) rfl
  have G7 : Gl w h7 := (S.gl G).keeps S.gk
  obtain ⟨p0, pz', hpz'⟩ : ∃ p0 pz', pz = p0 :: pz' := by
    cases e : pz with
    | nil => rw [e] at hpts; have := hpts.len; rw [hplen] at this; simp only [List.length_nil] at this; omega
    | cons a b => exact ⟨a, b, rfl⟩
  refine wpAny_execs_cons (wpAny_Assign_Name (Call_ (bname (w := w) G7 (b_min w) ?_ v2 v3 v5 (kG "min" (by simp)))))
  refine PyProof.Rows.callWith_builtin1 (args_cons (lcell (c := L + 2) (by rw [v6]; rfl) hcP v5 (kC "points" (by simp)) (args_nil (min_c (p := p0) (ps := pz') hh (by omega) (lk hDL S.gk) (hpz' ▸ hpts.keeps S.gk) fun s8 aL X8 hpl => ?_))))
  have t16 := X8.keep _ _ t16
  have t67 := X8.keep _ _ t67
  obtain ⟨g4, S, kg4, in4⟩ := S.grow (fun b o _ _ e => X8.keep b o e) i16 i67
  have hplG := S.pt hH1 t16 t67 in4 hpl
  clear hpl
  obtain ⟨o, ho⟩ : ∃ o : P2, o = minF p0 pz' := ⟨_, rfl⟩
  rw [← ho] at hplG
  have gens8 : s8.gens = s₁.gens := X8.gens.trans gens6
  have os8 : s8.os = s₁.os := X8.os.trans os6
  obtain ⟨h8, gg8, d8, tk8, o8⟩ := s8
  refine lstC S (c := L + 4) rfl (by rw [hHs]; simp) v6 v5 (kC "least" (by simp)) fun h9 S s9 => ?_
  have t16 : h9.get? 16 = _ := (s9.2 16 (show @Ne Nat _ _ by omega)).trans t16
  have t67 : h9.get? 67 = _ := (s9.2 67 (show @Ne Nat _ _ by omega)).trans t67
  have hpts := hpts.keeps kg4
  have hDL := lk hDL kg4
  -- from here on only the frame and the cell of due are written
  obtain ⟨Hs2, hHs2⟩ : ∃ Hs2 : List Addr, Hs2 = [L, L + 3, 16, 67] := ⟨_, rfl⟩
  have sub2 : ∀ b ∈ Hs2, b ∈ Hs := fun b hb => by
    rw [hHs2] at hb; rw [hHs]
    simp only [List.mem_cons, List.not_mem_nil, or_false] at hb ⊢
    rcases hb with rfl | rfl | rfl | rfl <;> simp
  have hH2 : ∀ b ∈ Hs2, b ∈ [L, L + 1, L + 2, L + 3, L + 4, 16, 67] := fun b hb => hH1 b (sub2 b hb)
  have kgh : ∀ b o, g4.get? b = some o → (hideAll h9 Hs2).get? b = some o := fun b o e => hideAll_get _ (S.gk b o e) fun hb => by rw [S.gh _ (sub2 _ hb)] at e; cases e
  have in5 : ∀ b o, b ∉ Hs2 → h9.get? b = some o → (hideAll h9 Hs2).get? b = some o := fun b o hb e => hideAll_get _ e hb
  replace S : LS s₁.heap Hs2 L h9 _ _ (hideAll h9 Hs2) := ⟨S.ns, S.cell, fun b o e => of_hideAll _ e, fun b hb => hideAll_none _ hb, fun b o a c e => kgh _ _ (S.hk b o a c e), S.zL, fun b hb => S.ol b (sub2 b hb)⟩
  generalize hideAll h9 Hs2 = g5 at S kgh in5
  have i16 : 16 ∈ Hs2 := by rw [hHs2]; simp
  have i67 : 67 ∈ Hs2 := by rw [hHs2]; simp
  have iL : L ∈ Hs2 := by rw [hHs2]; simp
  have hpts := hpts.keeps kgh
  have hpl := hplG.keeps kgh
  have hDL : g5.IsList D ps.toArray := let ⟨o, ho, r⟩ := hDL; ⟨o, kgh _ _ ho, r⟩
  have n2 : ∀ b : Nat, b = L + 1 ∨ b = L + 2 ∨ b = L + 4 → b ∉ Hs2 := fun b hb => by
    rw [hHs2]
    simp only [List.mem_cons, List.not_mem_nil, or_false, not_or]
    refine ⟨?_, ?_, ?_, ?_⟩ <;> (show ¬ @Eq Nat _ _; omega)
  have gcell : ∀ {c : Addr} {v : Option Value}, h9.IsCell c v → c ∉ Hs2 → g5.IsCell c v := fun ⟨o, ho, hd⟩ hc => ⟨o, in5 _ _ hc ho, hd⟩
  have cP : g5.IsCell (L + 2) (some (.ref D)) := gcell (S.cell "points" (L + 2) rfl) (n2 _ (by omega))
  have cL : g5.IsCell (L + 4) (some (.ref aL)) := gcell (S.cell "least" (L + 4) rfl) (n2 _ (by omega))
  have G5 : Gl w g5 := S.gl G
  have G9 : Gl w h9 := G5.keeps S.gk
  -- key = cmp_to_key(lambda ..)
  refine wpAny_execs_cons (wpAny_Assign_Name (Call_ (gname (w := w) G9 (g_ctk w) ?_ v2 v5 (kG "cmp_to_key" (by simp)))))
  have hz9 : @LT.lt Nat _ (L + 4) h9.objs.size := by obtain ⟨o, ho, _⟩ := S.cell "least" (L + 4) rfl; exact Heap.lt_size ho
  have big : ∀ b : Addr, @LT.lt Nat _ (L + 4) b → b ∉ Hs2 := fun b hb => by
    rw [hHs2]
    simp only [List.mem_cons, List.not_mem_nil, or_false, not_or]
    refine ⟨?_, ?_, ?_, ?_⟩ <;> (show ¬ @Eq Nat _ _; omega)
  have hlt2 : ∀ b ∈ Hs2, @LT.lt Nat _ b (L + 5) := fun b hb => by
    rw [hHs2] at hb
    simp only [List.mem_cons, List.not_mem_nil, or_false] at hb
    rcases hb with rfl | rfl | rfl | rfl <;> (show @LT.lt Nat _ _ _; omega)
  refine callWith_def (o := _) (fd := _) rfl (args_cons (lamMk (w := w) (clos := [(("least" : Str), L + 4)]) G9 v2 v4 v7 rfl (by unfold closureFor cellOf; rw [v6]; kernel_rfl) t67 trivial rfl fun h11 f1 c1 ctv1 tk11 k11 t67 hf1 hrec1 zf1 zc1 => args_nil ⟨(G9.keepsLt (fun b o hb _ h67 e => k11 b o h67 e)).all 21 _ (by decide) (by decide) rfl, ?_⟩))
  have t16 := k11 _ _ (by decide) t16
  obtain ⟨g6, S, kg6, in6⟩ := S.grow (fun b o _ h67 e => k11 b o h67 e) i16 i67
  have hf1g := in6 _ _ (big f1 (by omega)) hf1
  obtain ⟨oc1, voc1, vs1, tt1', ec1, hoc1, rc1⟩ := hrec1
  cases ec1
  have hrec1g : g6.CodeRec (.ref c1) "law.<locals>.<lambda>" := ⟨_, voc1, vs1, tt1', rfl, in6 _ _ (big c1 (by omega)) hoc1, rc1⟩
  have hpts := hpts.keeps kg6
  have hpl := hpl.keeps kg6
  have cP := cP.keeps kg6
  have cL := cL.keeps kg6
  have hDL : g6.IsList D ps.toArray := let ⟨o, ho, r⟩ := hDL; ⟨o, kg6 _ _ ho, r⟩
  have G6 : Gl w g6 := S.gl G
  have bdo : Bd o := by
    have hm : ∀ (l : List P2) (b : P2), minF b l ∈ b :: l := by
      intro l
      induction l with
      | nil => intro b; exact .head _
      | cons x l ih =>
        intro b
        rw [minF_cons]
        have := ih (if ltPt x b then x else b)
        rcases List.mem_cons.mp this with e | e
        · rw [e]; split
          · exact .tail _ (.head _)
          · exact .head _
        · exact .tail _ (.tail _ e)
    rw [ho]; exact bdz _ (hpz' ▸ hm pz' p0)
  have C1 : CmpFn w g6 f1 (cmpv o) := lam1_c G6 hf1g hrec1g cL hpl bdo
  have G11 : Gl w h11 := G6.keeps S.gk
  have z11 : @LE.le Nat _ 71 h11.objs.size := by have : @LT.lt Nat _ f1 h11.objs.size := Heap.lt_size hf1; omega
  refine ctk_c (w := w) (n₀ := 0) (s := ⟨h11, _, _, _, _⟩) G11 z11 (by omega) (.inl ⟨rfl, t16⟩) fun s12 D1 k12 gens12 os12 T12 KA1 zfi1 zce1 => ?_
  have t67 := k12 _ _ (.inr (by decide)) t67
  obtain ⟨kc, P, e16', KT12, zP⟩ : ∃ kc P, s12.heap.get? 16 = some (tabObj #[rawInt 4, rawInt 4, .ref kc]) ∧ KT 6 s12.heap kc P ∧ @LE.le Nat _ 71 P := by
    rcases T12 with ⟨a, _⟩ | ⟨_, kc, P, a, b, c⟩
    · exact absurd a (by decide)
    · exact ⟨kc, P, a, b, c⟩
  obtain ⟨g7, S, kg7, in7⟩ := S.grow (fun b o h16 _ e => k12 b o (.inr h16) e) i16 i67
  have hz11 : @LT.lt Nat _ (L + 5) h11.objs.size ∨ @LE.le Nat _ (L + 5) h11.objs.size := by have : @LT.lt Nat _ f1 h11.objs.size := Heap.lt_size hf1; omega
  have zfi1 : @LT.lt Nat _ h11.objs.size D1.fi := zfi1
  have zce1 : @LT.lt Nat _ h11.objs.size D1.cell := zce1
  have KG1 := S.katTo (n := L + 5) hH2 e16' t67 trivial trivial in7 KA1 hlt2 (by omega) (by omega)
  clear KA1
  have C1 := C1.keeps kg7
  have hf1g := kg7 _ _ hf1g
  have hpts := hpts.keeps kg7
  have hpl := hpl.keeps kg7
  have cP := cP.keeps kg7
  have cL := cL.keeps kg7
  have hDL : g7.IsList D ps.toArray := let ⟨o, ho, r⟩ := hDL; ⟨o, kg7 _ _ ho, r⟩
  have gens12 : s12.gens = s₁.gens := gens12.trans gens8
  have os12 : s12.os = s₁.os := os12.trans os8
  obtain ⟨h12, gg12, d12, tk12, oo12⟩ := s12
  obtain ⟨oL12, esL, epL, hoL12, hdL12, _⟩ := id S.ns
  refine lstL S iL v1 v5 (kL "key" (by simp)) fun h13 S s13 => ?_
  have KT13 := KT12.same hoL12 hdL12 s13
  have hz13 : @LT.lt Nat _ (L + 4) h13.objs.size := by obtain ⟨o, ho, _⟩ := S.cell "least" (L + 4) rfl; exact Heap.lt_size ho
  have t16 : h13.get? 16 = _ := (s13.2 16 (show @Ne Nat _ _ by omega)).trans e16'
  have t67 : h13.get? 67 = _ := (s13.2 67 (show @Ne Nat _ _ by omega)).trans t67
  have G13 : Gl w h13 := (S.gl G).keeps S.gk
  -- if sorted(points, key=cmp_to_key(lambda a, b: 0)) != points
  refine wpAny_execs_cons (wpAny_If (wpAny_isTrue_Compare1 (callKw (bname (w := w) G13 (b_sorted w) ?_ v2 v3 v5 (kG "sorted" (by simp))))))
  refine callWith_kw (spliced_more (lcell (c := L + 2) (by rw [v6]; rfl) (cP.keeps S.gk) v5 (kC "points" (by simp)) (spliced_none (kws_cons (Call_ (gname (w := w) G13 (g_ctk w) ?_ v2 v5 (kG "cmp_to_key" (by simp))))))))
  refine callWith_def (o := _) (fd := _) rfl (args_cons (lamMk (w := w) (clos := []) G13 v2 v4 v7 rfl (by unfold closureFor cellOf; rw [v6]; kernel_rfl) t67 trivial (by kernel_rfl) fun h14 f2 c2 ctv2 tk14 k14 t67' hf2 hrec2 zf2 zc2 => args_nil ⟨(G13.keepsLt (fun b o hb _ h67 e => k14 b o h67 e)).all 21 _ (by decide) (by decide) rfl, ?_⟩))
  have KT14 := KT13.but k14 t67 trivial zP
  have t67 := t67'
  clear t67'
  have t16 := k14 _ _ (by decide) t16
  obtain ⟨g8, S, kg8, in8⟩ := S.grow (fun b o _ h67 e => k14 b o h67 e) i16 i67
  have hf2g := in8 _ _ (big f2 (by omega)) hf2
  have hrec2g := S.codeTo hH2 t16 t67 trivial trivial in8 hrec2
  have G8 : Gl w g8 := S.gl G
  have C2 : CmpFn w g8 f2 (fun _ _ => 0) := lam0_c G8 hf2g hrec2g
  have G14 : Gl w h14 := G8.keeps S.gk
  have z14 : @LE.le Nat _ 71 h14.objs.size := by have : @LT.lt Nat _ f2 h14.objs.size := Heap.lt_size hf2; omega
  have zz14 : @LE.le Nat _ (L + 5) h14.objs.size := by have : @LT.lt Nat _ f2 h14.objs.size := Heap.lt_size hf2; omega
  refine ctk_c (w := w) (n₀ := 6) (s := ⟨h14, _, _, _, _⟩) G14 z14 (by omega) (.inr ⟨rfl, kc, P, t16, KT14, zP⟩) fun s15 D2 k15 gens15 os15 T15 KA2 zfi2 zce2 => kws_nil ?_
  have t16 := k15 _ _ (.inl rfl) t16
  have t67 := k15 _ _ (.inl rfl) t67
  obtain ⟨g9, S, kg9, in9⟩ := S.grow (fun b o _ _ e => k15 b o (.inl rfl) e) i16 i67
  have zfi2 : @LT.lt Nat _ h14.objs.size D2.fi := zfi2
  have zce2 : @LT.lt Nat _ h14.objs.size D2.cell := zce2
  have kg79 : ∀ b o, g7.get? b = some o → g9.get? b = some o := fun b o e => kg9 _ _ (kg8 _ _ e)
  have hpts := hpts.keeps kg79
  have hpl := hpl.keeps kg79
  have cP := cP.keeps kg79
  have cL := cL.keeps kg79
  have hDL : g9.IsList D ps.toArray := let ⟨o, ho, r⟩ := hDL; ⟨o, kg79 _ _ ho, r⟩
  have C1 := C1.keeps kg79
  have hf1g := kg79 _ _ hf1g
  have KG1 := KG1.keeps kg79
  have gens15 : s15.gens = s₁.gens := gens15.trans gens12
  have os15 : s15.os = s₁.os := os15.trans os12
  have p64 : ps.length < 64 := by omega
  refine sorted_c (w := w) (Out := fun out => out = ps) ((S.gl G).keeps S.gk) (by omega) (by omega) KA2 ((C2.keeps kg9).keeps S.gk) (k15 _ _ (.inl rfl) hf2) rfl (let ⟨o, ho, r⟩ := hDL; ⟨o, S.gk _ _ ho, r⟩) (hpts.keeps S.gk) bdz p64 (fun _ => rfl) (fun h2 => outI h2) fun s16 aS out X16 hout hlo hnew => ?_
  rw [hout] at hlo
  have t16 := X16.keep _ _ t16
  have t67 := X16.keep _ _ t67
  have hpS : Pts s16.heap ps pz := (hpts.keeps S.gk).keeps X16.keep
  obtain ⟨g10, S, kg10, in10⟩ := S.grow (fun b o _ _ e => X16.keep b o e) i16 i67
  have hpts := hpts.keeps kg10
  have hpl := hpl.keeps kg10
  have cP := cP.keeps kg10
  have cL := cL.keeps kg10
  have hDL : g10.IsList D ps.toArray := let ⟨o, ho, r⟩ := hDL; ⟨o, kg10 _ _ ho, r⟩
  have C1 := C1.keeps kg10
  have hf1g := kg10 _ _ hf1g
  have KG1 := KG1.keeps kg10
  have gens16 : s16.gens = s₁.gens := X16.gens.trans gens15
  have os16 : s16.os = s₁.os := X16.os.trans os15
  refine lcell (c := L + 2) (by rw [v6]; rfl) (cP.keeps S.gk) v5 (kC "points" (by simp)) ?_
  refine neLs_c (by omega) hlo hpS (let ⟨o, ho, r⟩ := hDL; ⟨o, S.gk _ _ ho, r⟩) (hpts.keeps S.gk) (wpAny_truthy_bool ?_)
  simp only [decide_true, Bool.not_true, Bool.false_eq_true, if_false]
  refine wpAny_execs_nil ?_
  -- others = sorted([point for point in points if point != least], key=key)
  have G16 : Gl w s16.heap := (S.gl G).keeps S.gk
  refine wpAny_execs_cons (wpAny_Assign_Name (callKw (bname (w := w) G16 (b_sorted w) ?_ v2 v3 v5 (kG "sorted" (by simp)))))
  have hDL16 : s16.heap.IsList D ps.toArray := let ⟨o, ho, r⟩ := hDL; ⟨o, S.gk _ _ ho, r⟩
  have hDs : @LT.lt Nat _ D s16.heap.objs.size := by obtain ⟨o, ho, _⟩ := hDL16; exact Heap.lt_size ho
  refine callWith_kw (spliced_more (compX (cl := [(("least" : Str), L + 4)]) (by unfold closureFor cellOf; rw [v6]; kernel_rfl) (by decide) rfl (by decide) rfl (lcell (c := L + 2) (by rw [v6]; rfl) (cP.keeps S.gk) v5 (kC "points" (by simp)) (wpAny_pyIter_list hDL16 ?_))))
  refine ⟨s16.heap.objs.size, [s16.heap.objs.size, D], [s16.heap.objs.size], ps.toArray.size, _, _, fun i => decide (pz.getD i (0, 0) ≠ o), fun _ _ _ i y => ps[i]? = some y, rfl, Walks.list hh s16.heap.objs.size D (show @Ne Nat _ _ by omega) ps.toArray, by rw [List.size_toArray]; omega, ⟨⟨_, Heap.get?_push_size _ rfl, rfl, rfl⟩, hDL16.push _⟩, fun b hb => ?_, fun i h st b hb => ?_, fun C D h h' i y e _ => e, ?_, ?_⟩
  · show @LT.lt Nat _ b (s16.heap.push _).objs.size
    rw [Heap.size_push]
    simp only [List.mem_cons, List.not_mem_nil, or_false] at hb
    rcases hb with rfl | rfl
    · exact Nat.lt_succ_self _
    · exact Nat.lt_succ_of_lt hDs
  · have e := List.mem_singleton.mp hb
    subst e
    obtain ⟨o', ho', hc', _⟩ := st.1
    exact ⟨o', ho', by rw [hc']; decide⟩
  · intro C D' i v s17 m17 E' K1 K0 hi17 hP hn17 hm17 hD17 hI17 hC17 hk17 hK1 hK0
    have hP' : ps[i]? = some v := by simpa using hP
    obtain ⟨a, q, rfl, eq, hpa⟩ := hpts.get hP'
    have up : ∀ b o, g10.get? b = some o → s17.heap.get? b = some o := fun b o e => hk17 b o (fun hm => by
      have := List.mem_singleton.mp hm
      rw [this] at e
      exact absurd (Heap.lt_size (S.gk _ _ e)) (Nat.lt_irrefl _)) (Heap.get?_push_of_some _ (S.gk _ _ e))
    refine wpAny_tests_one (wpAny_isTrue_Compare1 (lname hn17 hm17 (lcell (c := L + 4) rfl (cL.keeps up) rfl (relC v5 (kC "least" (by simp)) rfl) (nePt_c (by omega) (hpa.keeps up) (hpl.keeps up) (wpAny_truthy_bool ?_))) rfl (relL rfl)))
    have eg : pz.getD i (0, 0) = q := by rw [List.getD_eq_getElem?_getD, eq]; rfl
    by_cases hqo : q = o
    · simp only [hqo, decide_true, Bool.not_true, Bool.false_eq_true, if_false]
      exact hK0 _ (Ext.refl _) (by show decide (pz.getD i (0, 0) ≠ o) = false; rw [eg, hqo]; simp)
    · simp only [hqo, decide_false, Bool.not_false, if_true]
      exact lname hn17 hm17 (hK1 _ _ (Ext.refl _) (by show decide (pz.getD i (0, 0) ≠ o) = true; rw [eg]; simpa using hqo) hP') rfl (relL rfl)
  intro C U s17 us hU hC17 hlU hfilU hk17 hg17 hos17
  have up17 : ∀ b o, s16.heap.get? b = some o → s17.heap.get? b = some o := fun b o e => hk17 b o (fun hm => by
    have := List.mem_singleton.mp hm
    rw [this] at e
    exact absurd (Heap.lt_size e) (Nat.lt_irrefl _)) (Heap.get?_push_of_some _ e)
  have hU16 : s16.heap.get? U = none := by cases e : s16.heap.get? U with | none => rfl | some o => rw [Heap.get?_push_of_some _ e] at hU; cases hU
  have hUn := S.fresh hH2 t16 t67 hU16
  have t16 := up17 _ _ t16
  have t67 := up17 _ _ t67
  have hpts17 : Pts s17.heap ps pz := (hpts.keeps S.gk).keeps up17
  have hpU17 : Pts s17.heap us (pz.filter (fun q => decide (q ≠ o))) := by
    have := hfilU.pts (h := s17.heap) (q := fun i => pz.getD i (0, 0)) (fun i y e => by
      obtain ⟨a, q, rfl, eq, hpa⟩ := hpts17.get e
      have eg : pz.getD i (0, 0) = q := by rw [List.getD_eq_getElem?_getD, eq]; rfl
      exact ⟨a, rfl, by rw [eg]; exact hpa⟩)
    rw [List.size_toArray, hpts.len, filter_places (fun q => decide (q ≠ o)) (0, 0) pz] at this
    exact this
  obtain ⟨g11, S, kg11, in11⟩ := S.grow (fun b o _ _ e => up17 b o e) i16 i67
  have hpU : Pts g11 us (pz.filter (fun q => decide (q ≠ o))) := hpU17.to fun a q x => S.pt hH2 t16 t67 in11 x
  obtain ⟨oz, hoz⟩ : ∃ oz : List P2, oz = pz.filter (fun q => decide (q ≠ o)) := ⟨_, rfl⟩
  rw [← hoz] at hpU hpU17
  have hpts := hpts.keeps kg11
  have hpl := hpl.keeps kg11
  have cP := cP.keeps kg11
  have cL := cL.keeps kg11
  have hDL : g11.IsList D ps.toArray := let ⟨o, ho, r⟩ := hDL; ⟨o, kg11 _ _ ho, r⟩
  have C1 := C1.keeps kg11
  have hf1g := kg11 _ _ hf1g
  have KG1 := KG1.keeps kg11
  have gens17 : s17.gens = s₁.gens := hg17.trans gens16
  have os17 : s17.os = s₁.os := hos17.trans os16
  have hmin : ∀ q ∈ pz, q = o ∨ Hp o q := by rw [hpz', ho]; exact minF_min pz' p0
  have hHo : ∀ q ∈ oz, Hp o q := fun q hq => by
    rw [hoz] at hq
    obtain ⟨a, b⟩ := List.mem_filter.mp hq
    exact (hmin q a).resolve_left (by simpa using b)
  have hozl : oz.length ≤ pz.length := by rw [hoz]; exact List.length_filter_le _ _
  have hul : us.length < 64 := by rw [hpU.len]; have := hpts.len; omega
  refine spliced_none (kws_cons (lname (v1 ▸ S.ns) (v := .ref D1.c) (if_pos rfl) (kws_nil ?_) v5 (kL "key" (by simp))))
  refine sorted_c (w := w) (Out := OutS s17.heap o oz) ((S.gl G).keeps S.gk) (by omega) (by omega) (KG1.keeps S.gk) (C1.keeps S.gk) (S.gk _ _ hf1g) rfl hlU hpU17 (fun q hq => bdz q (by rw [hoz] at hq; exact (List.mem_filter.mp hq).1)) hul (fun h2 => ⟨oz, hpU17, List.Perm.refl _, by
    have : oz.length < 2 := by rw [← hpU.len]; exact h2
    match oz, this with
    | [], _ => exact .nil
    | [x], _ => exact List.pairwise_singleton _ _⟩) (fun h2 => outS hpU17 hHo h2) fun s18 aO outs X18 hout18 hlO hnewO => ?_
  obtain ⟨qs, hpq, hperm, hsorted⟩ := hout18
  have hpq := hpq.to fun a q x => S.pt hH2 t16 t67 in11 x
  have haOn := S.fresh hH2 t16 t67 hnewO
  have t16 := X18.keep _ _ t16
  have t67 := X18.keep _ _ t67
  obtain ⟨g12, S, kg12, in12⟩ := S.grow (fun b o _ _ e => X18.keep b o e) i16 i67
  have hpq := hpq.keeps kg12
  have hlOg : g12.IsList aO outs.toArray := let ⟨o, ho, r⟩ := hlO; ⟨o, in12 _ _ haOn ho, r⟩
  have hpts := hpts.keeps kg12
  have hpl := hpl.keeps kg12
  have cP := cP.keeps kg12
  have cL := cL.keeps kg12
  have hDL : g12.IsList D ps.toArray := let ⟨o, ho, r⟩ := hDL; ⟨o, kg12 _ _ ho, r⟩
  have gens18 : s18.gens = s₁.gens := X18.gens.trans gens17
  have os18 : s18.os = s₁.os := X18.os.trans os17
  clear hlO hnewO KG1 C1 hf1g
  obtain ⟨h18, gg18, d18, tk18, oo18⟩ := s18
  refine lstL S iL v1 v5 (kL "others" (by simp)) fun h19 S s19 => ?_
  have t16 : h19.get? 16 = _ := (s19.2 16 (show @Ne Nat _ _ by omega)).trans t16
  have t67 : h19.get? 67 = _ := (s19.2 67 (show @Ne Nat _ _ by omega)).trans t67
  -- due = [least]
  refine wpAny_execs_cons (wpAny_Assign_Name (List_ (spliced_more (lcell (c := L + 4) (by rw [v6]; rfl) (cL.keeps S.gk) v5 (kC "least" (by simp)) (spliced_none (wpAny_newList ?_))))))
  have hdl0 : (h19.push { cls := .type "list", data := .seq [Value.ref aL].toArray }).get? h19.objs.size = some { cls := .type "list", data := .seq [Value.ref aL].toArray } := Heap.get?_push_size _ rfl
  have gdl : g12.get? h19.objs.size = none := by cases e : g12.get? h19.objs.size with | none => rfl | some o => exact absurd (Heap.lt_size (S.gk _ _ e)) (Nat.lt_irrefl _)
  have zdl : @LT.lt Nat _ (L + 4) h19.objs.size := by obtain ⟨o, ho, _⟩ := S.cell "least" (L + 4) rfl; exact Heap.lt_size ho
  have S := S.on (h' := h19.push { cls := .type "list", data := .seq [Value.ref aL].toArray }) (fun b o e => Heap.get?_push_of_some _ e)
  have t16 : (h19.push { cls := .type "list", data := .seq [Value.ref aL].toArray }).get? 16 = _ := Heap.get?_push_of_some _ t16
  have t67 : (h19.push { cls := .type "list", data := .seq [Value.ref aL].toArray }).get? 67 = _ := Heap.get?_push_of_some _ t67
  generalize hdl : h19.objs.size = dl at hdl0 gdl zdl ⊢
  generalize h19.push { cls := .type "list", data := .seq [Value.ref aL].toArray } = h20 at hdl0 S t16 t67 ⊢
  refine lstC S (c := L + 3) rfl (by rw [hHs2]; simp) v6 v5 (kC "due" (by simp)) fun h21 S s21 => ?_
  have t16 : h21.get? 16 = _ := (s21.2 16 (show @Ne Nat _ _ by omega)).trans t16
  have t67 : h21.get? 67 = _ := (s21.2 67 (show @Ne Nat _ _ by omega)).trans t67
  have hdl1 : h21.PlainList dl [Value.ref aL].toArray := ⟨_, (s21.2 dl (show @Ne Nat _ _ by omega)).trans hdl0⟩
  have G21 : Gl w h21 := (S.gl G).keeps S.gk
  have hDL21 : h21.IsList D ps.toArray := let ⟨o, ho, r⟩ := hDL; ⟨o, S.gk _ _ ho, r⟩
  refine wpAny_execs_cons (wpAny_For (range_c (w := w) (vs := ps) G21 v2 v3 v5 (kG "range" (by simp)) (kG "len" (by simp)) (c := L + 2) (by rw [v6]; rfl) (cP.keeps S.gk) (kC "points" (by simp)) (by decide) hDL21 p64 fun s22 I X22 hit lo22 hi22 => ?_))
  have W := Walks.range (prog := P0) (w := w) (A := A) hh I 0 1 ps.length
  have gI : g12.get? I = none := by cases e : g12.get? I with | none => rfl | some o => exact absurd (Nat.lt_of_lt_of_le (Heap.lt_size (S.gk _ _ e)) lo22) (Nat.lt_irrefl _)
  have zI : @LT.lt Nat _ dl I := by obtain ⟨_, e⟩ := hdl1; exact Nat.lt_of_lt_of_le (Heap.lt_size e) lo22
  have S := S.on X22.keep
  have t16 := X22.keep _ _ t16
  have t67 := X22.keep _ _ t67
  have hdl2 : s22.heap.PlainList dl [Value.ref aL].toArray := hdl1.at fun o e => X22.keep _ _ e
  have gens22 : s22.gens = s₁.gens := X22.gens.trans gens18
  have os22 : s22.os = s₁.os := X22.os.trans os18
  have hn' : n = ps.length := by omega
  have hZ : ∀ b ∈ [L, L + 1, L + 2, L + 3, L + 4], @Ne Nat b dl := fun b hb => by
    simp only [List.mem_cons, List.not_mem_nil, or_false] at hb
    rcases hb with rfl | rfl | rfl | rfl | rfl <;> omega
  have hZI : ∀ b ∈ [L, L + 1, L + 2, L + 3, L + 4], @Ne Nat b I := fun b hb => by
    simp only [List.mem_cons, List.not_mem_nil, or_false] at hb
    rcases hb with rfl | rfl | rfl | rfl | rfl <;> omega
  obtain ⟨Fin, FinI, FinE⟩ : ∃ Fin : Except Value Flow → Shared → Prop, (∀ r s', (r = .ok .next ∧ ∃ m' cm' dvs q1 q2, LS s₁.heap Hs2 L s'.heap m' cm' g12 ∧ m' "others" = some (.ref aO) ∧ cm' "due" = some (.ref dl) ∧ s'.heap.PlainList dl dvs.toArray ∧ Pts g12 dvs (dueF pz o pz.length [o]) ∧ s'.heap.get? 16 = some (tabObj q1) ∧ s'.heap.get? 67 = some (tabObj q2) ∧ s'.gens = s₁.gens ∧ s'.os = s₁.os) → Fin r s') ∧ ∀ r s', Fin r s' → (r = .ok .next ∧ ∃ m' cm' dvs q1 q2, LS s₁.heap Hs2 L s'.heap m' cm' g12 ∧ m' "others" = some (.ref aO) ∧ cm' "due" = some (.ref dl) ∧ s'.heap.PlainList dl dvs.toArray ∧ Pts g12 dvs (dueF pz o pz.length [o]) ∧ s'.heap.get? 16 = some (tabObj q1) ∧ s'.heap.get? 67 = some (tabObj q2) ∧ s'.gens = s₁.gens ∧ s'.os = s₁.os) := ⟨_, fun _ _ h => h, fun _ _ h => h⟩
  refine codeAny_mono (R := Fin) ?loop ?fin
  case fin =>
    intro r s' hfin
    obtain ⟨rfl, m', cm', dvs, q1, q2, S, hmO, hcD, hdl, hpD, t16, t67, gens, os⟩ := FinE _ _ hfin
    have G' : Gl w s'.heap := (S.gl G).keeps S.gk
    have hpS : pz.length = ps.length := hpts.len.symm
    have hqlen : qs.length ≤ pz.length := by rw [hperm.length_eq, hoz]; exact List.length_filter_le _ _
    refine wpAny_execs_cons (wpAny_Return_some (wpAny_Compare1 (Call_ (gname (w := w) G' (g_reduce w) ?_ v2 v5 (kG "reduce" (by simp))))))
    obtain ⟨o30, fd30, ho30, hfd30⟩ : ∃ o fd, (∀ h, Gl w h → h.get? 30 = some o) ∧ o.data = .func fd := ⟨_, _, fun h G => G.all 30 _ (by decide) (by decide) rfl, rfl⟩
    refine callWith_def (o := o30) (fd := fd30) hfd30 (args_cons (gname (w := w) G' (g_push w) ?_ v2 v5 (kG "_law_push" (by simp))))
    refine args_cons (lname (v1 ▸ S.ns) hmO ?_ v5 (kL "others" (by simp)))
    refine args_cons (List_ (spliced_more (lcell (c := L + 4) (by rw [v6]; rfl) (cL.keeps S.gk) v5 (kC "least" (by simp)) (spliced_none (wpAny_newList ?_)))))
    refine args_nil ⟨ho30 _ (G'.keeps fun b o e => Heap.get?_push_of_some _ e), ?_⟩
    have kp : ∀ b o, s'.heap.get? b = some o → (s'.heap.push { cls := .type "list", data := .seq [Value.ref aL].toArray }).get? b = some o := fun b o e => Heap.get?_push_of_some _ e
    have bdq : ∀ q ∈ qs, Bd q := fun q hq => bdz q (by have := hperm.mem_iff.mp hq; rw [hoz] at this; exact (List.mem_filter.mp this).1)
    have hqs64 : outs.length + [Value.ref aL].length < 64 := by rw [hpq.len]; simp only [List.length_singleton]; omega
    refine reduce_c (w := w) (G'.keeps kp) hh (by omega) (vs := outs) (us := [.ref aL]) (qs := [o]) (let ⟨o, ho, r⟩ := hlOg; ⟨o, kp _ _ (S.gk _ _ ho), r⟩) ((hpq.keeps S.gk).keeps kp) bdq ⟨_, Heap.get?_push_size _ rfl, rfl, _, rfl⟩ ⟨(hpl.keeps S.gk).keeps kp, trivial⟩ (fun q hq => by rw [List.mem_singleton.mp hq]; exact bdo) hqs64 fun s25 l25 vs25 X25 hl25 hp25 => ?_
    have k25 : ∀ b o, s'.heap.get? b = some o → s25.heap.get? b = some o := fun b o e => X25.keep _ _ (kp _ _ e)
    refine lcell (c := L + 3) (by rw [v6]; rfl) (hcD ▸ (S.cell "due" (L + 3) rfl).keeps k25) v5 (kC "due" (by simp)) ?_
    refine eqLs_c (by omega) hl25 hp25 (hdl.at fun o e => k25 _ _ e).isList ((hpD.keeps S.gk).keeps k25) ?_
    have hom : o ∈ pz := by
      have hm : ∀ (l : List P2) (b : P2), minF b l ∈ b :: l := by
        intro l
        induction l with
        | nil => intro b; exact .head _
        | cons x l ih =>
          intro b
          rw [minF_cons]
          have := ih (if ltPt x b then x else b)
          rcases List.mem_cons.mp this with e | e
          · rw [e]; split
            · exact .tail _ (.head _)
            · exact .head _
          · exact .tail _ (.tail _ e)
      rw [ho, hpz']; exact hm pz' p0
    have key := plain (pts := pz) (others := qs) (o := o) hom hmin (fun q => by rw [hperm.mem_iff, hoz, List.mem_filter]; simp) hsorted hqlen
    rw [key]
    simp only [decide_true]
    have hold : OldK s₁.heap s25.heap := by
      have hkk : ∀ b o, @Ne Nat b 16 → @Ne Nat b 67 → s₁.heap.get? b = some o → s25.heap.get? b = some o := fun b o a c e => k25 _ _ (S.gk _ _ (S.hk b o a c e))
      refine ⟨fun b o e => ?_, fun b o e => ?_⟩
      · by_cases h16 : @Eq Nat b 16
        · subst h16
          rw [e16] at e; cases e
          obtain ⟨oc, vc, _, _, _, _, _, _, _, y1, y2, y3, y4, _⟩ := hd20 G
          exact .inr (.inl ⟨⟨20, oc, vc, y1, y2, y3, y4⟩, rfl, #[], q1, rfl, by rw [Array.empty_append]; exact k25 _ _ t16⟩)
        · by_cases h67 : @Eq Nat b 67
          · subst h67
            rw [e67] at e; cases e
            exact .inr (.inl ⟨⟨69, _, _, G.all 69 _ (by decide) (by decide) rfl, rfl, rfl, rfl⟩, rfl, #[], q2, rfl, by rw [Array.empty_append]; exact k25 _ _ t67⟩)
          · exact .inl (hkk b o h16 h67 e)
      · by_cases h16 : @Eq Nat b 16
        · subst h16; exact ⟨_, k25 _ _ t16⟩
        · by_cases h67 : @Eq Nat b 67
          · subst h67; exact ⟨_, k25 _ _ t67⟩
          · exact ⟨o, hkk b o h16 h67 e⟩
    exact hQQ _ _ ⟨rfl, hold, by rw [X25.gens]; exact gens.trans hg, X25.os.trans os⟩
  case loop =>
    obtain ⟨Inv, InvI, InvE⟩ : ∃ Inv : Nat → Shared → Prop, (∀ k s', (∃ j m' cm' dvs dq, k = ps.length + 1 - j ∧ j ≤ ps.length ∧ LS s₁.heap Hs2 L s'.heap m' cm' g12 ∧ m' "others" = some (.ref aO) ∧ cm' "due" = some (.ref dl) ∧ IsRangeIter s'.heap I (0 + (j : Nat) * 1) ((ps.length : Int) - (j : Nat)) 1 ∧ s'.heap.PlainList dl dvs.toArray ∧ Pts g12 dvs dq ∧ dq ≠ [] ∧ dq.length ≤ j + 1 ∧ (∀ q ∈ dq, Bd q) ∧ dueF pz o (pz.length - j) dq = dueF pz o pz.length [o] ∧ s'.heap.get? 16 = some (tabObj #[rawInt 4, rawInt 4, .ref kc]) ∧ (∃ q2, s'.heap.get? 67 = some (tabObj q2)) ∧ s'.gens = s₁.gens ∧ s'.os = s₁.os) → Inv k s') ∧ ∀ k s', Inv k s' → (∃ j m' cm' dvs dq, k = ps.length + 1 - j ∧ j ≤ ps.length ∧ LS s₁.heap Hs2 L s'.heap m' cm' g12 ∧ m' "others" = some (.ref aO) ∧ cm' "due" = some (.ref dl) ∧ IsRangeIter s'.heap I (0 + (j : Nat) * 1) ((ps.length : Int) - (j : Nat)) 1 ∧ s'.heap.PlainList dl dvs.toArray ∧ Pts g12 dvs dq ∧ dq ≠ [] ∧ dq.length ≤ j + 1 ∧ (∀ q ∈ dq, Bd q) ∧ dueF pz o (pz.length - j) dq = dueF pz o pz.length [o] ∧ s'.heap.get? 16 = some (tabObj #[rawInt 4, rawInt 4, .ref kc]) ∧ (∃ q2, s'.heap.get? 67 = some (tabObj q2)) ∧ s'.gens = s₁.gens ∧ s'.os = s₁.os) := ⟨_, fun _ _ h => h, fun _ _ h => h⟩
    refine codeAny_forLoop Inv ?_ (ps.length + 1)
      (InvI _ _ ⟨0, _, _, [.ref aL], [o], rfl, Nat.zero_le _, S, rfl, rfl, hit, hdl2, ⟨hpl, trivial⟩, by simp, by simp, fun q hq => by rw [List.mem_singleton.mp hq]; exact bdo, rfl, t16, ⟨_, t67⟩, gens22, os22⟩)
    intro k s' hinv
    obtain ⟨j, m', cm', dvs, dq, rfl, hj, S, hmO, hcD, hit', hdl', hpD, hne, hdlen, bdD, hdue, t16, ⟨q2, t67⟩, gens, os⟩ := InvE _ _ hinv
    have hpzl : pz.length = ps.length := hpts.len.symm
    by_cases hlt : j < ps.length
    · refine W.item j _ _ _ hlt hit' fun v h23 tk23 hPv hst23 hk23 => ?_
      have k23 : Heap.ExtBut I s'.heap h23 := fun b o hb e => hk23 b o (by simpa using hb) e
      have S := S.same k23 gI hZI
      have t16 := k23 _ _ (show @Ne Nat _ _ by omega) t16
      have t67 := k23 _ _ (show @Ne Nat _ _ by omega) t67
      have hdl' : h23.PlainList dl dvs.toArray := hdl'.at fun o e => k23 _ _ (show @Ne Nat _ _ by omega) e
      refine wpAny_assign_Name (lstL (s := ⟨h23, _, _, _, _⟩) S iL v1 v5 (kL "k" (by simp)) fun h24 S s24 => ?_)
      have t16 : h24.get? 16 = _ := (s24.2 16 (show @Ne Nat _ _ by omega)).trans t16
      have t67 : h24.get? 67 = _ := (s24.2 67 (show @Ne Nat _ _ by omega)).trans t67
      have hdl' : h24.PlainList dl dvs.toArray := hdl'.at fun o e => (s24.2 dl (show @Ne Nat _ _ by omega)).trans e
      have hst24 : IsRangeIter h24 I (0 + ((j + 1 : Nat) : Nat) * 1) ((ps.length : Int) - ((j + 1 : Nat) : Nat)) 1 := (s24.2 I (show @Ne Nat _ _ by omega)).trans hst23
      have hDL24 : h24.IsList D ps.toArray := let ⟨o, ho, r⟩ := hDL; ⟨o, S.gk _ _ ho, r⟩
      obtain ⟨dvs', dq', aE, e, hdvs, hdq, hpD', hpE⟩ := hpD.last (List.length_pos_iff.mpr hne)
      have hdl24 : h24.IsList dl dvs.toArray := hdl'.isList
      have bdE : Bd e := bdD e (by rw [hdq]; simp)
      have cD24 : h24.IsCell (L + 3) (some (.ref dl)) := hcD ▸ S.cell "due" (L + 3) rfl
      have hD24 : @LT.lt Nat _ D h24.objs.size := by obtain ⟨o, ho, _⟩ := hDL24; exact Heap.lt_size ho
      have hdvl : dvs.length < 64 := by rw [hpD.len]; omega
      obtain ⟨o65, fd65, ho65, hfd65⟩ : ∃ o fd, (∀ h, Gl w h → h.get? 65 = some o) ∧ o.data = .func fd := ⟨_, _, fun h G => G.all 65 _ (by decide) (by decide) rfl, rfl⟩
      refine wpAny_execs_cons (compU (cl := [(("points" : Str), L + 2), (("due" : Str), L + 3)]) (by unfold swapsWith Env.blockKind; simp only [v5, kL "after" (by simp)]; rfl) (by unfold closureFor cellOf; rw [v6]; kernel_rfl) (by decide) rfl (by decide) rfl (lcell (c := L + 2) (by rw [v6]; rfl) (cP.keeps S.gk) v5 (kC "points" (by simp)) (wpAny_pyIter_list hDL24 ?_)))
      refine ⟨h24.objs.size, [h24.objs.size, D], [h24.objs.size], ps.toArray.size, _, _, fun i => isNext pz e (pz.getD i (0, 0)), fun _ _ _ i y => ps[i]? = some y, rfl, Walks.list hh h24.objs.size D (show @Ne Nat _ _ by omega) ps.toArray, by rw [List.size_toArray]; omega, ⟨⟨_, Heap.get?_push_size _ rfl, rfl, rfl⟩, hDL24.push _⟩, fun b hb => ?_, fun i h st b hb => ?_, fun C D h h' i y e _ => e, ?_, ?_⟩
      · show @LT.lt Nat _ b (h24.push _).objs.size
        rw [Heap.size_push]
        simp only [List.mem_cons, List.not_mem_nil, or_false] at hb
        rcases hb with rfl | rfl
        · exact Nat.lt_succ_self _
        · exact Nat.lt_succ_of_lt hD24
      · have e := List.mem_singleton.mp hb
        subst e
        obtain ⟨o', ho', hc', _⟩ := st.1
        exact ⟨o', ho', by rw [hc']; decide⟩
      · intro C D' i v s26 m26 E' K1 K0 hi26 hP hn26 hm26 hD26 hI26 hC26 hk26 hK1 hK0
        have hP' : ps[i]? = some v := by simpa using hP
        obtain ⟨a, q, rfl, eq, hpa⟩ := hpts.get hP'
        have up24 : ∀ b o, h24.get? b = some o → s26.heap.get? b = some o := fun b o e => hk26 b o (fun hm => by
          have := List.mem_singleton.mp hm
          rw [this] at e
          exact absurd (Heap.lt_size e) (Nat.lt_irrefl _)) (Heap.get?_push_of_some _ e)
        have up : ∀ b o, g12.get? b = some o → s26.heap.get? b = some o := fun b o e => up24 _ _ (S.gk _ _ e)
        have G26 : Gl w s26.heap := (S.gl G).keeps up
        have eg : pz.getD i (0, 0) = q := by rw [List.getD_eq_getElem?_getD, eq]; rfl
        have hdl26 : s26.heap.IsList dl dvs.toArray := let ⟨o, ho, r⟩ := hdl24; ⟨o, up24 _ _ ho, r⟩
        refine wpAny_tests_one (wpAny_isTrue_value (Call_ (gname (w := w) G26 (g_isnext w) ?_ v2 rfl (relG rfl))))
        refine callWith_def (o := o65) (fd := fd65) hfd65 (args_cons (lcell (c := L + 2) rfl (cP.keeps up) rfl (relC v5 (kC "points" (by simp)) rfl) ?_))
        refine args_cons (Subscript_ (lcell (c := L + 3) rfl (cD24.keeps up24) rfl (relC v5 (kC "due" (by simp)) rfl) (wpAny_UnaryOp (wpAny_Constant_int (PySem.P.neg_int ?_)))))
        have hdl27 : ({ s26 with toks := s26.toks + 1 + 1 } : Shared).heap.IsList dl dvs.toArray := hdl26
        refine tail_any (ops := [.ref dl, .int (-1) (s26.toks + 1)]) hdl27.typeIs slot_list_getitem.lookup (wpAny_getItem_list_neg hdl27 (by decide) (by rw [List.size_toArray, hdvs, List.length_append, List.length_singleton]; omega) (by decide) (x := .ref aE) (by rw [List.size_toArray]; have t : (-1 + (dvs.length : Int)).toNat = dvs'.length := (by rw [hdvs, List.length_append, List.length_singleton]; omega); rw [t, hdvs]; simp) ?_) (by with_unfolding_all rfl)
        refine args_cons (lname hn26 hm26 ?_ rfl (relL rfl))
        refine args_nil ⟨ho65 _ G26, ?_⟩
        refine isnext_c (s := { s26 with toks := s26.toks + 1 + 1 }) G26 hh (by omega) (by omega) (let ⟨o, ho, r⟩ := hDL; ⟨o, up _ _ ho, r⟩) (hpts.keeps up) bdz (hpE.keeps up) (hpa.keeps up) bdE (bdz q (List.mem_of_getElem? eq)) fun s28 X28 => ?_
        refine wpAny_truthy_bool ?_
        have X28' : Ext s26 s28 := ⟨X28.keep, X28.gens, X28.os⟩
        cases hb : isNext pz e q with
        | true =>
          simp only [if_true]
          exact lname (hn26.keeps X28'.keep) hm26 (hK1 _ _ X28' (by show isNext pz e (pz.getD i (0, 0)) = true; rw [eg]; exact hb) hP') rfl (relL rfl)
        | false =>
          simp only [Bool.false_eq_true, if_false]
          exact hK0 _ X28' (by show isNext pz e (pz.getD i (0, 0)) = false; rw [eg]; exact hb)
      intro C U s26 m26 us hU hC26 hUC hn26 hplU hfilU hk26 hg26 hos26
      have up26 : ∀ b o, h24.get? b = some o → s26.heap.get? b = some o := fun b o e => hk26 b o (fun hm => by
        have := List.mem_singleton.mp hm
        rw [this] at e
        exact absurd (Heap.lt_size e) (Nat.lt_irrefl _)) (Heap.get?_push_of_some _ e)
      have hU24 : h24.get? U = none := by cases e : h24.get? U with | none => rfl | some o => rw [Heap.get?_push_of_some _ e] at hU; cases hU
      have hC24 : h24.get? C = none := by cases e : h24.get? C with | none => rfl | some o => rw [Heap.get?_push_of_some _ e] at hC26; cases hC26
      have nn : ∀ b o, h24.get? b = some o → @Ne Nat U b ∧ @Ne Nat C b := fun b o e => ⟨(fun q => by rw [q, e] at hU24; cases hU24), (fun q => by rw [q, e] at hC24; cases hC24)⟩
      have nL : @Ne Nat U L ∧ @Ne Nat C L := by obtain ⟨o, _, _, ho, _⟩ := S.ns; exact nn _ _ ho
      have gC : g12.get? C = none := by cases e : g12.get? C with | none => rfl | some o => rw [S.gk _ _ e] at hC24; cases hC24
      have hbC : ∀ b ∈ [L, L + 1, L + 2, L + 3, L + 4], @Ne Nat b C := fun b hb => by
        simp only [List.mem_cons, List.not_mem_nil, or_false] at hb
        have cc : ∀ n c, (csL L).lookup n = some c → @Ne Nat c C := fun n c e => by obtain ⟨o, ho, _⟩ := S.cell n c e; exact fun q => (nn _ _ ho).2 q.symm
        rcases hb with rfl | rfl | rfl | rfl | rfl
        · exact fun q => nL.2 q.symm
        · exact cc "table" _ rfl
        · exact cc "points" _ rfl
        · exact cc "due" _ rfl
        · exact cc "least" _ rfl
      have ndl : @Ne Nat U dl ∧ @Ne Nat C dl := by obtain ⟨_, e⟩ := hdl'; exact nn _ _ e
      have nI : @Ne Nat U I ∧ @Ne Nat C I := nn _ _ hst24
      have n16 := nn _ _ t16
      have n67 := nn _ _ t67
      have S := S.on up26
      have t16 := up26 _ _ t16
      have t67 := up26 _ _ t67
      have hdl26 : s26.heap.PlainList dl dvs.toArray := hdl'.at fun o e => up26 _ _ e
      have hst26 : IsRangeIter s26.heap I (0 + ((j + 1 : Nat) : Nat) * 1) ((ps.length : Int) - ((j + 1 : Nat) : Nat)) 1 := up26 _ _ hst24
      obtain ⟨aq, haq⟩ : ∃ aq : List P2, aq = pz.filter (fun t => isNext pz e t) := ⟨_, rfl⟩
      have hpU : Pts g12 us aq := by
        have := hfilU.pts (h := g12) (q := fun i => pz.getD i (0, 0)) (fun i y e => by
          obtain ⟨a, q, rfl, eq, hpa⟩ := hpts.get e
          have eg : pz.getD i (0, 0) = q := by rw [List.getD_eq_getElem?_getD, eq]; rfl
          exact ⟨a, rfl, by rw [eg]; exact hpa⟩)
        rw [List.size_toArray, hpts.len, filter_places (fun t => isNext pz e t) (0, 0) pz] at this
        rw [haq]; exact this
      have gens26 : s26.gens = s₁.gens := hg26.trans gens
      have os26 : s26.os = s₁.os := hos26.trans os
      obtain ⟨h26, gg26, d26, tk26, oo26⟩ := s26
      refine lstL S iL v1 v5 (kL "after" (by simp)) fun h27 S s27 => ⟨m26, hn26.sameBut s27 nL.2, fun h28 s28 => ?_⟩
      have S := S.same s28.extBut gC hbC
      have t16 : h28.get? 16 = _ := (s28.2 16 (Ne.symm n16.2)).trans ((s27.2 16 (show @Ne Nat _ _ by omega)).trans t16)
      have t67 : h28.get? 67 = _ := (s28.2 67 (Ne.symm n67.2)).trans ((s27.2 67 (show @Ne Nat _ _ by omega)).trans t67)
      have hdl28 : h28.PlainList dl dvs.toArray := hdl26.at fun o e => (s28.2 dl (Ne.symm ndl.2)).trans ((s27.2 dl (show @Ne Nat _ _ by omega)).trans e)
      have hst28 : IsRangeIter h28 I (0 + ((j + 1 : Nat) : Nat) * 1) ((ps.length : Int) - ((j + 1 : Nat) : Nat)) 1 := (s28.2 I (Ne.symm nI.2)).trans ((s27.2 I (show @Ne Nat _ _ by omega)).trans hst26)
      have hlU28 : h28.IsList U us.toArray := (hplU.at fun o e => (s28.2 U hUC).trans ((s27.2 U nL.1).trans e)).isList
      refine wpAny_execs_cons (wpAny_If (isTrue_or (wpAny_isTrue_Compare1 (lname (v1 ▸ S.ns) (if_pos rfl) (List_ (spliced_none (wpAny_newList ?_))) v5 (kL "after" (by simp))))))
      have kp : ∀ b o, h28.get? b = some o → (h28.push { cls := .type "list", data := .seq ([] : List Value).toArray }).get? b = some o := fun b o e => Heap.get?_push_of_some _ e
      have S := S.on kp
      have t16 := kp _ _ t16
      have t67 := kp _ _ t67
      have hdl28 : (h28.push { cls := .type "list", data := .seq ([] : List Value).toArray }).PlainList dl dvs.toArray := hdl28.at fun o e => kp _ _ e
      have hst28 : IsRangeIter (h28.push { cls := .type "list", data := .seq ([] : List Value).toArray }) I (0 + ((j + 1 : Nat) : Nat) * 1) ((ps.length : Int) - ((j + 1 : Nat) : Nat)) 1 := kp _ _ hst28
      have hlU28 : (h28.push { cls := .type "list", data := .seq ([] : List Value).toArray }).IsList U us.toArray := let ⟨o, ho, r⟩ := hlU28; ⟨o, kp _ _ ho, r⟩
      refine eqLs_c (by omega) hlU28 (hpU.keeps S.gk) (us := []) (q := []) ⟨_, Heap.get?_push_size _ rfl, rfl, _, rfl⟩ trivial (wpAny_truthy_bool ?_)
      have e1 : pz.length - j = (pz.length - (j + 1)) + 1 := by omega
      have e2 : dq.getLast?.getD o = e := by rw [hdq]; simp
      rw [e1] at hdue
      generalize h28.push { cls := .type "list", data := .seq ([] : List Value).toArray } = h29 at S t16 t67 hdl28 hst28 hlU28 ⊢
      cases aq with
      | nil =>
        simp only [decide_true, if_true]
        refine wpAny_execs_cons (wpAny_Break (FinI _ _ ⟨rfl, _, _, dvs, _, _, S, by rw [if_neg (by decide), if_neg (by decide)]; exact hmO, hcD, hdl28, ?_, t16, t67, gens26, os26⟩))
        rw [← hdue, dueF_nil e2 haq.symm]
        exact hpD
      | cons x aq' =>
        have ed : decide (x :: aq' = ([] : List P2)) = false := by simp
        simp only [ed, Bool.false_eq_true, if_false]
        obtain ⟨ax, us', rfl, hpx⟩ : ∃ ax us', us = .ref ax :: us' ∧ Pt g12 ax x := by
          match us, hpU with
          | .ref ax :: us', hpU => exact ⟨ax, us', rfl, hpU.1⟩
        refine isTrue_or (wpAny_isTrue_Compare1 (Subscript_ (lname (v1 ▸ S.ns) (if_pos rfl) (wpAny_Constant_int ?_) v5 (kL "after" (by simp)))))
        refine tail_any (ops := [.ref U, .int 0 tk26]) ⟨_, hlU28.choose_spec.1, hlU28.choose_spec.2.1⟩ slot_list_getitem.lookup (wpAny_getItem_list hlU28 (by decide) (by decide) (x := .ref ax) (by simp) ?_) (by with_unfolding_all rfl)
        refine lcell (c := L + 4) (by rw [v6]; rfl) (cL.keeps S.gk) v5 (kC "least" (by simp)) ?_
        refine eqPt_c (by omega) (hpx.keeps S.gk) (hpl.keeps S.gk) (wpAny_truthy_bool ?_)
        by_cases hxo : x = o
        · simp only [hxo, decide_true, if_true]
          refine wpAny_execs_cons (wpAny_Break (FinI _ _ ⟨rfl, _, _, dvs, _, _, S, by rw [if_neg (by decide), if_neg (by decide)]; exact hmO, hcD, hdl28, ?_, t16, t67, gens26, os26⟩))
          rw [← hdue, dueF_cons e2 haq.symm, if_pos hxo]
          exact hpD
        · simp only [hxo, decide_false, Bool.false_eq_true, if_false]
          refine isTrue_or_nil ?_
          simp only [Bool.false_eq_true, if_false]
          refine wpAny_execs_nil ?_
          refine wpAny_execs_cons (wpAny_Expr_any (MethodCall_ (lcell (c := L + 3) (by rw [v6]; rfl) (hcD ▸ S.cell "due" (L + 3) rfl) v5 (kC "due" (by simp)) ?_)) (by unfold interactive; rw [v5]; rfl))
          obtain ⟨ndl', edl⟩ := id hdl28
          refine getMethod_list_append edl rfl rfl ?_
          refine callWith_method1 (spliced_more (Subscript_ (lname (v1 ▸ S.ns) (if_pos rfl) (wpAny_Constant_int ?_) v5 (kL "after" (by simp)))))
          refine tail_any (ops := [.ref U, .int 0 _]) ⟨_, hlU28.choose_spec.1, hlU28.choose_spec.2.1⟩ slot_list_getitem.lookup (wpAny_getItem_list hlU28 (by decide) (by decide) (x := .ref ax) (by simp) ?_) (by with_unfolding_all rfl)
          have hszd : dvs.toArray.size ≤ sizeLine := by rw [List.size_toArray, sizeLine_eq]; omega
          refine spliced_none (wpAny_list_append_plain (hsz := hszd) hdl28 fun h30 hdl30 s30 => ?_)
          have S := S.same s30.extBut gdl hZ
          refine wpAny_execs_nil ⟨ps.length + 1 - (j + 1), by omega, InvI _ _ ⟨j + 1, _, _, dvs ++ [.ref ax], dq ++ [x], rfl, hlt, S, by rw [if_neg (by decide), if_neg (by decide)]; exact hmO, hcD, (s30.2 I (show @Ne Nat _ _ by omega)).trans hst28, by simpa using hdl30, Pts.append (vs' := [.ref ax]) (ps' := [x]) hpD (And.intro hpx trivial), by simp, by simp; omega, fun q hq => ?_, ?_, (s30.2 16 (show @Ne Nat _ _ by omega)).trans t16, ⟨_, (s30.2 67 (show @Ne Nat _ _ by omega)).trans t67⟩, gens26, os26⟩⟩
          · rcases List.mem_append.mp hq with h | h
            · exact bdD q h
            · rw [List.mem_singleton.mp h]
              have : x ∈ x :: aq' := .head _
              rw [haq] at this
              exact bdz x (List.mem_filter.mp this).1
          · rw [← hdue, dueF_cons e2 haq.symm, if_neg hxo]
    · have hje : j = ps.length := by omega
      subst hje
      refine W.done _ _ _ hit' fun h23 tk23 hk23 => ?_
      have k23 : Heap.ExtBut I s'.heap h23 := fun b o hb e => hk23 b o (by simpa using hb) e
      refine wpAny_execs_nil (FinI _ _ ⟨rfl, m', cm', dvs, _, q2, S.same k23 gI hZI, hmO, hcD, hdl'.at fun o e => k23 _ _ (show @Ne Nat _ _ by omega) e, ?_, k23 _ _ (show @Ne Nat _ _ by omega) t16, k23 _ _ (show @Ne Nat _ _ by omega) t67, gens, os⟩)
      rw [← hdue, hpzl, Nat.sub_self]
      exact hpD
end Mine
end
theorem PySem.Challenge.cw_dp0028_01_holds : PySem.Challenge.rw_dp0028_01.Holds :=
  Mine.fin Mine.law_c
