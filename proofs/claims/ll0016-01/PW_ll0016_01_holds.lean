import PyProof.Rows.All
import Wide.All
import OpenK.AllK
import Wide.FinOn
import Lean
import PySem.Challenge.RW_ll0016_01
open PySem PySem.W PyProof.Rows PySem.Spec PySem.Calls
set_option Elab.async false
set_option maxRecDepth 100000
namespace Mine
set_option maxHeartbeats 8000000 in
open_top hd for PySem.Challenge.rw_ll0016_01
/-- «open_top» leaves the whole-program lines on for the rest of the file: off again, as in the dev texts -/
theorem off : True := by
  w_top off
  trivial
end Mine

/-! M1 -/
namespace Mine
open Builtin Builtin.Bytes

/-! ## bytes: ord, cuts, repr -/
theorem one_of_bInts {b : Array UInt8} {k : Int} (h : KBw.bInts b = [k]) : ∃ c : UInt8, b = #[c] ∧ ((c.toNat : Nat) : Int) = k := by
  obtain ⟨l⟩ := b
  have h' : l.map (fun c : UInt8 => ((c.toNat : Nat) : Int)) = [k] := h
  match l, h' with
  | [c], h' => exact ⟨c, rfl, by simpa using h'⟩
  | [], h' => simp at h'
  | _ :: _ :: _, h' => simp at h'

theorem gives_ord_byte (c : UInt8) (t : Tok) : Gives (Builtin.«ord» ⟨[.bytes #[c] t], []⟩) (.int ((c.toNat : Nat) : Int)) := .of_eq rfl

section
variable {prog : Program} {w : World} {A : Around} {E : Value → Shared → Prop} {s : Shared} {h₀ : Heap} {L : Addr} {m : Str → Option Value} {news : List (Addr × Obj)}

theorem ord_byte {b : Array UInt8} {k : Int} {t : Tok} {Q : Value → Shared → Prop} (hk : KBw.bInts b = [k]) (h : ∀ t' tk, Q (.int k t') { s with toks := tk }) :
    wpAny (model prog w) A (call (.builtin "ord") [.bytes b t]) Q E s := by
  obtain ⟨c, rfl, rfl⟩ := one_of_bInts hk
  exact call_function_meets F.kind_ord F.plain_ord F.entry_ord (F.args_ord1 _) (gives_ord_byte c t).meets (h _ _)

/-- any cut of bytes with places in bounds -/
theorem cut_at {value slice : PySem.Expr} {b : Array UInt8} {t : Tok} {l u : Value} {i j : Int} {ks cs : List Int} {Q : Value → Shared → Prop}
    (hF : Fr h₀ L s.heap m) (hN : News h₀ L s.heap news) (hk : KBw.bInts b = ks) (hl : IsPart l (some i)) (hu : IsPart u (some j)) (hz : ks.length ≤ 16777216)
    (h0 : 0 ≤ i) (hij : i ≤ j) (hc : (ks.drop i.toNat).take (j.toNat - i.toNat) = cs) (hj : j ≤ ks.length)
    (h : ∀ b' h' t' k, Fr h₀ L h' m → News h₀ L h' news → KBw.bInts b' = cs → Q (.bytes b' t') { s with heap := h', toks := k })
    (hs : subscripted slice false (.bytes b t) (.ref s.heap.objs.size) = operate [.ref s.heap.objs.size, .bytes b t] (getItem (.bytes b t) (.ref s.heap.objs.size)) := by with_unfolding_all rfl)
    (ht : ∀ r, letTemporaryGo value (.bytes b t) r = pure () := by intro _; with_unfolding_all rfl) :
    wpAny (model prog w) A (subscriptTail value slice (.bytes b t) (.ref s.heap.objs.size)) Q E { s with heap := s.heap.push { cls := .type "slice", data := .fields #[l, u, .none] } } := by
  refine KBc.slice_K hF hN hk hl hu hz (fun h' t' k F' N' e => h _ h' t' k F' N' ?_) hs ht
  rw [e]
  obtain ⟨i, rfl⟩ : ∃ n : Nat, i = (n : Int) := ⟨i.toNat, by omega⟩
  obtain ⟨j, rfl⟩ : ∃ n : Nat, j = (n : Int) := ⟨j.toNat, by omega⟩
  simp only [Option.elim, clipAt_nat, Int.toNat_natCast] at hc ⊢
  have e1 : min i ks.length = i := by omega
  have e2 : min j ks.length = j := by omega
  rw [e1, e2]
  exact hc

/-- a cut to the end -/
theorem cut_rest {value slice : PySem.Expr} {b : Array UInt8} {t : Tok} {l u : Value} {i : Int} {ks : List Int} {Q : Value → Shared → Prop}
    (hF : Fr h₀ L s.heap m) (hN : News h₀ L s.heap news) (hk : KBw.bInts b = ks) (hl : IsPart l (some i)) (hu : IsPart u none) (hz : ks.length ≤ 16777216)
    (h : ∀ b' h' t' k, Fr h₀ L h' m → News h₀ L h' news → b'.size ≤ ks.length → Q (.bytes b' t') { s with heap := h', toks := k })
    (hs : subscripted slice false (.bytes b t) (.ref s.heap.objs.size) = operate [.ref s.heap.objs.size, .bytes b t] (getItem (.bytes b t) (.ref s.heap.objs.size)) := by with_unfolding_all rfl)
    (ht : ∀ r, letTemporaryGo value (.bytes b t) r = pure () := by intro _; with_unfolding_all rfl) :
    wpAny (model prog w) A (subscriptTail value slice (.bytes b t) (.ref s.heap.objs.size)) Q E { s with heap := s.heap.push { cls := .type "slice", data := .fields #[l, u, .none] } } := by
  refine KBc.slice_K hF hN hk hl hu hz (fun h' t' k F' N' e => h _ h' t' k F' N' ?_) hs ht
  have := KBc.size_picked_le b (some i) none
  rw [← hk, KBw.ints_length]
  exact this
end

theorem slot_bytes_repr : Slot "bytes" "__repr__" "bytes.__repr__" :=
  .of (owner := "bytes") (n := "__repr__") (by rw [typeLookup_type, builtinLookup_eq_fast]; kernel_rfl) (by decide +kernel) (by decide +kernel) (by decide +kernel)
    (by first | exact .inl (by decide +kernel) | exact .inr (by decide +kernel)) (by rw [isSubtype_type]; kernel_rfl)
theorem entry_bytes_repr : entryFor table "bytes.__repr__" = some Builtin.«bytes.__repr__» := by first | exact entryFor_of_fast (by kernel_rfl) | exact entryFor_of_tree (by kernel_rfl)
theorem args_bytes_repr (v : Value) : argsOk "bytes.__repr__" ⟨[v], []⟩ := by unfold argsOk; kernel_rfl

theorem foldl_size {α : Type} (f : α → Array Nat) (hf : ∀ a, (f a).size ≤ 4) : ∀ (l : List α) (acc : Array Nat), (l.foldl (fun acc c => acc ++ f c) acc).size ≤ acc.size + 4 * l.length
  | [], acc => by simp
  | c :: r, acc => by
    rw [List.foldl_cons, List.length_cons]
    have h := foldl_size f hf r (acc ++ f c)
    rw [Array.size_append] at h
    have := hf c
    omega
theorem literal_size (b : Array UInt8) : (Bytes.literal b).length ≤ 4 * b.size + 3 := by
  unfold Bytes.literal
  simp only [PySem.Str.length, Array.size_push, ← Array.foldl_toList]
  refine Nat.le_trans (Nat.succ_le_succ (foldl_size _ ?_ _ _)) ?_
  · intro a
    repeat' split
    all_goals simp
  · simp
    omega
theorem gives_bytes_repr (b : Array UInt8) (t : Tok) (hz : b.size ≤ 1000) : Gives (Builtin.«bytes.__repr__» ⟨[.bytes b t], []⟩) (.str (Bytes.literal b)) := by
  have e : Bytes.literalAsked b = pure (Bytes.literal b) := by
    unfold Bytes.literalAsked
    have h : Bytes.tooLong (4 * b.size + 3 + 0) = false := by
      unfold Bytes.tooLong
      rw [sizeLine_eq]
      simp
      omega
    rw [h]
    rfl
  show Gives (do let x ← Bytes.literalAsked b; retStr x) _
  rw [e]
  exact .of_eq rfl
section
variable {prog : Program} {w : World} {A : Around} {E : Value → Shared → Prop} {s : Shared}
theorem repr_bytes {b : Array UInt8} {t : Tok} {Q : Value → Shared → Prop} (hz : b.size ≤ 1000) (h : ∀ x t' tk, x.length ≤ 4003 → Q (.str x t') { s with toks := tk }) :
    wpAny (model prog w) A (pyReprObj (.bytes b t)) Q E s :=
  wpAny_pyReprObj_gives (typeIs_bytes s b t) slot_bytes_repr entry_bytes_repr (args_bytes_repr _) (gives_bytes_repr b t hz) (h _ _ _ (Nat.le_trans (literal_size b) (by omega))) (hx := by
    rw [sizeLine_eq]
    exact Nat.le_trans (literal_size b) (by omega))
end
end Mine

/-! R2 -/
namespace Mine
section
variable {prog : Program} {w : World} {A : Around} {E : Value → Shared → Prop} {h : Heap} {g : Array GenState} {d : Drawn} {t : Nat} {os : OsState}
variable {nm q : Str} {C N : Addr} {bs bm : List Value} {hdct : Bool} {sn : List Str} {sub : List Value} {ab : Bool} {col : Option Bool} {dd : Option Addr} {k0 k1 k2 k3 k5 : Option Value} {B newId initId : String}

theorem exc_init (F : ExcBaseFacts B newId initId bm) {e tp : Addr} {rest : List Value} {Q : Value → Shared → Prop}
    (hC : h.get? C = some (excClassObj nm q C N bs bm hdct sn sub ab col dd k0 k1 k2 k3 k5 newId))
    (he : h.get? e = some { cls := .ref C, data := .fields #[.ref tp, .none, .none, .none, .bool false, .none] })
    (hq : ∀ h', (∀ b o, b ≠ e → h.get? b = some o → h'.get? b = some o) → h'.get? e = some { cls := .ref C, data := .fields #[.ref h.objs.size, .none, .none, .none, .bool false, .none] } →
      h'.get? h.objs.size = some { cls := .type "tuple", data := .seq rest.toArray } → Q .none ⟨h', g, d, t, os⟩) (hrest : rest.length ≤ sizeLine := by size_fits) :
    wpAny (model prog w) A (call (.builtin initId) (.ref e :: rest)) Q E ⟨h, g, d, t, os⟩ := by
  refine wpAny_call (codeAny_call_builtin F.init.plain F.initEntry (wpAny_check_init_sub F hC he rfl ?_))
  wp_walk
  have hlt := Heap.lt_size he
  refine hq _ (fun b o hb hbo => ?_) ?_ ?_
  · rw [Heap.get?_update_other _ _ (Ne.symm hb)]
    exact Heap.get?_push_of_some _ hbo
  · rw [Heap.get?_update_self _ (Heap.get?_push_of_some _ he) rfl]
    rfl
  · rw [Heap.get?_update_other _ _ (Nat.ne_of_lt hlt)]
    exact Heap.get?_push_size _ rfl
end
end Mine

/-! R3 -/
namespace Mine
theorem call_raw {prog : Program} {w : World} {A : Around} {s : Shared} {K : Frag} {R : Result → Shared → Prop} {name qual : Str} {params : Arguments} {body : List Stmt} {scope : Scope} {dV kV doc pm cdv ct oc : Value} {an od : Option Addr} {osl : Array (Option Value)}
    {f : Addr} {args : Args} {binds : List (Str × Value)} (X : K.In s.heap) (hlim : s.heap.NoLimit) (hroom : A.depth < recursionLimit)
    (ho : K.lookup f = some ⟨oc, od, .func (fnOf name qual params body scope dV kV doc pm an cdv ct), osl⟩) (hcd : codeIn K cdv qual = true)
    (hbind : BindsTo s (fnOf name qual params body scope dV kV doc pm an cdv ct) args binds) (hloc : ∀ y ∈ binds, scope.names.lookup y.1 = some .local)
    (h : ∀ h₁, h₁.Ns s.heap.objs.size (fun x => binds.reverse.lookup x) → (∀ b o, s.heap.get? b = some o → h₁.get? b = some o) →
      wpAny (model prog w) (A.deeper (envOf qual scope s.heap.objs.size f cdv)) (execs body (envOf qual scope s.heap.objs.size f cdv)) (fun fl s' => R (.ok (.ret (match fl with | .ret v => v | _ => .none))) s')
        (fun e s' => wpAny (model prog w) (A.deeper (envOf qual scope s.heap.objs.size f cdv)) (leaving (envOf qual scope s.heap.objs.size f cdv) e) (fun _ s'' => R (.error e) s'') (fun e' s'' => R (.error e') s'') s')
        { s with heap := h₁, toks := s.toks + binds.length })
    (hco : scope.isCoroutine = false) (hgen : scope.isGenerator = false) (hk : scope.kind = .function) (hcell : ∀ x ∈ scope.names, x.2 ≠ .cell) : codeAny (model prog w) A (.call (.ref f) args) R s :=
  codeAny_call_def (fd := fnOf name qual params body scope dV kV doc pm an cdv ct) hroom (X _ _ ho) rfl hlim (codeRec_of X hcd) rfl hbind hcell hloc h hco hgen hk
set_option maxHeartbeats 4000000 in
theorem init_call (w : World) {p : Program} {loose : List Str} {mean : ExcName → Option Value} {mg mb : Str → Option Value} {A : Around} {h₀ : Heap} {s : Shared} {e tp : Addr} {v : Value} {Q E : Value → Shared → Prop}
    (T₀ : Top p loose mean mg mb h₀) (hk0 : ∀ b o, h₀.get? b = some o → s.heap.get? b = some o)
    (he : s.heap.get? e = some { cls := .ref 32, data := .fields #[.ref tp, .none, .none, .none, .bool false, .none] }) (hne : h₀.get? e = none) (hroom : A.depth < recursionLimit)
    (hq : ∀ h' tk t', (∀ b o, b ≠ e → s.heap.get? b = some o → h'.get? b = some o) → h'.get? e = some { cls := .ref 32, data := .fields #[.ref t', .none, .none, .none, .bool false, .none] } →
      s.heap.get? t' = none → h'.get? t' = some { cls := .type "tuple", data := .seq #[v] } → Q .none { s with heap := h', toks := tk }) :
    (hd.heap_39 w.params).In h₀ → wpAny (model Challenge.rw_ll0016_01.row.prog w) A (call (.ref 29) [.ref e, v]) Q E s := by
  k_fill
  intro X₀
  have st : ∀ b o, h₀.get? b = some o → (hideAll s.heap [e]).get? b = some o := fun b o q => hideAll_get _ (hk0 b o q) fun hm => by
    rw [List.mem_singleton.mp hm, hne] at q; cases q
  have X := X₀.keeps st
  have T := topRead_of (T₀.keeps st)
  have hk0 : ∀ b o, (hideAll s.heap [e]).get? b = some o → s.heap.get? b = some o := fun b o q => of_hideAll _ q
  have X1 := X.keeps hk0
  refine wpAny_call ?_
  refine' call_raw (binds := [(Str.ofString "self", .ref e), (Str.ofString "message", v)]) X1 (T.nolimit.keeps hk0) hroom ?k1 ?k2 ?k3 ?k4 ?kb ?c1 ?c2 ?c3 ?k5
  case k1 => k_is
  case k2 => k_is
  case k3 => first | exact binds_K (by k_in) rfl (by k_is) rfl rfl rfl | exact BindsTo.of_eq rfl
  case k4 => exact locs rfl
  case k5 => decide
  case c1 => rfl
  case c2 => rfl
  case c3 => rfl
  intro h₁ hns hk₁
  have F : Fr (hideAll s.heap [e]) s.heap.objs.size h₁ (fun y => [(Str.ofString "self", Value.ref e), (Str.ofString "message", v)].reverse.lookup y) := ⟨hns, fun b o q => hk₁ b o (hk0 b o q), Nat.le_of_eq (hideAll_size _ _)⟩
  have N : News (hideAll s.heap [e]) s.heap.objs.size h₁ [] := News.nil
  clear hns
  iterate 4 (first | (k_unfold; (try dsimp only)) | (k_end; kc_close) | walk1 | (dsimp only; walk1) | (leave1; walk_say "STEP leave1"; (try dsimp only)) | fail "no step")
  refine' method_type (T := "Exception") F X ?ht (by decide +kernel) ?e ?h ?_
  case ht => kernel_rfl
  case e => k_is
  case h => k_handed
  iterate 6 (first | (k_unfold; (try dsimp only)) | (k_end; kc_close) | walk1 | (dsimp only; walk1) | (leave1; walk_say "STEP leave1"; (try dsimp only)) | fail "no step")
  have X2 := X1.keeps hk₁
  refine' exc_init (C := 32) PySem.F.excBase_Exception ?hC ?he (fun h' j1 j2 j3 => ?_)
  case hC => exact X2 _ _ (by k_is)
  case he => exact hk₁ _ _ he
  refine wpAny_execs_nil ?_
  exact hq h' _ h₁.objs.size (fun b o hb hbo => j1 b o hb (hk₁ b o hbo)) j2 (Heap.get?_none_of_le (Nat.le_of_lt F.ns.lt)) j3
end Mine

/-! R4 -/
namespace Mine
theorem ns_some {K : Frag} {h : Heap} {N : Addr} {mN : Str → Option Value} {n : Str} {v : Value} (X : K.In h) (G : h.Ns N mN) (e : nsIn K N n = some (some v)) : mN n = some v := by
  obtain ⟨o, es, ep, ho, hd, -, hf⟩ := G
  unfold nsIn at e
  cases q : K.lookup N with
  | none => rw [q] at e; cases e
  | some ob =>
    have h1 := X _ _ q
    rw [ho] at h1
    cases h1
    obtain ⟨oc, od, dt, osl⟩ := o
    subst hd
    rw [q] at e
    dsimp only at e
    cases hf1 : es.toList.find? (·.key.isStr n) with
    | none =>
      rw [hf1] at e
      dsimp only at e
      split at e <;> cases e
    | some en =>
      rw [hf1] at e
      cases e
      rw [← hf]
      unfold nsFind findBy
      rw [← Array.find?_toList, hf1]
      rfl

theorem ade_call (w : World) {p : Program} {loose : List Str} {mean : ExcName → Option Value} {mg mb : Str → Option Value} {A : Around} {h₀ : Heap} {s : Shared} {v : Value} {Q E : Value → Shared → Prop}
    (T : Top p loose mean mg mb h₀) (hk0 : ∀ b o, h₀.get? b = some o → s.heap.get? b = some o) (hroom : A.depth + 1 < recursionLimit)
    (hq : ∀ h' e tk, Heap.MadeExcOf s.heap h' e (.ref 32) [v] → Q (.ref e) { s with heap := h', toks := tk }) :
    (hd.heap_39 w.params).In h₀ → wpAny (model Challenge.rw_ll0016_01.row.prog w) A (call (.ref 32) [v]) Q E s := by
  k_fill
  intro X
  have X1 := X.keeps hk0
  obtain ⟨hp, g, d, t, os⟩ := s
  have hns : hp.Ns 31 (hp.nsMap 31) := .of_isNs (isNs_of_in X1 (by kernel_rfl))
  have hi := ns_some (n := Str.ofString "__init__") (v := .ref 29) X1 hns (by k_is)
  refine' wpAny_call_exc_init PySem.F.excBase_Exception (C := 32) ?hC hns hi ?hfI ?hfc ?_ ?hrest
  case hC => exact X1 _ _ (by k_is)
  case hfI => exact X1 _ _ (by k_is)
  case hfc => rfl
  case hrest => rw [sizeLine_eq]; exact Nat.le_of_ble_eq_true rfl
  intro h' e hm
  obtain ⟨tp, he, htp, htt⟩ := hm.there
  have hk1 : ∀ b o, h₀.get? b = some o → h'.get? b = some o := fun b o q => hm.keeps b o (hk0 b o q)
  have hne : h₀.get? e = none := by
    cases q : h₀.get? e with
    | none => rfl
    | some o => exact absurd (hk0 _ _ q) (by rw [hm.new]; nofun)
  refine init_call w (s := ⟨h', g, d, t, os⟩) T hk1 he hne ?_ (fun h'' tk t' j1 j2 j3 j4 => ⟨rfl, hq h'' e tk ⟨fun b o q => j1 b o (fun z => ?_) (hm.keeps b o q), hm.new, t', j2, ?_, j4⟩⟩) X
  · rw [depth_under_make]; exact hroom
  · rw [z, hm.new] at q; cases q
  · cases q : hp.get? t' with
    | none => rfl
    | some o => exact absurd (hm.keeps _ _ q) (by rw [j3]; nofun)
end Mine

/-! R5 -/
namespace Mine
/-- what is raised is an instance of the own class at 32 -/
def Rz (w : World) (E : Value → Shared → Prop) (v : Value) (s₁ : Shared) : Prop :=
  ∃ e t, v = .ref e ∧ (hd.heap_39 w.params).In s₁.heap ∧ s₁.heap.get? e = some { cls := .ref 32, data := .fields #[.ref t, .none, .none, .none, .bool false, .none] } ∧ E (.ref e) s₁

theorem cls_at (w : World) (h : Heap) : (hd.heap_39 w.params).In h → ∃ nm q N bs hdct sn sub ab col dd k0 k1 k2 k3 k5, h.get? 32 = some (excClassObj nm q 32 N bs [.type "Exception", .type "BaseException", .type "object"] hdct sn sub ab col dd k0 k1 k2 k3 k5 "Exception.__new__") := by
  intro X
  exact ⟨_, _, _, _, _, _, _, _, _, _, _, _, _, _, _, X 32 _ rfl⟩

theorem raise_own {prog : Program} {w : World} {A : Around} {E : Value → Shared → Prop} {s : Shared} {env : Env} {e : PySem.Expr} {pos : Pos} {Q : Flow → Shared → Prop} (hh : A.handled = none)
    (h : wpAny (model prog w) A (eval e env) (Rz w E) E s) : wpAny (model prog w) A (exec (.Raise (some e) none pos) env) Q E s := by
  show wpAny (model prog w) A (do standAt pos; raiseStmt env (some (do let v ← eval e env; standAt pos; pure v)) none) Q E s
  refine wpAny_bind (wpAny_standAt ?_)
  have hbase : ([Value.type "Exception", .type "BaseException", .type "object"] : List Value).contains (.type "BaseException") = true := by decide
  have hcB : (Value.ref 32 :: [Value.type "Exception", .type "BaseException", .type "object"]).contains (.type "BaseException") = true := by decide
  unfold raiseStmt
  refine wpAny_bind (wpAny_bind (wpAny_mono h (fun v s₁ h₁ => wpAny_bind (wpAny_standAt (wpAny_pure ?_))) fun _ _ x => x))
  obtain ⟨e, t, rfl, X, he, hE⟩ := h₁
  obtain ⟨_, _, _, _, _, _, _, _, _, _, _, _, _, _, _, hC⟩ := cls_at w _ X
  obtain ⟨hp, g, d, tk, os⟩ := s₁
  repeat (first | with_reducible refine wpAny_loadPart_at he ?_ | with_reducible refine wpAny_loadPart_at hC ?_ | (with_reducible refine wpAny_isSubtype_exc hC ?_; rw [hcB]) | wp_step)
  exact wpAny_raiseNew_none hh hE

theorem ade_raise {w : World} {p : Program} {loose : List Str} {mean : ExcName → Option Value} {mg mb : Str → Option Value} {A : Around} {h₀ : Heap} {s : Shared} {v : Value} {E : Value → Shared → Prop}
    (T : Top p loose mean mg mb h₀) (X : (hd.heap_39 w.params).In h₀) (hk0 : ∀ b o, h₀.get? b = some o → s.heap.get? b = some o) (hroom : A.depth + 1 < recursionLimit)
    (hq : ∀ h' e tk, Heap.MadeExcOf s.heap h' e (.ref 32) [v] → E (.ref e) { s with heap := h', toks := tk }) :
    wpAny (model Challenge.rw_ll0016_01.row.prog w) A (call (.ref 32) [v]) (Rz w E) E s :=
  ade_call w T hk0 hroom (fun h' e tk hm => by
    obtain ⟨t, ht, _, _⟩ := hm.there
    exact ⟨e, t, rfl, X.keeps fun b o q => hm.keeps b o (hk0 b o q), ht, hq h' e tk hm⟩) X
end Mine

/-! M2 -/
namespace Mine
/-! ## facts on small numbers, in the shape that the lines look for -/
structure Small (c : Int) : Prop where
  lo : 0 ≤ c
  hi : c < 128
structure Big (c : Int) : Prop where
  lo : 128 ≤ c
  hi : c < 256
structure IsByte (c : Int) : Prop where
  lo : 0 ≤ c
  hi : c < 256
theorem Small.byte {c : Int} (h : Small c) : IsByte c := ⟨h.lo, by have := h.hi; omega⟩
theorem Big.byte {c : Int} (h : Big c) : IsByte c := ⟨by have := h.lo; omega, h.hi⟩
theorem and_inv_all : ∀ n : Fin 128, Builtin.bitAnd ((n : Nat) : Int) (-129) = ((n : Nat) : Int) := by decide +kernel
theorem and_inv_all2 : ∀ n : Fin 128, Builtin.bitAnd ((n : Nat) + 128 : Int) (-129) = ((n : Nat) : Int) := by decide +kernel
theorem and_bit_all : ∀ n : Fin 128, Builtin.bitAnd ((n : Nat) : Int) 128 = 0 := by decide +kernel
theorem and_bit_all2 : ∀ n : Fin 128, Builtin.bitAnd ((n : Nat) + 128 : Int) 128 = 128 := by decide +kernel
theorem or_bit_all : ∀ n : Fin 128, Builtin.bitOr ((n : Nat) : Int) 128 = ((n : Nat) : Int) + 128 := by decide +kernel
theorem or_zero_all : ∀ n : Fin 256, Builtin.bitOr 0 ((n : Nat) : Int) = ((n : Nat) : Int) := by decide +kernel
theorem Small.fin {c : Int} (h : Small c) : ∃ n : Fin 128, c = ((n : Nat) : Int) := by
  have h1 := h.lo
  have h2 := h.hi
  exact ⟨⟨c.toNat, by omega⟩, by show c = ((c.toNat : Nat) : Int); omega⟩
theorem IsByte.fin {c : Int} (h : IsByte c) : ∃ n : Fin 256, c = ((n : Nat) : Int) := by
  have h1 := h.lo
  have h2 := h.hi
  exact ⟨⟨c.toNat, by omega⟩, by show c = ((c.toNat : Nat) : Int); omega⟩
theorem Big.fin {c : Int} (h : Big c) : ∃ n : Fin 128, c = ((n : Nat) + 128 : Int) := by
  have h1 := h.lo
  have h2 := h.hi
  exact ⟨⟨(c - 128).toNat, by omega⟩, by show c = (((c - 128).toNat : Nat) : Int) + 128; omega⟩
section
variable {prog : Program} {w : World} {A : Around} {E : Value → Shared → Prop} {s : Shared} {Q : Value → Shared → Prop} {t u : Tok}
theorem and_inv_small {c x : Int} (h : Small c) (hx : x = -129) (hq : Q (.int c s.toks) { s with toks := s.toks + 1 }) : wpAny (model prog w) A (binaryOp .BitAnd (.int c t) (.int x u)) Q E s := by
  obtain ⟨n, rfl⟩ := h.fin
  subst hx
  exact and_int (by rw [and_inv_all]; exact hq)
theorem and_inv_big {c x : Int} (h : Big c) (hx : x = -129) (hq : Small (c - 128) → Q (.int (c - 128) s.toks) { s with toks := s.toks + 1 }) : wpAny (model prog w) A (binaryOp .BitAnd (.int c t) (.int x u)) Q E s := by
  have hs : Small (c - 128) := ⟨by have := h.lo; omega, by have := h.hi; omega⟩
  obtain ⟨n, rfl⟩ := h.fin
  subst hx
  refine and_int ?_
  rw [and_inv_all2]
  have e : ((n : Nat) : Int) + 128 - 128 = ((n : Nat) : Int) := by omega
  rw [e] at hq hs
  exact hq hs
theorem and_bit_small {c x : Int} (h : Small c) (hx : x = 128) (hq : Q (.int 0 s.toks) { s with toks := s.toks + 1 }) : wpAny (model prog w) A (binaryOp .BitAnd (.int c t) (.int x u)) Q E s := by
  obtain ⟨n, rfl⟩ := h.fin
  subst hx
  exact and_int (by rw [and_bit_all]; exact hq)
theorem and_bit_big {c x : Int} (h : Big c) (hx : x = 128) (hq : Q (.int 128 s.toks) { s with toks := s.toks + 1 }) : wpAny (model prog w) A (binaryOp .BitAnd (.int c t) (.int x u)) Q E s := by
  obtain ⟨n, rfl⟩ := h.fin
  subst hx
  exact and_int (by rw [and_bit_all2]; exact hq)
theorem shl_zero {c n : Int} (h : IsByte c) (hn : n = 0) (hq : Q (.int c s.toks) { s with toks := s.toks + 1 }) : wpAny (model prog w) A (binaryOp .LShift (.int c t) (.int n u)) Q E s := by
  have h1 := h.lo
  have h2 := h.hi
  subst hn
  refine lshift_int_small (Int.le_refl _) (by decide) (by omega) ?_
  have e : c * 2 ^ (0 : Int).toNat = c := by simp
  rw [e]
  exact hq
theorem ior_zero {c z : Int} (h : IsByte c) (hz : z = 0) (hq : Q (.int c s.toks) { s with toks := s.toks + 1 }) : wpAny (model prog w) A (inplaceOp .BitOr (.int z t) (.int c u)) Q E s := by
  obtain ⟨n, rfl⟩ := h.fin
  subst hz
  exact ior_int (by rw [or_zero_all]; exact hq)
theorem ior_bit {c z : Int} (h : Small c) (hz : z = 128) (hq : Q (.int (c + 128) s.toks) { s with toks := s.toks + 1 }) : wpAny (model prog w) A (inplaceOp .BitOr (.int c t) (.int z u)) Q E s := by
  obtain ⟨n, rfl⟩ := h.fin
  subst hz
  exact ior_int (by rw [or_bit_all]; exact hq)
end

/-! ## a byte at a place -/
def ByteAt (ks : List Int) (q c : Int) : Prop := 0 ≤ q ∧ ks[q.toNat]? = some c
theorem one_at {ks : List Int} {q c i j : Int} (h : ByteAt ks q c) (hi : i = q) (hj : j = q + 1) : (ks.drop i.toNat).take (j.toNat - i.toNat) = [c] := by
  subst hi hj
  obtain ⟨h0, h⟩ := h
  have e : (i + 1).toNat - i.toNat = 1 := by omega
  rw [e]
  have hl : i.toNat < ks.length := (List.getElem?_eq_some_iff.mp h).1
  rw [List.drop_eq_getElem_cons hl, List.take_succ_cons, List.take_zero]
  rw [List.getElem?_eq_getElem hl] at h
  rw [Option.some.inj h]
section
variable {M : Model} {A : Around} {E : Value → Shared → Prop} {s : Shared} {h₀ : Heap} {L a : Addr} {m : Str → Option Value} {cn : Str} {cs : Scope} {ccd : Value} {cl : List (Str × Addr)} {x : Str} {v : Value}
theorem loadX_L {Q : Value → Shared → Prop} (F : Fr h₀ L s.heap m) (hv : m x = some v) (h : Q v s)
    (hk : cs.kind = .function := by rfl) (hx : (envX cn cs L a ccd cl).kindOf x = some .local := by rfl) : wpAny M A (loadName (envX cn cs L a ccd cl) x) Q E s := wpAny_loadName_local hk hx F.ns hv h
end
end Mine

/-! L1 -/
namespace Mine
/-! ## deeds -/
inductive Deed where
  | copy (a n : Int)
  | put (bs : List Int)
def Deed.enc : Deed → List Int
  | .copy a n => if a = 0 then [144, n] else [145, a, n]
  | .put bs => (bs.length : Int) :: bs
def Deed.len : Deed → Int
  | .copy _ n => n
  | .put bs => bs.length
def Deed.dec (kb : List Int) : Deed → List Int
  | .copy a n => (kb.drop a.toNat).take n.toNat
  | .put bs => bs
def Deed.ok : Deed → Prop
  | .copy a n => 0 ≤ a ∧ 1 ≤ n ∧ a + n ≤ 40
  | .put bs => 1 ≤ bs.length ∧ bs.length ≤ 9
def encs (ds : List Deed) : List Int := ds.flatMap Deed.enc
def total : List Deed → Int
  | [] => 0
  | d :: r => d.len + total r
theorem Deed.ok.pos {d : Deed} (h : d.ok) : 1 ≤ d.len := by
  cases d with
  | copy a n => exact h.2.1
  | put bs => have := h.1; show 1 ≤ ((bs.length : Nat) : Int); omega
theorem total_nonneg : ∀ {ds : List Deed}, (∀ d ∈ ds, d.ok) → 0 ≤ total ds
  | [], _ => Int.le_refl _
  | d :: r, h => by
    have h1 := (h d (.head _)).pos
    have h2 := total_nonneg (ds := r) fun e he => h e (.tail _ he)
    show 0 ≤ d.len + total r
    omega
theorem encs_cons (d : Deed) (ds : List Deed) : encs (d :: ds) = d.enc ++ encs ds := List.flatMap_cons ..
theorem enc_two {d : Deed} (h : d.ok) : 2 ≤ d.enc.length := by
  cases d with
  | copy a n =>
    show 2 ≤ (if a = 0 then [144, n] else [145, a, n]).length
    by_cases e : a = 0
    · rw [if_pos e]; exact Nat.le_refl 2
    · rw [if_neg e]; exact Nat.le_succ 2
  | put bs =>
    have h1 : 1 ≤ bs.length := h.1
    show 2 ≤ ((bs.length : Int) :: bs).length
    rw [List.length_cons]
    omega

/-! ## the chunks of a list -/
def ChunksAre : List Value → List (List Int) → Prop
  | [], [] => True
  | v :: vs, c :: cs => (∃ b t, v = .bytes b t ∧ KBw.bInts b = c) ∧ ChunksAre vs cs
  | _, _ => False
theorem ChunksAre.snoc {b : Array UInt8} {t : Tok} {c : List Int} (hb : KBw.bInts b = c) : ∀ {vs : List Value} {cs : List (List Int)}, ChunksAre vs cs → ChunksAre (vs ++ [.bytes b t]) (cs ++ [c])
  | [], [], _ => ⟨⟨b, t, rfl, hb⟩, trivial⟩
  | _ :: _, _ :: _, h => ⟨h.1, ChunksAre.snoc hb h.2⟩
  | [], _ :: _, h => h.elim
  | _ :: _, [], h => h.elim
theorem ChunksAre.length : ∀ {vs : List Value} {cs : List (List Int)}, ChunksAre vs cs → vs.length = cs.length
  | [], [], _ => rfl
  | _ :: _, _ :: _, h => by simp [ChunksAre.length h.2]
  | [], _ :: _, h => h.elim
  | _ :: _, [], h => h.elim

/-! ## what holds between two turns of the main loop -/
structure Inv (kb kd : List Int) (all : List Deed) (told : Int) (ds : List Deed) (i r : Int) (cs : List (List Int)) : Prop where
  i0 : 0 ≤ i
  rest : kd.drop i.toNat = encs ds
  size : i + ((encs ds).length : Int) = kd.length
  ok : ∀ d ∈ ds, d.ok
  done : cs ++ ds.map (Deed.dec kb) = all.map (Deed.dec kb)
  good : told = total all → r = total ds
  bad : told ≠ total all → ∃ j, j + 2 ≤ ds.length ∧ r = total (ds.take j)
theorem Inv.stop {kb kd : List Int} {all : List Deed} {told i r : Int} {cs : List (List Int)} (h : Inv kb kd all told [] i r cs) : told = total all ∧ r = 0 ∧ i = kd.length ∧ cs = all.map (Deed.dec kb) := by
  have hg : told = total all := by
    by_cases e : told = total all
    · exact e
    · obtain ⟨j, hj, _⟩ := h.bad e
      simp at hj
  have hs := h.size
  have hd := h.done
  simp [encs] at hs hd
  exact ⟨hg, h.good hg, by omega, hd⟩
theorem Inv.go {kb kd : List Int} {all : List Deed} {told i r : Int} {cs : List (List Int)} {d : Deed} {ds : List Deed} (h : Inv kb kd all told (d :: ds) i r cs) (hr : d.len ≤ r) :
    Inv kb kd all told ds (i + d.enc.length) (r - d.len) (cs ++ [d.dec kb]) := by
  have h0 := h.i0
  have h1 := h.rest
  have h2 := h.size
  rw [encs_cons] at h1 h2
  rw [List.length_append] at h2
  refine ⟨by omega, ?_, by omega, fun e he => h.ok e (.tail _ he), ?_, fun e => ?_, fun e => ?_⟩
  · have e : (i + (d.enc.length : Int)).toNat = i.toNat + d.enc.length := by omega
    rw [e, ← List.drop_drop, h1, List.drop_left]
  · rw [List.append_assoc]
    exact h.done
  · have := h.good e
    show r - d.len = total ds
    rw [this]
    show d.len + total ds - d.len = total ds
    omega
  · obtain ⟨j, hj, hrj⟩ := h.bad e
    have hp := (h.ok d (.head _)).pos
    cases j with
    | zero =>
      have : r = 0 := hrj
      omega
    | succ j =>
      refine ⟨j, by simp at hj; omega, ?_⟩
      have : r = d.len + total (ds.take j) := hrj
      omega
theorem Inv.halt {kb kd : List Int} {all : List Deed} {told i r : Int} {cs : List (List Int)} {d : Deed} {ds : List Deed} (h : Inv kb kd all told (d :: ds) i r cs) (hr : r < d.len) :
    told ≠ total all ∧ i + (d.enc.length : Int) + 2 ≤ kd.length := by
  have hb : told ≠ total all := fun e => by
    have h1 := h.good e
    have h2 := total_nonneg (ds := ds) fun e he => h.ok e (.tail _ he)
    have h3 : total (d :: ds) = d.len + total ds := rfl
    omega
  refine ⟨hb, ?_⟩
  obtain ⟨j, hj, _⟩ := h.bad hb
  have h2 := h.size
  rw [encs_cons, List.length_append] at h2
  cases ds with
  | nil => simp at hj
  | cons e ds =>
    have := enc_two (h.ok e (.tail _ (.head _)))
    rw [encs_cons, List.length_append] at h2
    omega
theorem Inv.byte {kb kd : List Int} {all : List Deed} {told i r : Int} {cs : List (List Int)} {d : Deed} {ds : List Deed} (h : Inv kb kd all told (d :: ds) i r cs) {k : Nat} {c : Int} (hk : d.enc[k]? = some c) : ByteAt kd (i + k) c := by
  have h0 := h.i0
  have h1 := h.rest
  rw [encs_cons] at h1
  refine ⟨by omega, ?_⟩
  have e : (i + (k : Int)).toNat = i.toNat + k := by omega
  have hlt : k < d.enc.length := (List.getElem?_eq_some_iff.mp hk).1
  rw [e, ← List.getElem?_drop, h1, List.getElem?_append_left hlt]
  exact hk
theorem Inv.room {kb kd : List Int} {all : List Deed} {told i r : Int} {cs : List (List Int)} {d : Deed} {ds : List Deed} (h : Inv kb kd all told (d :: ds) i r cs) : i + (d.enc.length : Int) ≤ kd.length := by
  have h2 := h.size
  rw [encs_cons, List.length_append] at h2
  omega
theorem Inv.text {kb kd : List Int} {all : List Deed} {told i r : Int} {cs : List (List Int)} {bs : List Int} {ds : List Deed} (h : Inv kb kd all told (.put bs :: ds) i r cs) : (kd.drop (i + 1).toNat).take bs.length = bs := by
  have h0 := h.i0
  have h1 := h.rest
  rw [encs_cons] at h1
  have e : (i + 1).toNat = i.toNat + 1 := by omega
  rw [e, ← List.drop_drop, h1]
  show ((((bs.length : Int) :: bs) ++ encs ds).drop 1).take bs.length = bs
  simp

/-! ## the main loop, generic over its trees -/
def keepN : List Str := [Str.ofString "src_buf", Str.ofString "delta", Str.ofString "out", Str.ofString "read_byte", Str.ofString "src_size", Str.ofString "dest_size"]
section
variable {prog : Program} {w : World} {A : Around} {E : Value → Shared → Prop} {s : Shared} {env : Env} {test : PySem.Expr} {body : List Stmt} {pos : Pos} {Q : Flow → Shared → Prop}
theorem news_out {g h : Heap} {L : Addr} {a1 a2 b1 b2 x y : Addr × Obj} (N : News g L h [a1, a2, x, b1, b2, y]) : News g L h [x, y] := fun p hp => by
  simp only [List.mem_cons, List.not_mem_nil, or_false] at hp
  rcases hp with h | h
  · exact N p (by simp [h])
  · exact N p (by simp [h])
theorem fr_same {g h : Heap} {L : Addr} {m m' : Str → Option Value} (F : Fr g L h m) (e : ∀ y, m' y = m y) : Fr g L h m' := by
  have : m' = m := funext e
  rw [this]
  exact F

theorem ad_loop {g : Heap} {Lf : Addr} {m₀ : Str → Option Value} {D2 D1 f2 c2 f1 c1 lo ci cd tb : Addr} {oD2 oD1 of2 oc2 of1 oc1 oi od ot : Obj} {r₀ i₀ : Int} {tr ti : Tok}
    (J : List Deed → Int → Int → List (List Int) → Prop) (ds : List Deed) (F1 : Fr g Lf s.heap m₀)
    (N1 : News g Lf s.heap [(D2, oD2), (D1, oD1), (f2, of2), (c2, oc2), (f1, of1), (c1, oc1), (lo, W.listOf #[] 0), (ci, oi), (cd, od), (tb, ot)])
    (hr : m₀ (Str.ofString "remaining") = some (.int r₀ tr)) (hoi : oi.data = .cell (some (.int i₀ ti))) (h0 : J ds i₀ r₀ [])
    (turn : ∀ (ds : List Deed) (i r : Int) (cs : List (List Int)) (h : Heap) (tk : Nat) (u : Str → Option Value) (tr ti : Tok) (vs : List Value) (n : Nat) (oi' : Obj),
      (∀ (ds' : List Deed) (i' r' : Int) (cs' : List (List Int)) (h' : Heap) (tk' : Nat) (m' : Str → Option Value) (tr' ti' : Tok) (vs' : List Value) (n' : Nat) (ol oi'' : Obj) (news' : List (Addr × Obj)) (k : Nat),
        ds'.length < ds.length → J ds' i' r' cs' → Fr g Lf h' m' → News g Lf h' news' → m' (Str.ofString "remaining") = some (.int r' tr') →
        m' (Str.ofString "src_buf") = m₀ (Str.ofString "src_buf") → m' (Str.ofString "delta") = m₀ (Str.ofString "delta") → m' (Str.ofString "out") = m₀ (Str.ofString "out") →
        m' (Str.ofString "read_byte") = m₀ (Str.ofString "read_byte") → m' (Str.ofString "src_size") = m₀ (Str.ofString "src_size") → m' (Str.ofString "dest_size") = m₀ (Str.ofString "dest_size") →
        oi''.data = .cell (some (.int i' ti')) → ChunksAre vs' cs' → ol = W.listOf vs'.toArray n' →
        (∀ p ∈ [(f2, of2), (c2, oc2), (lo, ol), (ci, oi''), (cd, od), (tb, ot)], p ∈ news') → WhlRest prog w A E env test body [] Q k { s with heap := h', toks := tk' }) →
      J ds i r cs → ChunksAre vs cs → oi'.data = .cell (some (.int i ti)) →
      Fr g Lf h (fun y => if y = Str.ofString "remaining" then some (.int r tr) else if keepN.contains y = true then m₀ y else u y) →
      News g Lf h [(f2, of2), (c2, oc2), (lo, W.listOf vs.toArray n), (ci, oi'), (cd, od), (tb, ot)] →
      WhlRest prog w A E env test body [] Q 1 { s with heap := h, toks := tk }) :
    wpAny (model prog w) A (exec (.While test body [] pos) env) Q E s := by
  have all : ∀ (N : Nat) (ds' : List Deed) (i' r' : Int) (cs' : List (List Int)) (h' : Heap) (tk' : Nat) (m' : Str → Option Value) (tr' ti' : Tok) (vs' : List Value) (n' : Nat) (ol oi'' : Obj) (news' : List (Addr × Obj)) (k : Nat),
        ds'.length < N → J ds' i' r' cs' → Fr g Lf h' m' → News g Lf h' news' → m' (Str.ofString "remaining") = some (.int r' tr') →
        m' (Str.ofString "src_buf") = m₀ (Str.ofString "src_buf") → m' (Str.ofString "delta") = m₀ (Str.ofString "delta") → m' (Str.ofString "out") = m₀ (Str.ofString "out") →
        m' (Str.ofString "read_byte") = m₀ (Str.ofString "read_byte") → m' (Str.ofString "src_size") = m₀ (Str.ofString "src_size") → m' (Str.ofString "dest_size") = m₀ (Str.ofString "dest_size") →
        oi''.data = .cell (some (.int i' ti')) → ChunksAre vs' cs' → ol = W.listOf vs'.toArray n' →
        (∀ p ∈ [(f2, of2), (c2, oc2), (lo, ol), (ci, oi''), (cd, od), (tb, ot)], p ∈ news') → WhlRest prog w A E env test body [] Q k { s with heap := h', toks := tk' } := by
    intro N
    induction N with
    | zero => intro ds' _ _ _ _ _ _ _ _ _ _ _ _ _ _ hlt; exact absurd hlt (Nat.not_lt_zero _)
    | succ N ih =>
      intro ds' i' r' cs' h' tk' m' tr' ti' vs' n' ol oi'' news' k hlt hJ F' N' e0 e1 e2 e3 e4 e5 e6 ho hc hol hsub
      subst hol
      refine turn ds' i' r' cs' h' tk' m' tr' ti' vs' n' oi'' (fun ds₂ i₂ r₂ cs₂ h₂ tk₂ m₂ tr₂ ti₂ vs₂ n₂ ol₂ oi₂ nw₂ k₂ hlt₂ => ih ds₂ i₂ r₂ cs₂ h₂ tk₂ m₂ tr₂ ti₂ vs₂ n₂ ol₂ oi₂ nw₂ k₂ (by omega)) hJ hc ho (fr_same F' fun y => ?_) (fun p hp => N' p (hsub p hp))
      by_cases y0 : y = Str.ofString "remaining"
      · rw [if_pos y0, y0, e0]
      · rw [if_neg y0]
        by_cases hk : keepN.contains y = true
        · rw [if_pos hk]
          have hm : y ∈ keepN := List.contains_iff_mem.mp hk
          simp only [keepN, List.mem_cons, List.not_mem_nil, or_false] at hm
          rcases hm with rfl | rfl | rfl | rfl | rfl | rfl
          · exact e1.symm
          · exact e2.symm
          · exact e3.symm
          · exact e4.symm
          · exact e5.symm
          · exact e6.symm
        · rw [if_neg hk]
  refine whl_start 1 (all (ds.length + 1) ds i₀ r₀ [] s.heap s.toks m₀ tr ti [] 0 _ oi _ 1 (Nat.lt_succ_self _) h0 F1 N1 hr rfl rfl rfl rfl rfl rfl hoi trivial rfl ?_)
  intro p hp
  simp only [List.mem_cons, List.not_mem_nil, or_false] at hp ⊢
  rcases hp with h | h | h | h | h | h <;> simp [h]
end
end Mine

/-! L2 -/
namespace Mine
section
variable {M : Model} {A : Around} {E : Value → Shared → Prop} {s' : Shared} {base g h : Heap} {outer : List Env} {L e : Addr} {m : Str → Option Value} {Q : Unit → Shared → Prop} {news : List (Addr × Obj)} {env : Env}
/-- a made exception leaves a frame of any make -/
theorem leave_raiseX {cls : Value} {vs : List Value} (K : Below A base outer g) (hx : Heap.MadeExcOf h s'.heap e cls vs) (F : Fr g L h m) (N : News g L h news) (hf : env.frame = some L) (hk : env.scope.kind = .function)
    (hQ : ∀ h' t, RaisedS base g outer e cls t vs news h' → g.UpToSlots h' → Q () { s' with heap := h' }) :
    wpAny M (A.deeper env) (leaving env (.ref e)) Q E s' := by
  have P := pushX K F hf hk
  have mem : ∀ {b}, b ∈ (env :: outer).filterMap (·.frame) → b = L ∨ b ∈ outer.filterMap (·.frame) := fun {b} hb => by
    rw [List.filterMap_cons_some hf] at hb
    exact List.mem_cons.mp hb
  have away : ∀ {b o}, g.get? b = some o → b ∉ outer.filterMap (·.frame) → b ∉ (env :: outer).filterMap (·.frame) := fun {b o} q n hb => by
    rcases mem hb with z | z
    · rw [z, kts_self F] at q
      cases q
    · exact n z
  have out : ∀ {b o}, base.get? b = some o → b ∉ (env :: outer).filterMap (·.frame) := fun {b o} q hb => by
    rw [(P.frames.mem hb).1] at q
    cases q
  have led : ∀ q ∈ news, q.1 ∉ (env :: outer).filterMap (·.frame) := fun q hq hb => by
    rcases mem hb with z | z
    · exact (N q hq).2.1 z
    · obtain ⟨o, ho, _⟩ := (K.frames.mem z).2
      rw [(N q hq).2.2] at ho
      cases ho
  refine wpAny_leaves_madeW P.stack hf (base := hideAll h ((env :: outer).filterMap (·.frame))) (fun b o q => of_hideAll _ q)
    (funFrames_hide P.frames fun env' he b hb => List.mem_filterMap.mpr ⟨env', he, hb⟩) hx fun h' t x1 x2 x3 x4 => ?_
  refine hQ h' t ⟨⟨_, fun b o q => hideAll_get _ (P.stays b o q) (out q), fun b o q n => hideAll_get _ (F.keep b o q) (away q n), fun q hq => ⟨hideAll_get _ (N q hq).1 (led q hq), (N q hq).2.2, fresh_of_stays K.stays (N q hq).2.2⟩, x1, x3⟩, x2⟩ ?_
  exact ((Heap.UpToSlots.of_keeps F.keep).trans (Heap.UpToSlots.of_keeps hx.keeps)).trans x4
end

/-- it leaves the frame with cells, then the plain one above it -/
theorem leave_two {M : Model} {A₁ : Around} {E E₁ E₂ : Value → Shared → Prop} {s' : Shared} {base g₂ g₃ h₃ : Heap} {outer : List Env} {L₂ L₃ e a₂ : Addr} {m₂ m₃ : Str → Option Value} {news : List (Addr × Obj)} {env₃ : Env} {nm₂ : Str} {sc₂ : Scope} {cd₂ : Value} {cls : Value} {vs : List Value}
    (hx : Heap.MadeExcOf h₃ s'.heap e cls vs) (K₃ : Below (A₁.deeper (envOf nm₂ sc₂ L₂ a₂ cd₂)) base (envOf nm₂ sc₂ L₂ a₂ cd₂ :: outer) g₃) (F₃ : Fr g₃ L₃ h₃ m₃) (N₃ : News g₃ L₃ h₃ news) (hf : env₃.frame = some L₃) (hk : env₃.scope.kind = .function)
    (K₂ : Below A₁ base outer g₂) (F₂ : Fr g₂ L₂ g₃ m₂)
    (hE : ∀ h' t, RaisedS base g₂ outer e cls t vs news h' → g₂.UpToSlots h' → E (.ref e) { s' with heap := h' }) :
    wpAny M ((A₁.deeper (envOf nm₂ sc₂ L₂ a₂ cd₂)).deeper env₃) (leaving env₃ (.ref e))
      (fun _ s'' => wpAny M (A₁.deeper (envOf nm₂ sc₂ L₂ a₂ cd₂)) (leaving (envOf nm₂ sc₂ L₂ a₂ cd₂) (.ref e)) (fun _ s₃ => E (.ref e) s₃) E₁ s'') E₂ s' := by
  refine leave_raiseX K₃ hx F₃ N₃ hf hk fun h' t R U => ?_
  exact leave_onS K₂ F₂ R U fun h'' R' _ U' => hE h'' t R' U'
end Mine

/-! L3 -/
namespace Mine
/-- behind the second header -/
def HdrP (g : Heap) (Lf : Addr) (m₀ : Str → Option Value) (D1 f2 c2 f1 c1 lo ci cd tb : Addr) (oD1 of2 oc2 of1 oc1 ol od ot : Obj) (told iE : Int) (s : Shared) (f : Flow) (s' : Shared) : Prop :=
  f = .next ∧ ∃ h' tk' td ti D2 oD2 oi' v iv, v = told ∧ iv = iE ∧ s' = { s with heap := h', toks := tk' } ∧ Fr g Lf h' (fun y => if y = Str.ofString "dest_size" then some (.int v td) else m₀ y) ∧
    News g Lf h' [(D2, oD2), (D1, oD1), (f2, of2), (c2, oc2), (f1, of1), (c1, oc1), (lo, ol), (ci, oi'), (cd, od), (tb, ot)] ∧ oi'.data = .cell (some (.int iv ti))
theorem HdrP.intro {g : Heap} {Lf : Addr} {m₀ : Str → Option Value} {D1 f2 c2 f1 c1 lo ci cd tb : Addr} {oD1 of2 oc2 of1 oc1 ol od ot : Obj} {told iE : Int} {s : Shared} {h' : Heap} {tk' : Nat} {td ti : Tok} {D2 : Addr} {oD2 oi' : Obj} {v iv : Int}
    (F : Fr g Lf h' (fun y => if y = Str.ofString "dest_size" then some (.int v td) else m₀ y))
    (N : News g Lf h' [(D2, oD2), (D1, oD1), (f2, of2), (c2, oc2), (f1, of1), (c1, oc1), (lo, ol), (ci, oi'), (cd, od), (tb, ot)]) (hd : oi'.data = .cell (some (.int iv ti))) (hv : v = told) (hi : iv = iE) :
    HdrP g Lf m₀ D1 f2 c2 f1 c1 lo ci cd tb oD1 of2 oc2 of1 oc1 ol od ot told iE s .next { s with heap := h', toks := tk' } :=
  ⟨rfl, h', tk', td, ti, D2, oD2, oi', v, iv, hv, hi, rfl, F, N, hd⟩
theorem hdr_cut {M : Model} {A : Around} {E : Value → Shared → Prop} {s : Shared} {t : Sem Flow} {Q : Flow → Shared → Prop} {g : Heap} {Lf : Addr} {m₀ : Str → Option Value} {D1 f2 c2 f1 c1 lo ci cd tb : Addr} {oD1 of2 oc2 of1 oc1 ol oi od ot : Obj}
    (told iE : Int) (_F1 : Fr g Lf s.heap m₀) (_N1 : News g Lf s.heap [(D1, oD1), (f2, of2), (c2, oc2), (f1, of1), (c1, oc1), (lo, ol), (ci, oi), (cd, od), (tb, ot)])
    (h1 : wpAny M A t (HdrP g Lf m₀ D1 f2 c2 f1 c1 lo ci cd tb oD1 of2 oc2 of1 oc1 ol od ot told iE s) E s)
    (h2 : ∀ h' tk' td ti D2 oD2 oi', Fr g Lf h' (fun y => if y = Str.ofString "dest_size" then some (.int told td) else m₀ y) →
      News g Lf h' [(D2, oD2), (D1, oD1), (f2, of2), (c2, oc2), (f1, of1), (c1, oc1), (lo, ol), (ci, oi'), (cd, od), (tb, ot)] → oi'.data = .cell (some (.int iE ti)) → Q .next { s with heap := h', toks := tk' }) :
    wpAny M A t Q E s :=
  wpAny_mono h1 (fun f s' ⟨e, h', tk', td, ti, D2, oD2, oi', v, iv, e1, e2, es, F, N, d⟩ => by
    subst e e1 e2 es
    exact h2 h' tk' td ti D2 oD2 oi' F N d) fun _ _ x => x
end Mine

/-! L4 -/
namespace Mine
def lens (cs : List (List Int)) : Int := (cs.map fun c => (c.length : Int)).sum
theorem dec_length {kb : List Int} (hk : kb.length = 40) {d : Deed} (h : d.ok) : ((d.dec kb).length : Int) = d.len := by
  cases d with
  | put bs => rfl
  | copy a n =>
    obtain ⟨h1, h2, h3⟩ := h
    show (((kb.drop a.toNat).take n.toNat).length : Int) = n
    rw [List.length_take, List.length_drop, hk]
    omega
theorem total_lens {kb : List Int} (hk : kb.length = 40) : ∀ {ds : List Deed}, (∀ d ∈ ds, d.ok) → total ds = lens (ds.map (Deed.dec kb))
  | [], _ => rfl
  | d :: r, h => by
    show d.len + total r = ((d.dec kb).length : Int) + lens (r.map (Deed.dec kb))
    rw [dec_length hk (h d (.head _)), total_lens hk fun e he => h e (.tail _ he)]
theorem chunks_four {vs : List Value} {cs : List (List Int)} {z : Int} (h : ChunksAre vs cs) (hl : cs.length ≤ 4) (hz : z = lens cs) :
    (vs = [] ∧ z = 0) ∨ (∃ b1 t1 c1, vs = [.bytes b1 t1] ∧ KBw.bInts b1 = c1 ∧ z = (c1.length : Int)) ∨
    (∃ b1 t1 c1 b2 t2 c2, vs = [.bytes b1 t1, .bytes b2 t2] ∧ KBw.bInts b1 = c1 ∧ KBw.bInts b2 = c2 ∧ z = (c1.length : Int) + (c2.length : Int)) ∨
    (∃ b1 t1 c1 b2 t2 c2 b3 t3 c3, vs = [.bytes b1 t1, .bytes b2 t2, .bytes b3 t3] ∧ KBw.bInts b1 = c1 ∧ KBw.bInts b2 = c2 ∧ KBw.bInts b3 = c3 ∧ z = (c1.length : Int) + (c2.length : Int) + (c3.length : Int)) ∨
    (∃ b1 t1 c1 b2 t2 c2 b3 t3 c3 b4 t4 c4, vs = [.bytes b1 t1, .bytes b2 t2, .bytes b3 t3, .bytes b4 t4] ∧ KBw.bInts b1 = c1 ∧ KBw.bInts b2 = c2 ∧ KBw.bInts b3 = c3 ∧ KBw.bInts b4 = c4 ∧ z = (c1.length : Int) + (c2.length : Int) + (c3.length : Int) + (c4.length : Int)) := by
  subst hz
  match vs, cs, h with
  | [], [], _ => exact .inl ⟨rfl, rfl⟩
  | [_], [_], ⟨⟨b1, t1, rfl, e1⟩, _⟩ => exact .inr (.inl ⟨b1, t1, _, rfl, e1, by simp [lens]⟩)
  | [_, _], [_, _], ⟨⟨b1, t1, rfl, e1⟩, ⟨b2, t2, rfl, e2⟩, _⟩ => exact .inr (.inr (.inl ⟨b1, t1, _, b2, t2, _, rfl, e1, e2, by simp [lens]⟩))
  | [_, _, _], [_, _, _], ⟨⟨b1, t1, rfl, e1⟩, ⟨b2, t2, rfl, e2⟩, ⟨b3, t3, rfl, e3⟩, _⟩ => exact .inr (.inr (.inr (.inl ⟨b1, t1, _, b2, t2, _, b3, t3, _, rfl, e1, e2, e3, by simp [lens]; omega⟩)))
  | [_, _, _, _], [_, _, _, _], ⟨⟨b1, t1, rfl, e1⟩, ⟨b2, t2, rfl, e2⟩, ⟨b3, t3, rfl, e3⟩, ⟨b4, t4, rfl, e4⟩, _⟩ => exact .inr (.inr (.inr (.inr ⟨b1, t1, _, b2, t2, _, b3, t3, _, b4, t4, _, rfl, e1, e2, e3, e4, by simp [lens]; omega⟩)))
  | _ :: _ :: _ :: _ :: _ :: _, _ :: _ :: _ :: _ :: _ :: _, _ => simp at hl
end Mine

namespace Mine
theorem bne_no {a b : Int} {P Q : Prop} (h : a = b) (q : Q) : if (a != b) = true then P else Q := by
  subst h
  simpa using q
theorem bne_yes {a b : Int} {P Q : Prop} (h : a ≠ b) (q : P) : if (a != b) = true then P else Q := by
  have e : (a != b) = true := by simpa using h
  rw [if_pos e]
  exact q
theorem beq_no {a b : Int} {P Q : Prop} (h : a ≠ b) (q : Q) : if (a == b) = true then P else Q := by
  have e : (a == b) = false := by simpa using h
  rw [e]
  simpa using q
theorem beq_yes {a b : Int} {P Q : Prop} (h : a = b) (q : P) : if (a == b) = true then P else Q := by
  subst h
  simpa using q
theorem cut_src {kb : List Int} {x n lo hi : Int} (h0 : 0 ≤ x) (h1 : lo = x) (h2 : hi = x + n) : (kb.drop lo.toNat).take (hi.toNat - lo.toNat) = (kb.drop x.toNat).take n.toNat := by
  subst h1 h2
  have e : (lo + n).toNat - lo.toNat = n.toNat := by omega
  rw [e]
theorem cut_put {kd bs : List Int} {i lo hi : Int} (h : (kd.drop (i + 1).toNat).take bs.length = bs) (h0 : 0 ≤ i) (h1 : lo = i + 1) (h2 : hi = i + 1 + bs.length) : (kd.drop lo.toNat).take (hi.toNat - lo.toNat) = bs := by
  subst h1 h2
  have e : (i + 1 + (bs.length : Int)).toNat - (i + 1).toNat = bs.length := by omega
  rw [e]
  exact h

theorem news_two {g h : Heap} {L l x : Addr} {o o' : Obj} {news : List (Addr × Obj)} (N : News g L h news) (h1 : (l, o) ∈ news) (h2 : (x, o') ∈ news) : News g L h [(l, o), (x, o')] := fun p hp => by
  rcases List.mem_cons.mp hp with rfl | hp
  · exact N _ h1
  · rw [List.mem_singleton.mp hp]
    exact N _ h2
theorem dec_no {c : Prop} [Decidable c] {P Q : Prop} (h : ¬ c) (q : Q) : if decide c = true then P else Q := by
  rw [decide_eq_false h]
  simpa using q
theorem dec_yes {c : Prop} [Decidable c] {P Q : Prop} (h : c) (q : P) : if decide c = true then P else Q := by
  rw [decide_eq_true h]
  simpa using q
end Mine
open Mine
local macro_rules | `(tactic| walk_at "exec Raise some none") => `(tactic| (k_here; k_dflt (refine raise_own (by rfl) ?_)))
local macro_rules | `(tactic| walk_at "call ref") => `(tactic| (k_here; (with_reducible show wpAny _ _ (call (Value.ref 32) [_]) (Rz _ _) _ _); k_dflt (refine' ade_raise ?T ?X ?k ?r ?_; (case T => k_asm); (case X => k_asm); (case k => exact Fr.keep (by k_asm)); (case r => k_room)); intro h' e' tk' hm'))
local macro_rules | `(tactic| walk_at "call builtin:ord") => `(tactic| (k_here; (with_reducible show wpAny _ _ (call (Value.builtin "ord") [Value.bytes _ _]) _ _ _); (refine ord_byte (by assumption) ?_); intro _ _))
local macro_rules | `(tactic| walk_at "loadName") => `(tactic| (k_here; k_dflt (refine' loadX_L ?F ?v ?_ ?a ?b; (case F => k_asm); (case a => rfl); (case b => rfl); (case v => rfl); k_whole)))
local macro_rules | `(tactic| walk_at "binaryOp BitAnd int int") => `(tactic| (k_here; first
  | refine and_inv_small (by assumption) (by decide) ?_
  | refine and_bit_small (by assumption) (by decide) ?_
  | refine and_bit_big (by assumption) (by decide) ?_
  | (refine and_inv_big (by assumption) (by decide) ?_; intro hSm')))
local macro_rules | `(tactic| walk_at "binaryOp LShift int int") => `(tactic| (k_here; refine shl_zero (by first | assumption | exact Small.byte (by assumption)) (by decide) ?_))
local macro_rules | `(tactic| walk_at "inplaceOp BitOr int int") => `(tactic| (k_here; first
  | refine ior_zero (by first | assumption | exact Small.byte (by assumption)) (by decide) ?_
  | refine ior_bit (by assumption) (by decide) ?_))
local macro_rules | `(tactic| walk_at "ite") => `(tactic| (first | refine bne_no (by omega) ?_ | refine bne_yes (by omega) ?_))
local macro_rules | `(tactic| walk_at "WhlIf") => `(tactic| (first | (refine WhlIf.no (decide_eq_false (by omega)) ?_) | (refine WhlIf.yes (decide_eq_true (by omega)) ?_)))
local macro_rules | `(tactic| walk_at "ite") => `(tactic| (first | refine beq_no (by omega) ?_ | refine beq_yes (by omega) ?_))
local macro_rules | `(tactic| walk_at "call builtin:isinstance") => `(tactic| (k_here; (with_reducible show wpAny _ _ (call _ [Value.ref _, Value.type "bytes"]) _ _ _); k_dflt (refine IsiPair.isList_bytes (News.isList (by k_asm) (by k_mem)) (fun _ _ e => e) ?_)))
local macro_rules | `(tactic| walk_at "CompEnd") => `(tactic| (k_dflt lcg_end))
local macro_rules | `(tactic| walk_at "exec If") => `(tactic| (k_here; refine wpAny_If ?_))
local macro_rules | `(tactic| walk_at "pyReprObj bytes") => `(tactic| (k_here; refine repr_bytes (by omega) ?_; intro _ _ _ hx9'))
local macro_rules | `(tactic| walk_at "ite") => `(tactic| (first | refine dec_no (by omega) ?_ | refine dec_yes (by omega) ?_))
local macro_rules | `(tactic| walk_at "call builtin:list.append") => `(tactic| (k_here; (with_reducible show wpAny _ _ (call (Value.builtin _) [Value.ref _, _]) _ _ _); k_dflt (refine' append_K ?k1 ?k2 ?k3 ?_ ?z; (case k1 => k_asm); (case k2 => k_asm); (case k3 => k_upd); (case z => (rw [sizeLine_eq, List.size_toArray]; omega)); k_whole); intro h' F' N'))


set_option maxHeartbeats 0 in
theorem Mine.ad_contract (w : World) (mean : ExcName → Option Value) (mg mb : Str → Option Value) (p : Program) (loose : List Str) (b d : Array UInt8) (t u : Tok)
   (kb kd : List Int) (all : List Deed) (told : Int) (hb : KBw.bInts b = kb) (hbz : kb.length = 40) (hkd : KBw.bInts d = kd) (hdz : kd.length ≤ 100)
   (hhead : (Small told ∧ kd = 40 :: told :: encs all) ∨ (Big told ∧ kd = 40 :: told :: 1 :: encs all)) (hall : all.length ≤ 4) (hok : ∀ d ∈ all, d.ok)
   (htold : told ≠ total all → ∃ j, j + 2 ≤ all.length ∧ told = total (all.take j))
   (cn : Str) (cs : Scope) (a : Addr) (ccd : Value) (base h₀ : Heap) (L : Addr) (m : Str → Option Value) (s : Shared) (Q E : Value → Shared → Prop)
   (B : Below callerA base [] h₀) (F : Fr h₀ L s.heap m) (X : (hd.heap_39 w.params).In h₀) (CH : CodeHd base 46 42) (N : News h₀ L s.heap [(42, tabObj #[])])
   (T : Top p loose mean mg mb h₀) (hcs : cs.kind = .function)
   (hQ : told = total all → ∀ l h' tk vs n ps, Fr h₀ L h' m → News h₀ L h' [(l, W.listOf vs.toArray n), (42, tabObj ps)] → ChunksAre vs (all.map (Deed.dec kb)) → Q (.ref l) { s with heap := h', toks := tk })
   (hE : told ≠ total all → ∀ G e t vs h' tk news ps, Fr h₀ L G m → (42, tabObj ps) ∈ news → RaisedS base G [envOf cn cs L a ccd] e (.ref 32) t vs news h' → G.UpToSlots h' → E (.ref e) { s with heap := h', toks := tk }) :
   wpAny (model Challenge.rw_ll0016_01.row.prog w) (callerA.deeper (envOf cn cs L a ccd)) (call (.ref 54) [.bytes b t, .bytes d u]) Q E s := by
  have hs40 : Small 40 := ⟨by decide, by decide⟩
  have hs1 : Small 1 := ⟨by decide, by decide⟩
  have hv0 : ByteAt kd 0 40 := ⟨by decide, by rcases hhead with ⟨_, e⟩ | ⟨_, e⟩ <;> rw [e] <;> rfl⟩
  have hv1 : ByteAt kd 1 told := ⟨by decide, by rcases hhead with ⟨_, e⟩ | ⟨_, e⟩ <;> rw [e] <;> rfl⟩
  have hInv : Inv kb kd all told all (if told < 128 then 2 else 3) told [] := by
    refine ⟨by split <;> decide, ?_, ?_, hok, rfl, fun _ => ‹_›, htold⟩
    · rcases hhead with ⟨h, e⟩ | ⟨h, e⟩
      · rw [if_pos h.hi, e]; rfl
      · rw [if_neg (by have := h.lo; omega), e]; rfl
    · rcases hhead with ⟨h, e⟩ | ⟨h, e⟩
      · rw [if_pos h.hi, e]; simp; omega
      · rw [if_neg (by have := h.lo; omega), e]; simp; omega
  have ht0 : 0 ≤ told ∧ told ≤ 255 := by
    rcases hhead with ⟨h, _⟩ | ⟨h, _⟩
    · exact ⟨h.lo, by have := h.hi; omega⟩
    · exact ⟨by have := h.lo; omega, by have := h.hi; omega⟩
  have hd2 : 2 ≤ kd.length := by rcases hhead with ⟨_, e⟩ | ⟨_, e⟩ <;> rw [e] <;> simp
  k_with "subscriptTail Name Slice bytes ref" => (
    (with_reducible rename Fr _ _ _ _ => F'); (with_reducible rename News _ _ _ _ => N');
    (first
      | refine cut_at (s := ⟨_, _, _, _, _⟩) F' N' hkd (by constructor) (by constructor) (by omega) (by omega) (by omega) (one_at hv0 (by omega) (by omega)) (by omega) ?_
      | refine cut_at (s := ⟨_, _, _, _, _⟩) F' N' hkd (by constructor) (by constructor) (by omega) (by omega) (by omega) (one_at hv1 (by omega) (by omega)) (by omega) ?_
      | refine cut_at (s := ⟨_, _, _, _, _⟩) F' N' hkd (by constructor) (by constructor) (by omega) (by omega) (by omega) (one_at hv2 (by omega) (by omega)) (by omega) ?_
      | refine cut_at (s := ⟨_, _, _, _, _⟩) F' N' hkd (by constructor) (by constructor) (by omega) (by omega) (by omega) (one_at hw0 (by omega) (by omega)) (by omega) ?_
      | refine cut_at (s := ⟨_, _, _, _, _⟩) F' N' hkd (by constructor) (by constructor) (by omega) (by omega) (by omega) (one_at hw1 (by omega) (by omega)) (by omega) ?_
      | refine cut_at (s := ⟨_, _, _, _, _⟩) F' N' hkd (by constructor) (by constructor) (by omega) (by omega) (by omega) (one_at hw2 (by omega) (by omega)) (by omega) ?_
      | refine cut_at (s := ⟨_, _, _, _, _⟩) F' N' hb (by constructor) (by constructor) (by omega) (by omega) (by omega) (cut_src (x := x) (n := n) (by omega) (by omega) (by omega)) (by omega) ?_
      | refine cut_at (s := ⟨_, _, _, _, _⟩) F' N' hkd (by constructor) (by constructor) (by omega) (by omega) (by omega) (cut_put hput (by omega) (by omega) (by omega)) (by omega) ?_
      | refine cut_rest (s := ⟨_, _, _, _, _⟩) F' N' hkd (by constructor) (by constructor) (by omega) ?_);
    intro b9 h9 t9 k9 F' N' hb9)
  revert X; k_fill; intro X
  refine wpAny_call ?_
  k_dflt cell_enter
  (repeat' ((fail_if_success (with_reducible show wpAny _ _ (exec (Stmt.Assign [PySem.Expr.Tuple _ _ _] _ _) _) _ _ _)); (first | (k_unfold; (try dsimp only)) | (k_end; kc_close) | walk1 | (dsimp only; walk1) | (leave1; walk_say "STEP leave1"; (try dsimp only)) | fail "no step")))
  (first | (k_unfold; (try dsimp only)) | (k_end; kc_close) | walk1 | (dsimp only; walk1) | (leave1; walk_say "STEP leave1"; (try dsimp only)) | fail "no step")
  (repeat' ((fail_if_success (with_reducible show wpAny _ _ (exec (Stmt.Assign [PySem.Expr.Tuple _ _ _] _ _) _) _ _ _)); (first | (k_unfold; (try dsimp only)) | (k_end; kc_close) | walk1 | (dsimp only; walk1) | (leave1; walk_say "STEP leave1"; (try dsimp only)) | fail "no step")))
  (rename Fr _ _ _ _ => F1); (rename News _ _ _ _ => N1)
  refine hdr_cut told (if told < 128 then 2 else 3) F1 N1 ?hdr ?main
  case hdr =>
    rcases hhead with ⟨hsm, hke⟩ | ⟨hbg, hke⟩
    · (repeat' ((fail_if_success (with_reducible show HdrP _ _ _ _ _ _ _ _ _ _ _ _ _ _ _ _ _ _ _ _ _ _ _ _ _)); (first | (k_unfold; (try dsimp only)) | (k_end; kc_close) | walk1 | (dsimp only; walk1) | (leave1; walk_say "STEP leave1"; (try dsimp only)) | fail "no step")))
      (rename Fr _ _ _ _ => F9); (rename News _ _ _ _ => N9)
      refine' HdrP.intro F9 N9 ?hd ?hv ?hiv
      case hd => assumption
      case hv => rfl
      case hiv => rw [if_pos hsm.hi]; rfl
    · have hv2 : ByteAt kd 2 1 := ⟨by decide, by rw [hke]; rfl⟩
      have hd3 : 3 ≤ kd.length := by rw [hke]; simp
      (repeat' ((fail_if_success (with_reducible show HdrP _ _ _ _ _ _ _ _ _ _ _ _ _ _ _ _ _ _ _ _ _ _ _ _ _)); (first | (k_unfold; (try dsimp only)) | (k_end; kc_close) | walk1 | (dsimp only; walk1) | (leave1; walk_say "STEP leave1"; (try dsimp only)) | fail "no step")))
      (rename Fr _ _ _ _ => F9); (rename News _ _ _ _ => N9)
      refine' HdrP.intro F9 N9 ?hd ?hv ?hiv
      case hd => assumption
      case hv => omega
      case hiv => rw [if_neg (by have := hbg.lo; omega)]; rfl
  case main =>
    intro h2 tk2 td2 ti2 D2 oD2 oi2 F2 N2 d2
    (repeat' ((fail_if_success (with_reducible show wpAny _ _ (exec (Stmt.While (PySem.Expr.Compare _ _ _ _) _ _ _) _) _ _ _)); (first | (k_unfold; (try dsimp only)) | (k_end; kc_close) | walk1 | (dsimp only; walk1) | (leave1; walk_say "STEP leave1"; (try dsimp only)) | fail "no step")))
    (rename Fr _ _ _ _ => F3); (rename News _ _ _ _ => N3)
    refine ad_loop (Inv kb kd all told) all F3 N3 rfl d2 hInv ?_
    intro ds i r cks h4 tk4 u4 tr4 ti4 vs4 n4 oi4 IH hJ hck hoi4 F4 N4
    try clear F3
    try clear N3
    cases ds with
    | nil =>
      obtain ⟨hg, hr0, hi0, hcs⟩ := hJ.stop
      have hz : told = lens cks := by rw [hcs, ← total_lens hbz hok]; exact hg
      have hc4 : cks.length ≤ 4 := by rw [hcs, List.length_map]; exact hall
      (repeat' ((fail_if_success (with_reducible show And _ _)); (first | (k_unfold; (try dsimp only)) | (k_end; kc_close) | walk1 | (dsimp only; walk1) | (leave1; walk_say "STEP leave1"; (try dsimp only)) | fail "no step")))
      (rename News _ _ _ _ => N9)
      have N10 := news_out N9
      clear N9
      iterate 6 (first | (k_unfold; (try dsimp only)) | (k_end; kc_close) | walk1 | (dsimp only; walk1) | (leave1; walk_say "STEP leave1"; (try dsimp only)) | fail "no step")
      rcases chunks_four hck hc4 hz with ⟨hvs, hz'⟩ | ⟨b1, t1, c1, hvs, e1, hz'⟩ | ⟨b1, t1, c1, b2, t2, c2, hvs, e1, e2, hz'⟩ | ⟨b1, t1, c1, b2, t2, c2, b3, t3, c3, hvs, e1, e2, e3, hz'⟩ | ⟨b1, t1, c1, b2, t2, c2, b3, t3, c3, b4, t4, c4, hvs, e1, e2, e3, e4, hz'⟩
      · subst hvs
        (repeat' ((fail_if_success (with_reducible show Q _ _)); (first | (k_unfold; (try dsimp only)) | (k_end; kc_close) | walk1 | (dsimp only; walk1) | (leave1; walk_say "STEP leave1"; (try dsimp only)) | fail "no step")))
        (rename Fr _ _ _ _ => F9); (rename News _ _ _ _ => N9)
        refine' hQ hg _ _ _ _ _ _ F9 (news_two N9 ?m1 ?m2) (hcs ▸ hck)
        case m1 => k_mem
        case m2 => k_mem
      · subst hvs
        (repeat' ((fail_if_success (with_reducible show Q _ _)); (first | (k_unfold; (try dsimp only)) | (k_end; kc_close) | walk1 | (dsimp only; walk1) | (leave1; walk_say "STEP leave1"; (try dsimp only)) | fail "no step")))
        (rename Fr _ _ _ _ => F9); (rename News _ _ _ _ => N9)
        refine' hQ hg _ _ _ _ _ _ F9 (news_two N9 ?m1 ?m2) (hcs ▸ hck)
        case m1 => k_mem
        case m2 => k_mem
      · subst hvs
        (repeat' ((fail_if_success (with_reducible show Q _ _)); (first | (k_unfold; (try dsimp only)) | (k_end; kc_close) | walk1 | (dsimp only; walk1) | (leave1; walk_say "STEP leave1"; (try dsimp only)) | fail "no step")))
        (rename Fr _ _ _ _ => F9); (rename News _ _ _ _ => N9)
        refine' hQ hg _ _ _ _ _ _ F9 (news_two N9 ?m1 ?m2) (hcs ▸ hck)
        case m1 => k_mem
        case m2 => k_mem
      · subst hvs
        (repeat' ((fail_if_success (with_reducible show Q _ _)); (first | (k_unfold; (try dsimp only)) | (k_end; kc_close) | walk1 | (dsimp only; walk1) | (leave1; walk_say "STEP leave1"; (try dsimp only)) | fail "no step")))
        (rename Fr _ _ _ _ => F9); (rename News _ _ _ _ => N9)
        refine' hQ hg _ _ _ _ _ _ F9 (news_two N9 ?m1 ?m2) (hcs ▸ hck)
        case m1 => k_mem
        case m2 => k_mem
      · subst hvs
        (repeat' ((fail_if_success (with_reducible show Q _ _)); (first | (k_unfold; (try dsimp only)) | (k_end; kc_close) | walk1 | (dsimp only; walk1) | (leave1; walk_say "STEP leave1"; (try dsimp only)) | fail "no step")))
        (rename Fr _ _ _ _ => F9); (rename News _ _ _ _ => N9)
        refine' hQ hg _ _ _ _ _ _ F9 (news_two N9 ?m1 ?m2) (hcs ▸ hck)
        case m1 => k_mem
        case m2 => k_mem
    | cons dd ds =>
      have hroom := hJ.room
      have hvl : vs4.length ≤ 4 := by
        have e := congrArg List.length hJ.done
        simp only [List.length_append, List.length_map, List.length_cons] at e
        rw [hck.length]
        omega
      have hi0 := hJ.i0
      cases dd with
      | copy x n =>
        obtain ⟨hx0, hn1, hxn⟩ : 0 ≤ x ∧ 1 ≤ n ∧ x + n ≤ 40 := hJ.ok _ (.head _)
        have hbx : IsByte x := ⟨hx0, by omega⟩
        have hbn : IsByte n := ⟨by omega, by omega⟩
        by_cases hx : x = 0
        · by_cases hlen : (Deed.copy x n).len ≤ r
          · have hgo := hJ.go hlen
            have hgo2 : ∀ i' r' cs', i' = i + ((Deed.copy x n).enc.length : Int) → r' = r - (Deed.copy x n).len → cs' = cks ++ [(Deed.copy x n).dec kb] → Inv kb kd all told ds i' r' cs' := by rintro _ _ _ rfl rfl rfl; exact hgo
            have henc : (Deed.copy x n).enc = [144, n] := if_pos hx
            have hw0 : ByteAt kd i 144 := by have := hJ.byte (k := 0) (c := 144) (by rw [henc]; rfl); simpa using this
            have hw1 : ByteAt kd (i + 1) n := hJ.byte (k := 1) (c := n) (by rw [henc]; rfl)
            have hrm : i + 2 ≤ kd.length := by rw [henc] at hroom; exact hroom
            have hlr : n ≤ r := hlen
            iterate 1 (first | (k_unfold; (try dsimp only)) | (k_end; kc_close) | walk1 | (dsimp only; walk1) | (leave1; walk_say "STEP leave1"; (try dsimp only)) | fail "no step")
            (repeat' ((fail_if_success (with_reducible show WhlRest _ _ _ _ _ (PySem.Expr.Compare _ _ _ _) _ _ _ _ _)); (first | (k_unfold; (try dsimp only)) | (k_end; kc_close) | walk1 | (dsimp only; walk1) | (leave1; walk_say "STEP leave1"; (try dsimp only)) | fail "no step")))
            (rename Fr _ _ _ _ => F9); (rename News _ _ _ _ => N9)
            refine' IH ds _ _ _ _ _ _ _ _ _ _ _ _ _ _ (Nat.lt_succ_self _) (hgo2 _ _ _ ?ei ?er ?ec) F9 N9 ?e0 ?e1 ?e2 ?e3 ?e4 ?e5 ?e6 ?ho ?hc ?hol ?sub
            case sub => exact List.forall_mem_cons.mpr ⟨by k_mem, List.forall_mem_cons.mpr ⟨by k_mem, List.forall_mem_cons.mpr ⟨by k_mem, List.forall_mem_cons.mpr ⟨by k_mem, List.forall_mem_cons.mpr ⟨by k_mem, List.forall_mem_cons.mpr ⟨by k_mem, List.forall_mem_nil _⟩⟩⟩⟩⟩⟩
            case ho => assumption
            case hol => rw [List.push_toArray]
            case hc => exact ChunksAre.snoc (by assumption) hck
            case e0 => rfl
            case e1 => rfl
            case e2 => rfl
            case e3 => rfl
            case e4 => rfl
            case e5 => rfl
            case e6 => rfl
            case er => rfl
            case ec => rfl
            case ei => rw [henc]; show i + 1 + 1 = i + 2; omega
          · 
            have henc : (Deed.copy x n).enc = [144, n] := if_pos hx
            have hw0 : ByteAt kd i 144 := by have := hJ.byte (k := 0) (c := 144) (by rw [henc]; rfl); simpa using this
            have hw1 : ByteAt kd (i + 1) n := hJ.byte (k := 1) (c := n) (by rw [henc]; rfl)
            have hrm : i + 2 ≤ kd.length := by rw [henc] at hroom; exact hroom
            have hlr : r < n := Int.not_le.mp hlen
            obtain ⟨hbad, hend⟩ := hJ.halt hlr
            rw [henc] at hend
            have hend' : i + 2 + 2 ≤ kd.length := by simpa using hend
            iterate 1 (first | (k_unfold; (try dsimp only)) | (k_end; kc_close) | walk1 | (dsimp only; walk1) | (leave1; walk_say "STEP leave1"; (try dsimp only)) | fail "no step")
            (repeat' ((fail_if_success (with_reducible show wpAny _ _ (leaving _ _) _ _ _)); (first | (k_unfold; (try dsimp only)) | (k_end; kc_close) | walk1 | (dsimp only; walk1) | (leave1; walk_say "STEP leave1"; (try dsimp only)) | fail "no step")))
            (rename Heap.MadeExcOf _ _ _ _ _ => hm9)
            refine' leave_raiseX ?K1 hm9 ?F1 ?N1 rfl rfl ?_
            case K1 => assumption
            case F1 => assumption
            case N1 => assumption
            intro h5 t5 R5 U5
            k_unfold
            (try dsimp only)
            refine' leave_onS ?K2 ?F2 R5 U5 ?_
            case K2 => assumption
            case F2 => assumption
            intro h6 R6 _ U6
            refine' hE hbad _ _ _ _ _ _ _ _ ?FG ?mm R6 U6
            case FG => assumption
            case mm => k_mem
        · by_cases hlen : (Deed.copy x n).len ≤ r
          · have hgo := hJ.go hlen
            have hgo2 : ∀ i' r' cs', i' = i + ((Deed.copy x n).enc.length : Int) → r' = r - (Deed.copy x n).len → cs' = cks ++ [(Deed.copy x n).dec kb] → Inv kb kd all told ds i' r' cs' := by rintro _ _ _ rfl rfl rfl; exact hgo
            have henc : (Deed.copy x n).enc = [145, x, n] := if_neg hx
            have hw0 : ByteAt kd i 145 := by have := hJ.byte (k := 0) (c := 145) (by rw [henc]; rfl); simpa using this
            have hw1 : ByteAt kd (i + 1) x := hJ.byte (k := 1) (c := x) (by rw [henc]; rfl)
            have hw2 : ByteAt kd (i + 2) n := hJ.byte (k := 2) (c := n) (by rw [henc]; rfl)
            have hrm : i + 3 ≤ kd.length := by rw [henc] at hroom; exact hroom
            have hlr : n ≤ r := hlen
            iterate 1 (first | (k_unfold; (try dsimp only)) | (k_end; kc_close) | walk1 | (dsimp only; walk1) | (leave1; walk_say "STEP leave1"; (try dsimp only)) | fail "no step")
            (repeat' ((fail_if_success (with_reducible show WhlRest _ _ _ _ _ (PySem.Expr.Compare _ _ _ _) _ _ _ _ _)); (first | (k_unfold; (try dsimp only)) | (k_end; kc_close) | walk1 | (dsimp only; walk1) | (leave1; walk_say "STEP leave1"; (try dsimp only)) | fail "no step")))
            (rename Fr _ _ _ _ => F9); (rename News _ _ _ _ => N9)
            refine' IH ds _ _ _ _ _ _ _ _ _ _ _ _ _ _ (Nat.lt_succ_self _) (hgo2 _ _ _ ?ei ?er ?ec) F9 N9 ?e0 ?e1 ?e2 ?e3 ?e4 ?e5 ?e6 ?ho ?hc ?hol ?sub
            case sub => exact List.forall_mem_cons.mpr ⟨by k_mem, List.forall_mem_cons.mpr ⟨by k_mem, List.forall_mem_cons.mpr ⟨by k_mem, List.forall_mem_cons.mpr ⟨by k_mem, List.forall_mem_cons.mpr ⟨by k_mem, List.forall_mem_cons.mpr ⟨by k_mem, List.forall_mem_nil _⟩⟩⟩⟩⟩⟩
            case ho => assumption
            case hol => rw [List.push_toArray]
            case hc => exact ChunksAre.snoc (by assumption) hck
            case e0 => rfl
            case e1 => rfl
            case e2 => rfl
            case e3 => rfl
            case e4 => rfl
            case e5 => rfl
            case e6 => rfl
            case er => rfl
            case ec => rfl
            case ei => rw [henc]; show i + 1 + 1 + 1 = i + 3; omega
          · 
            have henc : (Deed.copy x n).enc = [145, x, n] := if_neg hx
            have hw0 : ByteAt kd i 145 := by have := hJ.byte (k := 0) (c := 145) (by rw [henc]; rfl); simpa using this
            have hw1 : ByteAt kd (i + 1) x := hJ.byte (k := 1) (c := x) (by rw [henc]; rfl)
            have hw2 : ByteAt kd (i + 2) n := hJ.byte (k := 2) (c := n) (by rw [henc]; rfl)
            have hrm : i + 3 ≤ kd.length := by rw [henc] at hroom; exact hroom
            have hlr : r < n := Int.not_le.mp hlen
            obtain ⟨hbad, hend⟩ := hJ.halt hlr
            rw [henc] at hend
            have hend' : i + 3 + 2 ≤ kd.length := by simpa using hend
            iterate 1 (first | (k_unfold; (try dsimp only)) | (k_end; kc_close) | walk1 | (dsimp only; walk1) | (leave1; walk_say "STEP leave1"; (try dsimp only)) | fail "no step")
            (repeat' ((fail_if_success (with_reducible show wpAny _ _ (leaving _ _) _ _ _)); (first | (k_unfold; (try dsimp only)) | (k_end; kc_close) | walk1 | (dsimp only; walk1) | (leave1; walk_say "STEP leave1"; (try dsimp only)) | fail "no step")))
            (rename Heap.MadeExcOf _ _ _ _ _ => hm9)
            refine' leave_raiseX ?K1 hm9 ?F1 ?N1 rfl rfl ?_
            case K1 => assumption
            case F1 => assumption
            case N1 => assumption
            intro h5 t5 R5 U5
            k_unfold
            (try dsimp only)
            refine' leave_onS ?K2 ?F2 R5 U5 ?_
            case K2 => assumption
            case F2 => assumption
            intro h6 R6 _ U6
            refine' hE hbad _ _ _ _ _ _ _ _ ?FG ?mm R6 U6
            case FG => assumption
            case mm => k_mem
      | put bs =>
        obtain ⟨hp1, hp9⟩ : 1 ≤ bs.length ∧ bs.length ≤ 9 := hJ.ok _ (.head _)
        · by_cases hlen : (Deed.put bs).len ≤ r
          · have hgo := hJ.go hlen
            have hgo2 : ∀ i' r' cs', i' = i + ((Deed.put bs).enc.length : Int) → r' = r - (Deed.put bs).len → cs' = cks ++ [(Deed.put bs).dec kb] → Inv kb kd all told ds i' r' cs' := by rintro _ _ _ rfl rfl rfl; exact hgo
            have henc : (Deed.put bs).enc = (bs.length : Int) :: bs := rfl
            have hsm : Small (bs.length : Int) := ⟨by omega, by omega⟩
            have hw0 : ByteAt kd i (bs.length : Int) := by have := hJ.byte (k := 0) (c := (bs.length : Int)) rfl; simpa using this
            have hput := hJ.text
            have hrm : i + 1 + (bs.length : Int) ≤ kd.length := by
              rw [henc, List.length_cons] at hroom
              omega
            have hlr : (bs.length : Int) ≤ r := hlen
            iterate 1 (first | (k_unfold; (try dsimp only)) | (k_end; kc_close) | walk1 | (dsimp only; walk1) | (leave1; walk_say "STEP leave1"; (try dsimp only)) | fail "no step")
            (repeat' ((fail_if_success (with_reducible show WhlRest _ _ _ _ _ (PySem.Expr.Compare _ _ _ _) _ _ _ _ _)); (first | (k_unfold; (try dsimp only)) | (k_end; kc_close) | walk1 | (dsimp only; walk1) | (leave1; walk_say "STEP leave1"; (try dsimp only)) | fail "no step")))
            (rename Fr _ _ _ _ => F9); (rename News _ _ _ _ => N9)
            refine' IH ds _ _ _ _ _ _ _ _ _ _ _ _ _ _ (Nat.lt_succ_self _) (hgo2 _ _ _ ?ei ?er ?ec) F9 N9 ?e0 ?e1 ?e2 ?e3 ?e4 ?e5 ?e6 ?ho ?hc ?hol ?sub
            case sub => exact List.forall_mem_cons.mpr ⟨by k_mem, List.forall_mem_cons.mpr ⟨by k_mem, List.forall_mem_cons.mpr ⟨by k_mem, List.forall_mem_cons.mpr ⟨by k_mem, List.forall_mem_cons.mpr ⟨by k_mem, List.forall_mem_cons.mpr ⟨by k_mem, List.forall_mem_nil _⟩⟩⟩⟩⟩⟩
            case ho => assumption
            case hol => rw [List.push_toArray]
            case hc => exact ChunksAre.snoc (by assumption) hck
            case e0 => rfl
            case e1 => rfl
            case e2 => rfl
            case e3 => rfl
            case e4 => rfl
            case e5 => rfl
            case e6 => rfl
            case er => rfl
            case ec => rfl
            case ei => rw [henc, List.length_cons]; omega
          · 
            have henc : (Deed.put bs).enc = (bs.length : Int) :: bs := rfl
            have hsm : Small (bs.length : Int) := ⟨by omega, by omega⟩
            have hw0 : ByteAt kd i (bs.length : Int) := by have := hJ.byte (k := 0) (c := (bs.length : Int)) rfl; simpa using this
            have hput := hJ.text
            have hrm : i + 1 + (bs.length : Int) ≤ kd.length := by
              rw [henc, List.length_cons] at hroom
              omega
            have hlr : r < (bs.length : Int) := Int.not_le.mp hlen
            obtain ⟨hbad, hend⟩ := hJ.halt hlr
            rw [henc, List.length_cons] at hend
            have hend' : i + 1 + (bs.length : Int) + 2 ≤ kd.length := by omega
            iterate 1 (first | (k_unfold; (try dsimp only)) | (k_end; kc_close) | walk1 | (dsimp only; walk1) | (leave1; walk_say "STEP leave1"; (try dsimp only)) | fail "no step")
            (repeat' ((fail_if_success (with_reducible show wpAny _ _ (leaving _ _) _ _ _)); (first | (k_unfold; (try dsimp only)) | (k_end; kc_close) | walk1 | (dsimp only; walk1) | (leave1; walk_say "STEP leave1"; (try dsimp only)) | fail "no step")))
            (rename Heap.MadeExcOf _ _ _ _ _ => hm9)
            refine' leave_raiseX ?K1 hm9 ?F1 ?N1 rfl rfl ?_
            case K1 => assumption
            case F1 => assumption
            case N1 => assumption
            intro h5 t5 R5 U5
            k_unfold
            (try dsimp only)
            refine' leave_onS ?K2 ?F2 R5 U5 ?_
            case K2 => assumption
            case F2 => assumption
            intro h6 R6 _ U6
            refine' hE hbad _ _ _ _ _ _ _ _ ?FG ?mm R6 U6
            case FG => assumption
            case mm => k_mem

/-! L5 -/
namespace Mine
/-! ## the law's own builder, as plain functions -/
def baseL : List Int := List.map (fun k' => (k' * k' + (3 * k').fdiv 7).fmod 256) (rangeKs 0 ((40 : Int) - 0).toNat)
def putL (q : Int) : List Int := [(q.fdiv 9).fmod 256, 0, 200, 128, 7, 7, 9, 1, 2].take (1 + q.fmod 9).toNat
def deedOf (n : Int) : Deed :=
  if n.fmod 3 < 2 then .copy ((n.fdiv 3).fmod 40) (((n.fdiv 3).fdiv 40).fmod (40 - (n.fdiv 3).fmod 40) + 1) else .put (putL (n.fdiv 3))
def txt (ds : List Deed) : List Int := ds.flatMap (Deed.dec baseL)
def marksOf (ds : List Deed) : List Int := (List.range (ds.length + 1)).map fun j => total (ds.take j)
theorem baseL_length : baseL.length = 40 := by decide +kernel
theorem deedOf_ok (n : Int) : (deedOf n).ok := by
  unfold deedOf
  have h1 := Int.fmod_nonneg_of_pos (n.fdiv 3) (show (0 : Int) < 40 by decide)
  have h2 := Int.fmod_lt_of_pos (n.fdiv 3) (show (0 : Int) < 40 by decide)
  have h0 : 0 < 40 - (n.fdiv 3).fmod 40 := by omega
  have h3 := Int.fmod_nonneg_of_pos ((n.fdiv 3).fdiv 40) h0
  have h4 := Int.fmod_lt_of_pos ((n.fdiv 3).fdiv 40) h0
  split
  · exact ⟨h1, by omega, by omega⟩
  · have h5 := Int.fmod_nonneg_of_pos (n.fdiv 3) (show (0 : Int) < 9 by decide)
    have h6 := Int.fmod_lt_of_pos (n.fdiv 3) (show (0 : Int) < 9 by decide)
    have e : (putL (n.fdiv 3)).length = (1 + (n.fdiv 3).fmod 9).toNat := by
      unfold putL
      rw [List.length_take]
      simp only [List.length_cons, List.length_nil]
      omega
    exact ⟨by rw [e]; omega, by rw [e]; omega⟩
theorem total_append : ∀ (ds : List Deed) (d : Deed), total (ds ++ [d]) = total ds + d.len
  | [], d => by show d.len + 0 = 0 + d.len; omega
  | e :: r, d => by show e.len + total (r ++ [d]) = e.len + total r + d.len; rw [total_append r d]; omega
theorem encs_append (ds : List Deed) (d : Deed) : encs (ds ++ [d]) = encs ds ++ d.enc := by simp [encs]
theorem txt_append (ds : List Deed) (d : Deed) : txt (ds ++ [d]) = txt ds ++ d.dec baseL := by simp [txt]
theorem txt_length : ∀ {ds : List Deed}, (∀ d ∈ ds, d.ok) → ((txt ds).length : Int) = total ds
  | [], _ => rfl
  | d :: r, h => by
    have e : txt (d :: r) = d.dec baseL ++ txt r := List.flatMap_cons ..
    rw [e, List.length_append]
    have h1 := dec_length baseL_length (h d (.head _))
    have h2 := txt_length (ds := r) fun e he => h e (.tail _ he)
    show _ = d.len + total r
    omega
theorem marksOf_append (ds : List Deed) (d : Deed) : marksOf (ds ++ [d]) = marksOf ds ++ [total (ds ++ [d])] := by
  unfold marksOf
  rw [List.length_append, List.length_singleton, List.range_succ, List.map_append]
  congr 1
  · refine List.map_congr_left fun j hj => ?_
    have hj' : j < ds.length + 1 := List.mem_range.mp hj
    rw [List.take_append_of_le_length (by omega)]
  · simp only [List.map_cons, List.map_nil]
    rw [List.take_of_length_le (by simp)]
theorem marksOf_length (ds : List Deed) : (marksOf ds).length = ds.length + 1 := by simp [marksOf]
theorem marksOf_get {ds : List Deed} {j : Nat} (h : j ≤ ds.length) : (marksOf ds)[j]? = some (total (ds.take j)) := by
  simp [marksOf, List.getElem?_range (show j < ds.length + 1 by omega)]
theorem deed_len_le {d : Deed} (h : d.ok) : d.len ≤ 40 := by
  cases d with
  | copy a n => obtain ⟨h1, h2, h3⟩ := h; show n ≤ 40; omega
  | put bs => obtain ⟨h1, h2⟩ := h; show (bs.length : Int) ≤ 40; omega
theorem deed_enc_le {d : Deed} (h : d.ok) : d.enc.length ≤ 10 := by
  cases d with
  | copy a n =>
    show (if a = 0 then [144, n] else [145, a, n]).length ≤ 10
    split <;> exact Nat.le_of_ble_eq_true rfl
  | put bs => obtain ⟨h1, h2⟩ := h; show ((bs.length : Int) :: bs).length ≤ 10; rw [List.length_cons]; omega
theorem total_le : ∀ {ds : List Deed}, (∀ d ∈ ds, d.ok) → total ds ≤ 40 * (ds.length : Int)
  | [], _ => Int.le_refl _
  | d :: r, h => by
    have h1 := deed_len_le (h d (.head _))
    have h2 := total_le (ds := r) fun e he => h e (.tail _ he)
    show d.len + total r ≤ _
    rw [List.length_cons]
    omega
theorem encs_le : ∀ {ds : List Deed}, (∀ d ∈ ds, d.ok) → (encs ds).length ≤ 10 * ds.length
  | [], _ => Nat.le_refl _
  | d :: r, h => by
    have h1 := deed_enc_le (h d (.head _))
    have h2 := encs_le (ds := r) fun e he => h e (.tail _ he)
    rw [encs_cons, List.length_append, List.length_cons]
    omega
def deedsOf (pre : List Int) : List Deed := pre.map deedOf
theorem deedsOf_ok (pre : List Int) : ∀ d ∈ deedsOf pre, d.ok := fun d hd => by
  obtain ⟨n, _, rfl⟩ := List.mem_map.mp hd
  exact deedOf_ok n
/-- what holds between two turns of the law's loop -/
def Built (pre : List Int) (body text : Array UInt8) (marks : List Int) : Prop :=
  KBw.bInts body = encs (deedsOf pre) ∧ KBw.bInts text = txt (deedsOf pre) ∧ marks = marksOf (deedsOf pre) ∧ (encs (deedsOf pre)).length ≤ 10 * pre.length ∧ (txt (deedsOf pre)).length ≤ 40 * pre.length ∧ marks.length = pre.length + 1
theorem Built.of {pre : List Int} {body text : Array UInt8} {marks : List Int} (h1 : KBw.bInts body = encs (deedsOf pre)) (h2 : KBw.bInts text = txt (deedsOf pre)) (h3 : marks = marksOf (deedsOf pre)) : Built pre body text marks := by
  have hok := deedsOf_ok pre
  have hl : (deedsOf pre).length = pre.length := List.length_map ..
  refine ⟨h1, h2, h3, ?_, ?_, ?_⟩
  · have := encs_le hok
    rw [hl] at this
    exact this
  · have h4 := txt_length hok
    have h5 := total_le hok
    rw [hl] at h5
    omega
  · rw [h3, marksOf_length, hl]
theorem deedsOf_snoc (pre : List Int) (n : Int) : deedsOf (pre ++ [n]) = deedsOf pre ++ [deedOf n] := by simp [deedsOf]
theorem Built.snoc {pre : List Int} {n : Int} {body text body' text' : Array UInt8} {marks : List Int} {e c : List Int} {z : Int} (h : Built pre body text marks)
    (h1 : KBw.bInts body' = encs (deedsOf pre) ++ e) (h2 : KBw.bInts text' = txt (deedsOf pre) ++ c) (he : e = (deedOf n).enc) (hc : c = (deedOf n).dec baseL) (hz : z = ((txt (deedsOf pre)).length + c.length : Int)) :
    Built (pre ++ [n]) body' text' (marks ++ [z]) := by
  subst he hc
  refine Built.of ?_ ?_ ?_
  · rw [h1, deedsOf_snoc, encs_append]
  · rw [h2, deedsOf_snoc, txt_append]
  · rw [deedsOf_snoc, marksOf_append, h.2.2.1, hz, txt_length (deedsOf_ok pre), dec_length baseL_length (deedOf_ok n), total_append]
end Mine

/-! J1 -/
namespace Mine
open Builtin Builtin.Bytes

theorem slot_bytes_join : Slot "bytes" "join" "bytes.join" :=
  .of (owner := "bytes") (n := "join") (by rw [typeLookup_type, builtinLookup_eq_fast]; kernel_rfl) (by decide +kernel) (by decide +kernel) (by decide +kernel)
    (by first | exact .inl (by decide +kernel) | exact .inr (by decide +kernel)) (by rw [isSubtype_type]; kernel_rfl)
theorem entry_bytes_join : entryFor table "bytes.join" = some Builtin.«bytes.join» := by first | exact entryFor_of_fast (by kernel_rfl) | exact entryFor_of_tree (by kernel_rfl)
theorem args_bytes_join (v a : Value) : argsOk "bytes.join" ⟨[v, a], []⟩ := by unfold argsOk; kernel_rfl
theorem type_bytes_join : typeOf (.builtin "bytes.join") = pure (.type "method_descriptor") := by show builtinType _ = _; rw [builtinType_eq_fast]; kernel_rfl
theorem method_join {M : Model} {A : Around} {E : Value → Shared → Prop} {s : Shared} {b : Array UInt8} {t : Tok} {pl : Sem Bool} {Q : Value × List Value → Shared → Prop} (h : Q (.builtin "bytes.join", [.bytes b t]) s) : wpAny M A (getMethod (.bytes b t) "join" pl) Q E s := by
  with_reducible exact KBd.method_of (.bytes b t) (typeIs_bytes _ _ _) slot_bytes_join type_bytes_join KBd.noRef h

section
variable {b : Array UInt8} {t : Tok}
theorem take_eq (id : String) : Bytes.takeBufferQuiet? id (.bytes b t) 0 = pure (some (b, none)) := by
  have h1 : specialOf (.bytes b t) "__buffer__" = pure (some (.builtin "bytes.__buffer__")) := KBy.special_eq KBy.look_buffer
  have h2 : Bytes.slotIsOwn (.bytes b t) "__buffer__" = pure true := KBy.own_buffer
  have h3 : Bytes.buffer? id (.bytes b t) (full := (0 : Int) == fullReadOnly) = pure (some b) := by
    first | exact KBy.buffer_eq | rfl
  have h4 : Bytes.takeBuffer? id (.bytes b t) 0 = pure (some (b, none)) := by
    unfold Bytes.takeBuffer?
    rw [h1]
    simp only [pure_bind, h2, h3]
    rfl
  unfold Bytes.takeBufferQuiet?
  rw [h4]
  rfl
end
end Mine

/-! J3 -/
namespace Mine
open Builtin Builtin.Bytes
theorem wpAny_bind_assoc {α β γ : Type} {M : Model} {A : Around} {E : Value → Shared → Prop} {s : Shared} {x : Sem α} {f : α → Sem β} {g : β → Sem γ} {Q : γ → Shared → Prop}
    (h : wpAny M A (x >>= fun a => f a >>= g) Q E s) : wpAny M A ((x >>= f) >>= g) Q E s := by
  rw [bind_assoc]
  exact h
theorem wpAny_if_no {α : Type} {M : Model} {A : Around} {E : Value → Shared → Prop} {s : Shared} {c : Bool} {x y : Sem α} {Q : α → Shared → Prop} (hc : c = false) (h : wpAny M A y Q E s) : wpAny M A (if c = true then x else y) Q E s := by
  subst hc
  exact h
theorem joinLetGo_ok {M : Model} {A : Around} {E : Value → Shared → Prop} {s : Shared} {keep : List Value} {Q : Unit → Shared → Prop} : ∀ (vs : List Value), Q () s → wpAny M A (Bytes.joinLetGo (vs.map fun v => (v, (none : Option Value))) keep) Q E s
  | [], h => wpAny_pure h
  | v :: vs, h => by
    show wpAny M A (letGo [v] _ >>= fun _ => Bytes.joinLetGo (vs.map fun v => (v, (none : Option Value))) keep) Q E s
    exact wpAny_bind (wpAny_letGo (joinLetGo_ok vs h))
theorem tooLong_not {n : Nat} (h : n ≤ 16777216) : Bytes.tooLong n = false := KBy.tooLong_not h
theorem meets_join0 (t : Tok) (l : Addr) (n : Nat) :
    Meets («bytes.join» ⟨[.bytes #[] t, .ref l], []⟩) (fun _ R s => s.heap.get? l = some (W.listOf #[] n) ∧ 0 ≤ 1000 ∧ ∀ b' t' k, KBw.bInts b' = [] → R (.ok (.ret (.bytes b' t'))) { s with toks := k }) := by
  refine .of_wp fun prog w A R s hS => ?_
  obtain ⟨hl, hsz, h⟩ := hS
  have hT : s.TypeIs (.ref l) "list" := ⟨_, hl, rfl⟩
  show wpAny _ _ (_ >>= fun p => _) _ _ s
  refine wpAny_bind (wpAny_pure ?_)
  show wpAny _ _ (Bytes.joinItems (.ref l) >>= fun p => _) _ _ s
  refine wpAny_bind (wpAny_bind (wpAny_typeOf hT (wpAny_pure ?_)))
  show wpAny _ _ (seqItems? (.ref l) >>= fun p => _) _ _ s
  refine wpAny_bind (wpAny_seqItems hl rfl ?_)
  show wpAny _ _ (forIn _ _ _ >>= fun p => _) _ _ s
  rw [Std.Legacy.Range.forIn_eq_forIn_range']
  generalize hr : List.range' _ _ _ = rg
  have hrg : rg = [] := by
    rw [← hr]
    simp [Std.Legacy.Range.size, List.range']
  subst hrg
  clear hr
  rw [List.forIn_nil]
  refine wpAny_bind (wpAny_pure ?_)
  show wpAny _ _ (Bytes.payload (.bytes #[] t) >>= fun p => _) _ _ s
  refine wpAny_bind (wpAny_pure ?_)
  refine wpAny_if_no (tooLong_not ?_) ?_
  · simp [Array.foldl, Bytes.tooLong] <;> omega
  show wpAny _ _ (mkBytes _ >>= fun p => _) _ _ s
  refine wpAny_bind (wpAny_mkBytes ?_ ?_)
  · refine wpAny_bind (wpAny_holding (wpAny_point ?_))
    refine wpAny_bind (joinLetGo_ok [] ?_)
    exact wpAny_pure ⟨_, rfl, h _ _ _ (by simp [Bytes.joined, KBw.bInts, List.zipIdx])⟩
  · (rw [sizeLine_eq]; simp [Bytes.joined, List.zipIdx]; try omega)

theorem meets_join1 (b1 : Array UInt8) (t1 t : Tok) (l : Addr) (n : Nat) :
    Meets («bytes.join» ⟨[.bytes #[] t, .ref l], []⟩) (fun _ R s => s.heap.get? l = some (W.listOf #[.bytes b1 t1] n) ∧ b1.size ≤ 1000 ∧ ∀ b' t' k, KBw.bInts b' = KBw.bInts b1 → R (.ok (.ret (.bytes b' t'))) { s with toks := k }) := by
  refine .of_wp fun prog w A R s hS => ?_
  obtain ⟨hl, hsz, h⟩ := hS
  have hT : s.TypeIs (.ref l) "list" := ⟨_, hl, rfl⟩
  show wpAny _ _ (_ >>= fun p => _) _ _ s
  refine wpAny_bind (wpAny_pure ?_)
  show wpAny _ _ (Bytes.joinItems (.ref l) >>= fun p => _) _ _ s
  refine wpAny_bind (wpAny_bind (wpAny_typeOf hT (wpAny_pure ?_)))
  show wpAny _ _ (seqItems? (.ref l) >>= fun p => _) _ _ s
  refine wpAny_bind (wpAny_seqItems hl rfl ?_)
  show wpAny _ _ (typeOf (.bytes b1 t1) >>= fun p => _) _ _ s
  refine wpAny_bind (wpAny_typeOf (typeIs_bytes _ _ _) ?_)
  show wpAny _ _ (rule _ >>= fun p => _) _ _ s
  refine wpAny_bind (wpAny_rule (wpAny_pure ⟨_, rfl, h _ _ _ rfl⟩))

theorem meets_join2 (b1 b2 : Array UInt8) (t1 t2 t : Tok) (l : Addr) (n : Nat) :
    Meets («bytes.join» ⟨[.bytes #[] t, .ref l], []⟩) (fun _ R s => s.heap.get? l = some (W.listOf #[.bytes b1 t1, .bytes b2 t2] n) ∧ b1.size + b2.size ≤ 1000 ∧ ∀ b' t' k, KBw.bInts b' = KBw.bInts b1 ++ KBw.bInts b2 → R (.ok (.ret (.bytes b' t'))) { s with toks := k }) := by
  refine .of_wp fun prog w A R s hS => ?_
  obtain ⟨hl, hsz, h⟩ := hS
  have hT : s.TypeIs (.ref l) "list" := ⟨_, hl, rfl⟩
  show wpAny _ _ (_ >>= fun p => _) _ _ s
  refine wpAny_bind (wpAny_pure ?_)
  show wpAny _ _ (Bytes.joinItems (.ref l) >>= fun p => _) _ _ s
  refine wpAny_bind (wpAny_bind (wpAny_typeOf hT (wpAny_pure ?_)))
  show wpAny _ _ (seqItems? (.ref l) >>= fun p => _) _ _ s
  refine wpAny_bind (wpAny_seqItems hl rfl ?_)
  show wpAny _ _ (forIn _ _ _ >>= fun p => _) _ _ s
  rw [Std.Legacy.Range.forIn_eq_forIn_range']
  generalize hr : List.range' _ _ _ = rg
  have hrg : rg = [0, 1] := by
    rw [← hr]
    simp [Std.Legacy.Range.size, List.range']
  subst hrg
  clear hr
  iterate 2 (
    rw [List.forIn_cons]
    refine wpAny_bind_assoc ?_
    refine wpAny_bind (wpAny_bind (wpAny_seqItems hl rfl ?_))
    show wpAny _ _ (holding _ (Bytes.takeBufferQuiet? _ (.bytes _ _) 0) >>= fun p => _) _ _ s
    refine wpAny_bind (wpAny_holding (wpAny_of_eq (take_eq _) ?_))
    show wpAny _ _ (seqItems? (.ref l) >>= fun p => _) _ _ s
    refine wpAny_bind (wpAny_seqItems hl rfl ?_)
    refine wpAny_pure ?_
    dsimp only)
  rw [List.forIn_nil]
  refine wpAny_bind (wpAny_pure ?_)
  show wpAny _ _ (Bytes.payload (.bytes #[] t) >>= fun p => _) _ _ s
  refine wpAny_bind (wpAny_pure ?_)
  refine wpAny_if_no (tooLong_not ?_) ?_
  · simp [Array.foldl, Bytes.tooLong] <;> omega
  show wpAny _ _ (mkBytes _ >>= fun p => _) _ _ s
  refine wpAny_bind (wpAny_mkBytes ?_ ?_)
  · refine wpAny_bind (wpAny_holding (wpAny_point ?_))
    refine wpAny_bind (joinLetGo_ok [.bytes b1 t1, .bytes b2 t2] ?_)
    exact wpAny_pure ⟨_, rfl, h _ _ _ (by simp [Bytes.joined, KBw.bInts, List.zipIdx])⟩
  · (rw [sizeLine_eq]; simp [Bytes.joined, List.zipIdx]; try omega)

theorem meets_join3 (b1 b2 b3 : Array UInt8) (t1 t2 t3 t : Tok) (l : Addr) (n : Nat) :
    Meets («bytes.join» ⟨[.bytes #[] t, .ref l], []⟩) (fun _ R s => s.heap.get? l = some (W.listOf #[.bytes b1 t1, .bytes b2 t2, .bytes b3 t3] n) ∧ b1.size + b2.size + b3.size ≤ 1000 ∧ ∀ b' t' k, KBw.bInts b' = KBw.bInts b1 ++ KBw.bInts b2 ++ KBw.bInts b3 → R (.ok (.ret (.bytes b' t'))) { s with toks := k }) := by
  refine .of_wp fun prog w A R s hS => ?_
  obtain ⟨hl, hsz, h⟩ := hS
  have hT : s.TypeIs (.ref l) "list" := ⟨_, hl, rfl⟩
  show wpAny _ _ (_ >>= fun p => _) _ _ s
  refine wpAny_bind (wpAny_pure ?_)
  show wpAny _ _ (Bytes.joinItems (.ref l) >>= fun p => _) _ _ s
  refine wpAny_bind (wpAny_bind (wpAny_typeOf hT (wpAny_pure ?_)))
  show wpAny _ _ (seqItems? (.ref l) >>= fun p => _) _ _ s
  refine wpAny_bind (wpAny_seqItems hl rfl ?_)
  show wpAny _ _ (forIn _ _ _ >>= fun p => _) _ _ s
  rw [Std.Legacy.Range.forIn_eq_forIn_range']
  generalize hr : List.range' _ _ _ = rg
  have hrg : rg = [0, 1, 2] := by
    rw [← hr]
    simp [Std.Legacy.Range.size, List.range']
  subst hrg
  clear hr
  iterate 3 (
    rw [List.forIn_cons]
    refine wpAny_bind_assoc ?_
    refine wpAny_bind (wpAny_bind (wpAny_seqItems hl rfl ?_))
    show wpAny _ _ (holding _ (Bytes.takeBufferQuiet? _ (.bytes _ _) 0) >>= fun p => _) _ _ s
    refine wpAny_bind (wpAny_holding (wpAny_of_eq (take_eq _) ?_))
    show wpAny _ _ (seqItems? (.ref l) >>= fun p => _) _ _ s
    refine wpAny_bind (wpAny_seqItems hl rfl ?_)
    refine wpAny_pure ?_
    dsimp only)
  rw [List.forIn_nil]
  refine wpAny_bind (wpAny_pure ?_)
  show wpAny _ _ (Bytes.payload (.bytes #[] t) >>= fun p => _) _ _ s
  refine wpAny_bind (wpAny_pure ?_)
  refine wpAny_if_no (tooLong_not ?_) ?_
  · simp [Array.foldl, Bytes.tooLong] <;> omega
  show wpAny _ _ (mkBytes _ >>= fun p => _) _ _ s
  refine wpAny_bind (wpAny_mkBytes ?_ ?_)
  · refine wpAny_bind (wpAny_holding (wpAny_point ?_))
    refine wpAny_bind (joinLetGo_ok [.bytes b1 t1, .bytes b2 t2, .bytes b3 t3] ?_)
    exact wpAny_pure ⟨_, rfl, h _ _ _ (by simp [Bytes.joined, KBw.bInts, List.zipIdx])⟩
  · (rw [sizeLine_eq]; simp [Bytes.joined, List.zipIdx]; try omega)

theorem meets_join4 (b1 b2 b3 b4 : Array UInt8) (t1 t2 t3 t4 t : Tok) (l : Addr) (n : Nat) :
    Meets («bytes.join» ⟨[.bytes #[] t, .ref l], []⟩) (fun _ R s => s.heap.get? l = some (W.listOf #[.bytes b1 t1, .bytes b2 t2, .bytes b3 t3, .bytes b4 t4] n) ∧ b1.size + b2.size + b3.size + b4.size ≤ 1000 ∧ ∀ b' t' k, KBw.bInts b' = KBw.bInts b1 ++ KBw.bInts b2 ++ KBw.bInts b3 ++ KBw.bInts b4 → R (.ok (.ret (.bytes b' t'))) { s with toks := k }) := by
  refine .of_wp fun prog w A R s hS => ?_
  obtain ⟨hl, hsz, h⟩ := hS
  have hT : s.TypeIs (.ref l) "list" := ⟨_, hl, rfl⟩
  show wpAny _ _ (_ >>= fun p => _) _ _ s
  refine wpAny_bind (wpAny_pure ?_)
  show wpAny _ _ (Bytes.joinItems (.ref l) >>= fun p => _) _ _ s
  refine wpAny_bind (wpAny_bind (wpAny_typeOf hT (wpAny_pure ?_)))
  show wpAny _ _ (seqItems? (.ref l) >>= fun p => _) _ _ s
  refine wpAny_bind (wpAny_seqItems hl rfl ?_)
  show wpAny _ _ (forIn _ _ _ >>= fun p => _) _ _ s
  rw [Std.Legacy.Range.forIn_eq_forIn_range']
  generalize hr : List.range' _ _ _ = rg
  have hrg : rg = [0, 1, 2, 3] := by
    rw [← hr]
    simp [Std.Legacy.Range.size, List.range']
  subst hrg
  clear hr
  iterate 4 (
    rw [List.forIn_cons]
    refine wpAny_bind_assoc ?_
    refine wpAny_bind (wpAny_bind (wpAny_seqItems hl rfl ?_))
    show wpAny _ _ (holding _ (Bytes.takeBufferQuiet? _ (.bytes _ _) 0) >>= fun p => _) _ _ s
    refine wpAny_bind (wpAny_holding (wpAny_of_eq (take_eq _) ?_))
    show wpAny _ _ (seqItems? (.ref l) >>= fun p => _) _ _ s
    refine wpAny_bind (wpAny_seqItems hl rfl ?_)
    refine wpAny_pure ?_
    dsimp only)
  rw [List.forIn_nil]
  refine wpAny_bind (wpAny_pure ?_)
  show wpAny _ _ (Bytes.payload (.bytes #[] t) >>= fun p => _) _ _ s
  refine wpAny_bind (wpAny_pure ?_)
  refine wpAny_if_no (tooLong_not ?_) ?_
  · simp [Array.foldl, Bytes.tooLong] <;> omega
  show wpAny _ _ (mkBytes _ >>= fun p => _) _ _ s
  refine wpAny_bind (wpAny_mkBytes ?_ ?_)
  · refine wpAny_bind (wpAny_holding (wpAny_point ?_))
    refine wpAny_bind (joinLetGo_ok [.bytes b1 t1, .bytes b2 t2, .bytes b3 t3, .bytes b4 t4] ?_)
    exact wpAny_pure ⟨_, rfl, h _ _ _ (by simp [Bytes.joined, KBw.bInts, List.zipIdx])⟩
  · (rw [sizeLine_eq]; simp [Bytes.joined, List.zipIdx]; try omega)

end Mine

/-! J4 -/
namespace Mine
theorem bInts_inj {b c : Array UInt8} (h : KBw.bInts b = KBw.bInts c) : b = c := by
  obtain ⟨l⟩ := b
  obtain ⟨r⟩ := c
  have h' : l.map (fun c : UInt8 => ((c.toNat : Nat) : Int)) = r.map (fun c : UInt8 => ((c.toNat : Nat) : Int)) := h
  have : l = r := by
    refine (List.map_inj_right fun x y e => ?_).mp h'
    exact UInt8.toNat_inj.mp (Int.ofNat.inj e)
  rw [this]
section
variable {prog : Program} {w : World} {A : Around} {E : Value → Shared → Prop} {s : Shared} {Q : Value → Shared → Prop} {t : Tok}
/-- b''.join of a list of up to four bytes -/
theorem join_four {l : Addr} {vs : List Value} {n : Nat} {cs : List (List Int)} (hl : s.heap.get? l = some (W.listOf vs.toArray n)) (hc : ChunksAre vs cs) (h4 : cs.length ≤ 4) (hz : lens cs ≤ 1000)
    (h : ∀ b' t' k, KBw.bInts b' = cs.flatten → Q (.bytes b' t') { s with toks := k }) : wpAny (model prog w) A (call (.builtin "bytes.join") [.bytes #[] t, .ref l]) Q E s := by
  have sz : ∀ b : Array UInt8, b.size = (KBw.bInts b).length := fun b => (KBw.ints_length b).symm
  match vs, cs, hc with
  | [], [], _ =>
    exact call_meets slot_bytes_join (typeIs_bytes _ _ _) entry_bytes_join (args_bytes_join _ _) (meets_join0 t l n) ⟨hl, by omega, fun b' t' k e => h b' t' k (by rw [e]; rfl)⟩
  | [_], [_], ⟨⟨b1, t1, rfl, e1⟩, _⟩ =>
    refine call_meets slot_bytes_join (typeIs_bytes _ _ _) entry_bytes_join (args_bytes_join _ _) (meets_join1 b1 t1 t l n) ⟨hl, ?_, fun b' t' k e => h b' t' k (by rw [e, e1]; simp)⟩
    simp [lens] at hz
    rw [sz, e1]
    omega
  | [_, _], [_, _], ⟨⟨b1, t1, rfl, e1⟩, ⟨b2, t2, rfl, e2⟩, _⟩ =>
    refine call_meets slot_bytes_join (typeIs_bytes _ _ _) entry_bytes_join (args_bytes_join _ _) (meets_join2 b1 b2 t1 t2 t l n) ⟨hl, ?_, fun b' t' k e => h b' t' k (by rw [e, e1, e2]; simp)⟩
    simp [lens] at hz
    rw [sz, sz, e1, e2]
    omega
  | [_, _, _], [_, _, _], ⟨⟨b1, t1, rfl, e1⟩, ⟨b2, t2, rfl, e2⟩, ⟨b3, t3, rfl, e3⟩, _⟩ =>
    refine call_meets slot_bytes_join (typeIs_bytes _ _ _) entry_bytes_join (args_bytes_join _ _) (meets_join3 b1 b2 b3 t1 t2 t3 t l n) ⟨hl, ?_, fun b' t' k e => h b' t' k (by rw [e, e1, e2, e3]; simp)⟩
    simp [lens] at hz
    rw [sz, sz, sz, e1, e2, e3]
    omega
  | [_, _, _, _], [_, _, _, _], ⟨⟨b1, t1, rfl, e1⟩, ⟨b2, t2, rfl, e2⟩, ⟨b3, t3, rfl, e3⟩, ⟨b4, t4, rfl, e4⟩, _⟩ =>
    refine call_meets slot_bytes_join (typeIs_bytes _ _ _) entry_bytes_join (args_bytes_join _ _) (meets_join4 b1 b2 b3 b4 t1 t2 t3 t4 t l n) ⟨hl, ?_, fun b' t' k e => h b' t' k (by rw [e, e1, e2, e3, e4]; simp)⟩
    simp [lens] at hz
    rw [sz, sz, sz, sz, e1, e2, e3, e4]
    omega
  | _ :: _ :: _ :: _ :: _ :: _, _ :: _ :: _ :: _ :: _ :: _, _ => simp at h4
end

/-! ## cuts of the law's walk -/
def IntP (g : Heap) (L : Addr) (m : Str → Option Value) (news : List (Addr × Obj)) (x : Str) (P : Int → Prop) (s : Shared) (f : Flow) (s' : Shared) : Prop :=
  f = .next ∧ ∃ h' tk' v tv, s' = { s with heap := h', toks := tk' } ∧ P v ∧ Fr g L h' (fun y => if y = x then some (.int v tv) else m y) ∧ News g L h' news
section
variable {g : Heap} {L : Addr} {m : Str → Option Value} {news : List (Addr × Obj)} {x : Str} {P : Int → Prop} {s : Shared}
theorem IntP.intro {h' : Heap} {tk' : Nat} {v : Int} {tv : Tok} (F : Fr g L h' (fun y => if y = x then some (.int v tv) else m y)) (N : News g L h' news) (p : P v) : IntP g L m news x P s .next { s with heap := h', toks := tk' } :=
  ⟨rfl, h', tk', v, tv, rfl, p, F, N⟩
theorem IntP.same {h' : Heap} {tk' : Nat} {v : Int} {tv : Tok} (F : Fr g L h' m) (N : News g L h' news) (hv : m x = some (.int v tv)) (p : P v) : IntP g L m news x P s .next { s with heap := h', toks := tk' } :=
  ⟨rfl, h', tk', v, tv, rfl, p, fr_same F (fun y => (by
    by_cases e : y = x
    · rw [if_pos e, e, hv]
    · rw [if_neg e] : (if y = x then some (Value.int v tv) else m y) = m y)), N⟩
theorem int_cut {M : Model} {A : Around} {E : Value → Shared → Prop} {t : Sem Flow} {Q : Flow → Shared → Prop} (x : Str) (P : Int → Prop) (_F1 : Fr g L s.heap m) (_N1 : News g L s.heap news)
    (h1 : wpAny M A t (IntP g L m news x P s) E s)
    (h2 : ∀ h' tk' v tv, P v → Fr g L h' (fun y => if y = x then some (.int v tv) else m y) → News g L h' news → Q .next { s with heap := h', toks := tk' }) : wpAny M A t Q E s :=
  wpAny_mono h1 (fun f s' ⟨e, h', tk', v, tv, es, p, F, N⟩ => by
    subst e es
    exact h2 h' tk' v tv p F N) fun _ _ x => x
end
/-- the length told: right, or as it is behind an earlier deed -/
structure ToldV (ds : List Deed) (v : Int) : Prop where
  lo : 0 ≤ v
  hi : v ≤ 160
  is : v ≠ total ds → ∃ j, j + 2 ≤ ds.length ∧ v = total (ds.take j)
theorem told_whole {ds : List Deed} (hok : ∀ d ∈ ds, d.ok) (h4 : ds.length ≤ 4) {v : Int} (hv : v = ((txt ds).length : Int)) : ToldV ds v := by
  have e := txt_length hok
  have h1 := total_nonneg hok
  have h2 := total_le hok
  exact ⟨by omega, by omega, fun h => absurd (hv.trans e) h⟩
theorem told_item {ds : List Deed} {marks : List Int} (hm : marks = marksOf ds) (hok : ∀ d ∈ ds, d.ok) (h4 : ds.length ≤ 4) {k : Int} (h0 : 0 ≤ k) (h1 : k < (marks.length : Int) - 2) : ToldV ds (marks.getD k.toNat 0) := by
  subst hm
  rw [marksOf_length] at h1
  have hj : k.toNat ≤ ds.length := by omega
  have e : (marksOf ds).getD k.toNat 0 = total (ds.take k.toNat) := by
    rw [List.getD_eq_getElem?_getD, marksOf_get hj]
    rfl
  rw [e]
  have hok' : ∀ d ∈ ds.take k.toNat, d.ok := fun d hd => hok d (List.mem_of_mem_take hd)
  have h5 := total_nonneg hok'
  have h6 := total_le hok'
  rw [List.length_take] at h6
  exact ⟨h5, by omega, fun _ => ⟨k.toNat, by omega, rfl⟩⟩
theorem total_take_lt {ds : List Deed} (hok : ∀ d ∈ ds, d.ok) {j : Nat} (hj : j + 2 ≤ ds.length) : total (ds.take j) < total ds := by
  induction ds generalizing j with
  | nil => simp at hj
  | cons d r ih =>
    have hd := (hok d (.head _)).pos
    have hr := total_nonneg (ds := r) fun e he => hok e (.tail _ he)
    cases j with
    | zero => show (0 : Int) < d.len + total r; omega
    | succ j =>
      have := ih (fun e he => hok e (.tail _ he)) (j := j) (by simp at hj; omega)
      show d.len + total (r.take j) < d.len + total r
      omega
theorem head_small {v : Int} {ds : List Deed} (h0 : 0 ≤ v) (h1 : ¬ 127 < v) : (Small v ∧ [40, v] ++ encs ds = 40 :: v :: encs ds) ∨ (Big v ∧ [40, v] ++ encs ds = 40 :: v :: 1 :: encs ds) := .inl ⟨⟨h0, by omega⟩, rfl⟩
theorem head_big {v : Int} {ds : List Deed} (h0 : v ≤ 160) (h1 : 127 < v) : (Small v ∧ [40, v.fmod 128 + 128, 1] ++ encs ds = 40 :: v :: encs ds) ∨ (Big v ∧ [40, v.fmod 128 + 128, 1] ++ encs ds = 40 :: v :: 1 :: encs ds) := by
  have e : v.fmod 128 + 128 = v := by
    rw [Int.fmod_eq_emod_of_nonneg v (by decide)]
    omega
  rw [e]
  exact .inr ⟨⟨by omega, by omega⟩, rfl⟩
end Mine

/-! S1 -/
namespace Mine
theorem u8 {x : Int} (h0 : 0 ≤ x) (h1 : x < 256) : ((x.toNat.toUInt8.toNat : Nat) : Int) = x := by
  have h : (x.toNat.toUInt8).toNat = x.toNat := by
    show (UInt8.ofNat x.toNat).toNat = x.toNat
    rw [UInt8.toNat_ofNat']
    omega
  rw [h]
  omega
theorem cut_dec {kb : List Int} {st sz : Int} (h0 : 0 ≤ st) : (kb.drop st.toNat).take ((st + sz).toNat - st.toNat) = (kb.drop st.toNat).take sz.toNat := by
  have e : (st + sz).toNat - st.toNat = sz.toNat := by omega
  rw [e]
section
variable {pre : List Int} {n : Int} {body text b' : Array UInt8} {marks : List Int} {z : Int}
theorem deed_copy (hlt : n.fmod 3 < 2) : deedOf n = .copy ((n.fdiv 3).fmod 40) (((n.fdiv 3).fdiv 40).fmod (40 - (n.fdiv 3).fmod 40) + 1) := if_pos hlt
theorem deed_put (hlt : ¬ n.fmod 3 < 2) : deedOf n = .put (putL (n.fdiv 3)) := if_neg hlt
theorem st_facts (n : Int) : 0 ≤ (n.fdiv 3).fmod 40 ∧ (n.fdiv 3).fmod 40 < 40 ∧ 1 ≤ ((n.fdiv 3).fdiv 40).fmod (40 - (n.fdiv 3).fmod 40) + 1 ∧ (n.fdiv 3).fmod 40 + (((n.fdiv 3).fdiv 40).fmod (40 - (n.fdiv 3).fmod 40) + 1) ≤ 40 := by
  have h1 := Int.fmod_nonneg_of_pos (n.fdiv 3) (show (0 : Int) < 40 by decide)
  have h2 := Int.fmod_lt_of_pos (n.fdiv 3) (show (0 : Int) < 40 by decide)
  have h0 : 0 < 40 - (n.fdiv 3).fmod 40 := by omega
  have h3 := Int.fmod_nonneg_of_pos ((n.fdiv 3).fdiv 40) h0
  have h4 := Int.fmod_lt_of_pos ((n.fdiv 3).fdiv 40) h0
  omega
abbrev cutOf (n : Int) : List Int := List.take (((n.fdiv 3).fmod 40 + (((n.fdiv 3).fdiv 40).fmod (40 - (n.fdiv 3).fmod 40) + 1)).toNat - ((n.fdiv 3).fmod 40).toNat) (List.drop ((n.fdiv 3).fmod 40).toNat baseL)
theorem cutOf_eq (hlt : n.fmod 3 < 2) : cutOf n = (deedOf n).dec baseL := by
  obtain ⟨h1, h2, h3, h4⟩ := st_facts n
  rw [deed_copy hlt]
  exact cut_dec h1
theorem st_copy1 (a1 : KBw.bInts body = encs (deedsOf pre)) (a2 : KBw.bInts text = txt (deedsOf pre)) (a3 : marks = marksOf (deedsOf pre)) (hlt : n.fmod 3 < 2) (hpos : 0 < (n.fdiv 3).fmod 40)
    (hb : KBw.bInts b' = cutOf n) (hz : z = (((txt (deedsOf pre)).length + (cutOf n).length : Nat) : Int)) :
    Built (pre ++ [n]) (body ++ #[(128 + 1 + 16 : Int).toNat.toUInt8, ((n.fdiv 3).fmod 40).toNat.toUInt8, (((n.fdiv 3).fdiv 40).fmod (40 - (n.fdiv 3).fmod 40) + 1).toNat.toUInt8]) (text ++ b') (marks ++ [z]) := by
  obtain ⟨h1, h2, h3, h4⟩ := st_facts n
  refine Built.snoc (Built.of a1 a2 a3) (KBw.ints_app a1 rfl) (KBw.ints_app a2 hb) ?_ (cutOf_eq hlt) (by rw [hz]; omega)
  rw [deed_copy hlt]
  show [_, _, _] = (if (n.fdiv 3).fmod 40 = 0 then _ else _)
  rw [if_neg (by omega)]
  have e1 := u8 h1 (by omega : (n.fdiv 3).fmod 40 < 256)
  have e2 := u8 (by omega : 0 ≤ ((n.fdiv 3).fdiv 40).fmod (40 - (n.fdiv 3).fmod 40) + 1) (by omega)
  dsimp only
  rw [e1, e2]
  rfl
theorem st_copy0 (a1 : KBw.bInts body = encs (deedsOf pre)) (a2 : KBw.bInts text = txt (deedsOf pre)) (a3 : marks = marksOf (deedsOf pre)) (hlt : n.fmod 3 < 2) (hpos : ¬ 0 < (n.fdiv 3).fmod 40)
    (hb : KBw.bInts b' = cutOf n) (hz : z = (((txt (deedsOf pre)).length + (cutOf n).length : Nat) : Int)) :
    Built (pre ++ [n]) (body ++ #[(128 + 16 : Int).toNat.toUInt8, (((n.fdiv 3).fdiv 40).fmod (40 - (n.fdiv 3).fmod 40) + 1).toNat.toUInt8]) (text ++ b') (marks ++ [z]) := by
  obtain ⟨h1, h2, h3, h4⟩ := st_facts n
  refine Built.snoc (Built.of a1 a2 a3) (KBw.ints_app a1 rfl) (KBw.ints_app a2 hb) ?_ (cutOf_eq hlt) (by rw [hz]; omega)
  rw [deed_copy hlt]
  show [_, _] = (if (n.fdiv 3).fmod 40 = 0 then _ else _)
  rw [if_pos (by omega)]
  have e2 := u8 (by omega : 0 ≤ ((n.fdiv 3).fdiv 40).fmod (40 - (n.fdiv 3).fmod 40) + 1) (by omega)
  dsimp only
  rw [e2]
  rfl
abbrev rawPut (q : Int) : List UInt8 := [((q.fdiv 9).fmod 256).toNat.toUInt8, (Int.toNat 0).toUInt8, (Int.toNat 200).toUInt8, (Int.toNat 128).toUInt8, (Int.toNat 7).toUInt8, (Int.toNat 7).toUInt8, (Int.toNat 9).toUInt8, (Int.toNat 1).toUInt8, (Int.toNat 2).toUInt8]
theorem rawPut_eq (q : Int) : List.map (fun c : UInt8 => ((c.toNat : Nat) : Int)) (rawPut q) = [(q.fdiv 9).fmod 256, 0, 200, 128, 7, 7, 9, 1, 2] := by
  have e := u8 (Int.fmod_nonneg_of_pos (q.fdiv 9) (show (0 : Int) < 256 by decide)) (Int.fmod_lt_of_pos (q.fdiv 9) (show (0 : Int) < 256 by decide))
  simp only [List.map_cons, List.map_nil]
  rw [e]
  rfl
theorem putL_length (q : Int) : ((putL q).length : Int) = 1 + q.fmod 9 := by
  have h5 := Int.fmod_nonneg_of_pos q (show (0 : Int) < 9 by decide)
  have h6 := Int.fmod_lt_of_pos q (show (0 : Int) < 9 by decide)
  unfold putL
  rw [List.length_take]
  simp only [List.length_cons, List.length_nil]
  omega
theorem st_put (a1 : KBw.bInts body = encs (deedsOf pre)) (a2 : KBw.bInts text = txt (deedsOf pre)) (a3 : marks = marksOf (deedsOf pre)) (hlt : ¬ n.fmod 3 < 2)
    (hb : KBw.bInts b' = List.take (1 + (n.fdiv 3).fmod 9).toNat (List.map (fun c : UInt8 => ((c.toNat : Nat) : Int)) (rawPut (n.fdiv 3)))) (hz : z = (((txt (deedsOf pre)).length + min (1 + (n.fdiv 3).fmod 9).toNat (rawPut (n.fdiv 3)).length : Nat) : Int)) :
    Built (pre ++ [n]) (body ++ #[(((min (1 + (n.fdiv 3).fmod 9).toNat (rawPut (n.fdiv 3)).length : Nat) : Int)).toNat.toUInt8] ++ b') (text ++ b') (marks ++ [z]) := by
  have h5 := Int.fmod_nonneg_of_pos (n.fdiv 3) (show (0 : Int) < 9 by decide)
  have h6 := Int.fmod_lt_of_pos (n.fdiv 3) (show (0 : Int) < 9 by decide)
  have hb2 : KBw.bInts b' = putL (n.fdiv 3) := by rw [hb, rawPut_eq]; rfl
  have hl : (rawPut (n.fdiv 3)).length = 9 := rfl
  have hpl := putL_length (n.fdiv 3)
  have hk : ((min (1 + (n.fdiv 3).fmod 9).toNat (rawPut (n.fdiv 3)).length : Nat) : Int) = 1 + (n.fdiv 3).fmod 9 := by rw [hl]; omega
  have hs := Built.snoc (Built.of a1 a2 a3) (n := n) (body' := body ++ #[(((min (1 + (n.fdiv 3).fmod 9).toNat (rawPut (n.fdiv 3)).length : Nat) : Int)).toNat.toUInt8] ++ b') (e := (deedOf n).enc) (c := putL (n.fdiv 3)) (z := z) (text' := text ++ b') ?_ (KBw.ints_app a2 hb2) rfl ?_ ?_
  · exact hs
  · rw [KBw.ints_app (KBw.ints_app a1 rfl) hb2, List.append_assoc]
    congr 1
    rw [deed_put hlt, hk]
    show [((1 + (n.fdiv 3).fmod 9).toNat.toUInt8.toNat : Int)] ++ putL (n.fdiv 3) = ((putL (n.fdiv 3)).length : Int) :: putL (n.fdiv 3)
    rw [u8 (by omega) (by omega), hpl]
    rfl
  · rw [deed_put hlt]
    rfl
  · rw [hz]
    omega
end
end Mine

/-! S2 -/
namespace Mine
theorem told_cut {M : Model} {A : Around} {E : Value → Shared → Prop} {s : Shared} {t : Sem Flow} {Q : Flow → Shared → Prop} {g : Heap} {L : Addr} {m : Str → Option Value} {news : List (Addr × Obj)} {pre : List Int} {text : Array UInt8}
    (_ht : KBw.bInts text = txt (deedsOf pre)) (hl : pre.length ≤ 4) (F1 : Fr g L s.heap m) (N1 : News g L s.heap news)
    (h1 : (deedsOf pre).length ≤ 4 → wpAny M A t (IntP g L m news (Str.ofString "told") (ToldV (deedsOf pre)) s) E s)
    (h2 : (deedsOf pre).length ≤ 4 → (encs (deedsOf pre)).length ≤ 40 → ((txt (deedsOf pre)).length : Int) = total (deedsOf pre) → (txt (deedsOf pre)).length ≤ 160 → ∀ h' tk' v tv, ToldV (deedsOf pre) v → 0 ≤ v → v ≤ 160 →
      Fr g L h' (fun y => if y = Str.ofString "told" then some (.int v tv) else m y) → News g L h' news → Q .next { s with heap := h', toks := tk' }) : wpAny M A t Q E s := by
  have h4 : (deedsOf pre).length ≤ 4 := by
    have : (deedsOf pre).length = pre.length := List.length_map ..
    omega
  have he := encs_le (deedsOf_ok pre)
  have ht := txt_length (deedsOf_ok pre)
  have hv := total_le (deedsOf_ok pre)
  exact int_cut _ _ F1 N1 (h1 h4) fun h' tk' v tv p F N => h2 h4 (by omega) ht (by omega) h' tk' v tv p p.lo p.hi F N
theorem head_s {v : Int} {ds : List Deed} (h0 : 0 ≤ v) (h1 : ¬ 127 < v) :
    (Small v ∧ List.map (fun c : UInt8 => ((c.toNat : Nat) : Int)) [(Int.toNat 40).toUInt8, v.toNat.toUInt8] ++ encs ds = 40 :: v :: encs ds) ∨ (Big v ∧ List.map (fun c : UInt8 => ((c.toNat : Nat) : Int)) [(Int.toNat 40).toUInt8, v.toNat.toUInt8] ++ encs ds = 40 :: v :: 1 :: encs ds) := by
  refine .inl ⟨⟨h0, by omega⟩, ?_⟩
  have e := u8 h0 (by omega : v < 256)
  simp only [List.map_cons, List.map_nil]
  rw [e]
  rfl
theorem head_b {v : Int} {ds : List Deed} (h0 : v ≤ 160) (h1 : 127 < v) :
    (Small v ∧ List.map (fun c : UInt8 => ((c.toNat : Nat) : Int)) [(Int.toNat 40).toUInt8, (v.fmod 128 + 128).toNat.toUInt8, (Int.toNat 1).toUInt8] ++ encs ds = 40 :: v :: encs ds) ∨
    (Big v ∧ List.map (fun c : UInt8 => ((c.toNat : Nat) : Int)) [(Int.toNat 40).toUInt8, (v.fmod 128 + 128).toNat.toUInt8, (Int.toNat 1).toUInt8] ++ encs ds = 40 :: v :: 1 :: encs ds) := by
  refine .inr ⟨⟨by omega, by omega⟩, ?_⟩
  have e : v.fmod 128 + 128 = v := by
    rw [Int.fmod_eq_emod_of_nonneg v (by decide)]
    omega
  rw [e]
  have e := u8 (by omega : 0 ≤ v) (by omega : v < 256)
  simp only [List.map_cons, List.map_nil]
  rw [e]
  rfl
theorem kd_of {base h₀ : Heap} (_B : Below callerA base [] h₀) : KtsDicts (([] : List Env).filterMap (·.frame)) h₀ := ktsDicts_nil
theorem lens_dec {ds : List Deed} (hok : ∀ d ∈ ds, d.ok) : lens (ds.map (Deed.dec baseL)) = total ds := (total_lens baseL_length hok).symm
theorem flat_dec (ds : List Deed) : (ds.map (Deed.dec baseL)).flatten = txt ds := by simp [txt, List.flatMap]
theorem whole_eq {b' text : Array UInt8} {pre : List Int} (h1 : KBw.bInts b' = ((deedsOf pre).map (Deed.dec baseL)).flatten) (h2 : KBw.bInts text = txt (deedsOf pre)) : b' = text :=
  bInts_inj (by rw [h1, h2, flat_dec])
end Mine

/-! S3 -/
namespace Mine
theorem good_true {c : ClaimW} {cl : Str → Option Addr} {mean : ExcName → Option Value} {args : List WData} {s₁ s' : Shared} {b : Bool} (hb : b = true) (h : GoodW c cl mean args s₁ (.ok (.ret (.bool true))) s') :
    GoodW c cl mean args s₁ (.ok (.ret (.bool b))) s' := by
  subst hb
  exact h
theorem fr_turn {g g' h : Heap} {L : Addr} {m : Str → Option Value} (T : KtsTurn (([] : List Env).filterMap (·.frame)) g g') (F : Fr g' L h m) : Fr g L h m :=
  ⟨F.ns, fun b o e => F.keep b o (T.other b o e (fun hm => nomatch hm)), by rw [← T.size]; exact F.above⟩
end Mine

namespace Mine
section
variable {prog : Program} {w : World} {A : Around} {E : Value → Shared → Prop} {s : Shared} {Q : Value → Shared → Prop} {t u : Tok} {a b : Int}
theorem mod_pos (hb : 0 < b) (h : 0 ≤ a.fmod b → a.fmod b < b → Q (.int (a.fmod b) s.toks) { s with toks := s.toks + 1 }) : wpAny (model prog w) A (binaryOp .Mod (.int a t) (.int b u)) Q E s :=
  mod_int' (by omega) (h (Int.fmod_nonneg_of_pos a hb) (Int.fmod_lt_of_pos a hb))
theorem cut_to {value slice : PySem.Expr} {b : Array UInt8} {l u : Value} {j : Int} {ks : List Int} {h₀ : Heap} {L : Addr} {m : Str → Option Value} {news : List (Addr × Obj)}
    (hF : Fr h₀ L s.heap m) (hN : News h₀ L s.heap news) (hk : KBw.bInts b = ks) (hl : IsPart l none) (hu : IsPart u (some j)) (hz : ks.length ≤ 16777216) (h0 : 0 ≤ j) (hj : j ≤ ks.length)
    (h : ∀ b' h' t' k, Fr h₀ L h' m → News h₀ L h' news → KBw.bInts b' = ks.take j.toNat → Q (.bytes b' t') { s with heap := h', toks := k })
    (hs : subscripted slice false (.bytes b t) (.ref s.heap.objs.size) = operate [.ref s.heap.objs.size, .bytes b t] (getItem (.bytes b t) (.ref s.heap.objs.size)) := by with_unfolding_all rfl)
    (ht : ∀ r, letTemporaryGo value (.bytes b t) r = pure () := by intro _; with_unfolding_all rfl) :
    wpAny (model prog w) A (subscriptTail value slice (.bytes b t) (.ref s.heap.objs.size)) Q E { s with heap := s.heap.push { cls := .type "slice", data := .fields #[l, u, .none] } } := by
  refine KBc.slice_K hF hN hk hl hu hz (fun h' t' k F' N' e => h _ h' t' k F' N' ?_) hs ht
  rw [e]
  obtain ⟨j, rfl⟩ : ∃ n : Nat, j = (n : Int) := ⟨j.toNat, by omega⟩
  simp only [Option.elim, clipAt_nat, Int.toNat_natCast, List.drop_zero, Nat.sub_zero]
  have e2 : min j ks.length = j := by omega
  rw [e2]
end
theorem built_nil : KBw.bInts #[] = encs (deedsOf []) ∧ KBw.bInts #[] = txt (deedsOf []) ∧ [(0 : Int)] = marksOf (deedsOf []) ∧ (encs (deedsOf [])).length ≤ 10 * ([] : List Int).length ∧ (txt (deedsOf [])).length ≤ 40 * ([] : List Int).length ∧ [(0 : Int)].length = ([] : List Int).length + 1 := Built.of rfl rfl rfl
end Mine
local macro_rules | `(tactic| walk_at "binaryOp Mod int int") => `(tactic| (k_here; (with_reducible rename KstMark => kM9); refine mod_pos (by omega) ?_; intro hm1' hm2'))
local macro_rules | `(tactic| walk_at "ite") => `(tactic| (first | refine dec_no (by omega) ?_ | refine dec_yes (by omega) ?_))
local macro_rules | `(tactic| walk_at "exec If") => `(tactic| (k_here; refine wpAny_If ?_))
local macro_rules | `(tactic| walk_at "subscriptTail Name Slice bytes ref") => `(tactic| (k_here; (with_reducible rename KstMark => kM9); (with_reducible rename Fr _ _ _ _ => F'); (with_reducible rename News _ _ _ _ => N'); (first
  | refine cut_at (s := ⟨_, _, _, _, _⟩) F' N' (by kba_ints2) (by constructor) (by constructor) (by kba_size) (by omega) (by omega) rfl (by (simp only [List.length_map, rangeKs_length]; omega)) ?_
  | refine cut_to (s := ⟨_, _, _, _, _⟩) F' N' (by kba_ints2) (by constructor) (by constructor) (by kba_size) (by omega) (by (simp only [List.length_cons, List.length_nil, List.length_map]; omega)) ?_); intro _ _ _ _ F' N' hb9'))
local macro_rules | `(tactic| walk_at "InvEndN") => `(tactic| (k_dflt kst_close))
local macro_rules | `(tactic| walk_at "getMethod bytes") => `(tactic| (k_here; (with_reducible refine method_join ?_)))


set_option maxRecDepth 100000 in
set_option maxHeartbeats 0 in
theorem PySem.Challenge.cw_ll0016_01_holds : PySem.Challenge.rw_ll0016_01.Holds := by
  refine Mine.hd ?_
  k_with "pyIter ref" => k_state (fun pre body text marks => KBw.bInts body = encs (deedsOf pre) ∧ KBw.bInts text = txt (deedsOf pre) ∧ marks = marksOf (deedsOf pre) ∧ (encs (deedsOf pre)).length ≤ 10 * pre.length ∧ (txt (deedsOf pre)).length ≤ 40 * pre.length ∧ marks.length = pre.length + 1) "body" "text" "marks"
  k_with "state" => first
    | exact built_nil
    | exact st_copy1 (by assumption) (by assumption) (by assumption) (by assumption) (by assumption) (by assumption) (by first | rfl | (simp only [List.length_take, List.length_drop, List.length_map, List.length_cons, List.length_nil, rangeKs_length]; done) | (simp only [cutOf, baseL, List.length_take, List.length_drop, List.length_map, List.length_cons, List.length_nil, rangeKs_length]; done))
    | exact st_copy0 (by assumption) (by assumption) (by assumption) (by assumption) (by assumption) (by assumption) (by first | rfl | (simp only [List.length_take, List.length_drop, List.length_map, List.length_cons, List.length_nil, rangeKs_length]; done) | (simp only [cutOf, baseL, List.length_take, List.length_drop, List.length_map, List.length_cons, List.length_nil, rangeKs_length]; done))
    | exact st_put (by assumption) (by assumption) (by assumption) (by assumption) (by assumption) rfl
  k_go0
  all_goals try k_fold
  (repeat' ((fail_if_success (with_reducible show wpAny _ _ (exec (Stmt.Assign _ _ _) _) _ _ _)); (first | (k_unfold; (try dsimp only)) | (k_end; kc_close) | walk1 | (dsimp only; walk1) | (leave1; walk_say "STEP leave1"; (try dsimp only)) | fail "no step")))
  (rename Fr _ _ _ _ => F1); (rename News _ _ _ _ => N1)
  refine int_cut (Str.ofString "mix") (fun _ => True) F1 N1 ?mix ?rest
  case mix =>
    (repeat' ((fail_if_success (with_reducible show IntP _ _ _ _ _ _ _ _ _)); (first | (k_unfold; (try dsimp only)) | (k_end; kc_close) | walk1 | (dsimp only; walk1) | (leave1; walk_say "STEP leave1"; (try dsimp only)) | fail "no step")))
    all_goals ((rename Fr _ _ _ _ => F9); (rename News _ _ _ _ => N9); exact IntP.intro F9 N9 trivial)
  case rest =>
    intro h1 tk1 mixv tmix _ F1 N1
    (repeat' ((fail_if_success (with_reducible show wpAny _ _ (pyIter (Value.ref _)) _ _ _)); (first | (k_unfold; (try dsimp only)) | (k_end; kc_close) | walk1 | (dsimp only; walk1) | (leave1; walk_say "STEP leave1"; (try dsimp only)) | fail "no step")))
    iterate 1 (first | (k_unfold; (try dsimp only)) | (k_end; kc_close) | walk1 | (dsimp only; walk1) | (leave1; walk_say "STEP leave1"; (try dsimp only)) | fail "no step")
    · (repeat' (first | (k_unfold; (try dsimp only)) | (k_end; kc_close) | walk1 | (dsimp only; walk1) | (leave1; walk_say "STEP leave1"; (try dsimp only)) | fail "no step"))
    · (repeat' ((fail_if_success (with_reducible show wpAny _ _ (exec (Stmt.If (PySem.Expr.BoolOp _ _ _) _ _ _) _) _ _ _)); (first | (k_unfold; (try dsimp only)) | (k_end; kc_close) | walk1 | (dsimp only; walk1) | (leave1; walk_say "STEP leave1"; (try dsimp only)) | fail "no step")))
      (rename Fr _ _ _ _ => F2); (rename News _ _ _ _ => N2)
      (rename KBw.bInts _ = txt (deedsOf _) => htxt)
      refine' told_cut htxt ?hl F2 N2 ?told ?rest2
      case hl => exact Nat.le_trans (List.length_take_le _ _) (by omega)
      case told =>
        intro hl4
        (repeat' ((fail_if_success (with_reducible show IntP _ _ _ _ _ _ _ _ _)); (first | (k_unfold; (try dsimp only)) | (k_end; kc_close) | walk1 | (dsimp only; walk1) | (leave1; walk_say "STEP leave1"; (try dsimp only)) | fail "no step")))
        all_goals ((rename Fr _ _ _ _ => F9); (rename News _ _ _ _ => N9); first
          | exact IntP.intro F9 N9 (told_item (by assumption) (deedsOf_ok _) hl4 (by omega) (by omega))
          | exact IntP.same F9 N9 rfl (told_whole (deedsOf_ok _) hl4 rfl))
      case rest2 =>
        intro hl4 hen htl htx h3 tk3 v tv hv hv0 hv1 F3 N3
        (repeat' ((fail_if_success (with_reducible show wpAny _ _ (call (Value.ref _) _) _ _ _)); (first | (k_unfold; (try dsimp only)) | (k_end; kc_close) | walk1 | (dsimp only; walk1) | (leave1; walk_say "STEP leave1"; (try dsimp only)) | fail "no step")))
        all_goals (
          (rename News _ _ _ _ => N9)
          refine' ad_contract _ _ _ _ _ _ _ _ _ _ baseL _ _ v ?hb baseL_length ?hkd ?hdz ?hhead hl4 (deedsOf_ok _) hv.is _ _ _ _ _ _ _ _ _ _ _ ?B ?F ?X ?CH ?N ?T rfl ?hQ ?hE
          case hb => exact KBa.ints_make (by assumption)
          case hkd => assumption
          case B => assumption
          case F => assumption
          case X => assumption
          case CH => exact codeHd
          case N => intro p hp; rw [List.mem_singleton.mp hp]; exact N9 _ (by k_mem)
          case T => assumption
          case hdz => (simp only [List.length_append, List.length_map, List.length_cons, List.length_nil]; omega)
          case hhead => first | exact head_s hv0 (by assumption) | exact head_b hv1 (by assumption)
          case hQ =>
            intro hg l5 h5 tk5 vs5 n5 ps5 F5 N5 hck
            (repeat' ((fail_if_success (with_reducible show wpAny _ _ (call (Value.builtin "bytes.join") _) _ _ _)); (first | (k_unfold; (try dsimp only)) | (k_end; kc_close) | walk1 | (dsimp only; walk1) | (leave1; walk_say "STEP leave1"; (try dsimp only)) | fail "no step")))
            refine' join_four ?hl hck ?h4 ?hz ?_
            case hl => exact (N5 _ (by k_mem)).1
            case h4 => rw [List.length_map]; exact hl4
            case hz => rw [lens_dec (deedsOf_ok _)]; omega
            intro b6 t6 k6 hb6
            have hwh := whole_eq hb6 htxt
            (repeat' ((fail_if_success (with_reducible show GoodW _ _ _ _ _ _ _)); (first | (k_unfold; (try dsimp only)) | (k_end; kc_close) | walk1 | (dsimp only; walk1) | (leave1; walk_say "STEP leave1"; (try dsimp only)) | fail "no step")))
            · refine good_true (by rw [hwh]; exact beq_self_eq_true _) ?_
              k_end
              kc_close
            all_goals (repeat' (first | (k_unfold; (try dsimp only)) | (k_end; kc_close) | walk1 | (dsimp only; walk1) | (leave1; walk_say "STEP leave1"; (try dsimp only)) | fail "no step"))
          case hE =>
            intro hbad G5 e5 t5 vs5 h5 tk5 nw5 ps5 FG5 hm5 R5 U5
            have kd5 := kd_of (by assumption)
            (repeat' ((fail_if_success (with_reducible show GoodW _ _ _ _ _ _ _)); (first | (k_unfold; (try dsimp only)) | (k_end; kc_close) | walk1 | (dsimp only; walk1) | (leave1; walk_say "STEP leave1"; (try dsimp only)) | fail "no step")))
            · (rename KtsTurn _ _ _ => T9); (rename Fr _ _ _ _ => F9)
              have F10 := fr_turn T9 F9
              refine good_true (bne_iff_ne.mpr (fun e => hbad (e.trans htl))) ?_
              k_end
              kc_close
            all_goals (repeat' (first | (k_unfold; (try dsimp only)) | (k_end; kc_close) | walk1 | (dsimp only; walk1) | (leave1; walk_say "STEP leave1"; (try dsimp only)) | fail "no step")))
