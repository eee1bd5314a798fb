import PyProof.Rows.All
import Wide.All
import OpenK.AllK
import Wide.FinOn
import PySem.Challenge.RW_ph0011_02
set_option Elab.async false
section
open PySem PySem.W PyProof.Rows
set_option Elab.async false
namespace Mine
set_option maxRecDepth 100000 in
set_option maxHeartbeats 8000000 in
open_top hd for PySem.Challenge.rw_ph0011_02
end Mine
end
section
open PySem PySem.W PyProof.Rows PySem.Spec PySem.Calls
set_option Elab.async false
namespace Mine
noncomputable def apF (n : Nat) (go : ∀ k, k < n → List UInt8) : List UInt8 := if h : n = 0 then [] else go (n / 16) (Nat.div_lt_self (Nat.pos_of_ne_zero h) (by decide)) ++ [UInt8.ofNat (65 + n % 16)]
noncomputable def apDig : Nat → List UInt8 := WellFounded.fix Nat.lt_wfRel.wf apF
theorem apDig_eq (n : Nat) : apDig n = apF n fun k _ => apDig k := WellFounded.fix_eq _ _ _
noncomputable def apB (n : Int) : Array UInt8 := (apDig n.natAbs).toArray

noncomputable abbrev Ctr (prog : Program) (w : World) (K : Frag) (p : Program) (loose : List PySem.Str) (mean : ExcName → Option Value) (mg mb : Str → Option Value) (f : Addr) (news : List (Addr × Obj)) (vs : List Value) (pre : Prop) (Post : Value → List (Addr × Obj) → Prop) : Prop :=
  ∀ (dp un : Nat) (gd : Option (List Code)) (cn : Str) (cs : Scope) (a : Addr) (ccd : Value) (cl : List (Str × Addr)) (outer : List Env) (A₀ : Around) (base h₀ : Heap) (L : Addr) (m : Str → Option Value) (s : Shared) (Q E : Value → Shared → Prop),
    Below A₀ base outer h₀ → Fr h₀ L s.heap m → K.In h₀ → News h₀ L s.heap news → Top p loose mean mg mb h₀ → cs.kind = .function → pre →
    dp + 20 < recursionLimit → un + 200 < cLine → (∀ v news' h' tk', Fr h₀ L h' m → News h₀ L h' news' → Post v news' → Q v { s with heap := h', toks := tk' }) →
      wpAny (model prog w) (ktrTop dp un gd cn cs L a ccd cl outer) (call (.ref f) vs) Q E s


theorem apDig_zero : apDig 0 = [] := by rw [apDig_eq]; rfl
theorem apDig_pos {n : Nat} (h : n ≠ 0) : apDig n = apDig (n / 16) ++ [UInt8.ofNat (65 + n % 16)] := by
  rw [apDig_eq, apF, dif_neg h]
theorem apDig_len : ∀ (k n : Nat), n < 16 ^ k → (apDig n).length ≤ k
  | 0, n, h => by have : n = 0 := by omega
                  subst this; rw [apDig_zero]; simp
  | k + 1, n, h => by
    by_cases hz : n = 0
    · subst hz; rw [apDig_zero]; simp
    · rw [apDig_pos hz]
      have := apDig_len k (n / 16) (by rw [Nat.pow_succ] at h; omega)
      simp; omega
theorem apInit (n : Int) : 0 ≤ (if n < 0 then -n else n) ∧ apDig (if n < 0 then -n else n).toNat ++ (#[] : Array UInt8).toList = apDig n.natAbs := by
  have : (if n < 0 then -n else n) = (n.natAbs : Int) := by split <;> omega
  rw [this]; simp
theorem apSize {num : Nat} {val : Array UInt8} {n : Nat} (h : apDig num ++ val.toList = apDig n) (hn : n < 16 ^ 80) : val.size ≤ 80 := by
  have h1 := apDig_len 80 n hn
  have h2 := congrArg List.length h
  rw [List.length_append] at h2
  have h3 : val.toList.length = val.size := Array.length_toList
  omega
theorem fmod16 (num : Int) : 0 ≤ num.fmod 16 ∧ num.fmod 16 < 16 := ⟨Int.fmod_nonneg_of_pos _ (by decide), Int.fmod_lt_of_pos _ (by decide)⟩
theorem apPick16 : ∀ k : Fin 16, KBy.picked #[65, 66, 67, 68, 69, 70, 71, 72, 73, 74, 75, 76, 77, 78, 79, 80] (some ((k.val : Int))) (some ((k.val : Int) + 1)) = #[UInt8.ofNat (65 + k.val)] := by decide +kernel
theorem apPick (num : Int) : KBy.picked #[65, 66, 67, 68, 69, 70, 71, 72, 73, 74, 75, 76, 77, 78, 79, 80] (some (num.fmod 16)) (some (num.fmod 16 + 1)) = #[UInt8.ofNat (65 + (num.fmod 16).toNat)] := by
  have h := fmod16 num
  have q := apPick16 ⟨(num.fmod 16).toNat, by omega⟩
  simp only [Int.toNat_of_nonneg h.1] at q
  exact q
theorem apStep {num : Int} {val : Array UInt8} {n : Nat} (h0 : 0 ≤ num) (h : apDig num.toNat ++ val.toList = apDig n) (hz : num ≠ 0) : 0 ≤ num.fdiv 16 ∧ apDig (num.fdiv 16).toNat ++ (#[UInt8.ofNat (65 + (num.fmod 16).toNat)] ++ val).toList = apDig n := by
  have e1 : num.fdiv 16 = ((num.toNat / 16 : Nat) : Int) := by rw [Int.fdiv_eq_ediv_of_nonneg _ (by decide)]; omega
  have e2 : num.fmod 16 = ((num.toNat % 16 : Nat) : Int) := by rw [Int.fmod_eq_emod_of_nonneg _ (by decide)]; omega
  rw [apDig_pos (n := num.toNat) (by omega)] at h
  rw [e1, e2, ← h]
  refine ⟨by omega, ?_⟩
  rw [Int.toNat_natCast, Int.toNat_natCast, Array.toList_append]
  show apDig (num.toNat / 16) ++ ([UInt8.ofNat (65 + num.toNat % 16)] ++ val.toList) = _
  rw [List.append_assoc]
theorem apLess {num : Int} (h0 : 0 ≤ num) (hz : num ≠ 0) : (num.fdiv 16).toNat < num.toNat := by
  rw [Int.fdiv_eq_ediv_of_nonneg _ (by decide)]; omega
set_option maxRecDepth 100000 in
set_option maxHeartbeats 8000000 in
theorem int2ap (w : World) (p : Program) (loose : List PySem.Str) (mean : ExcName → Option Value) (mg mb : Str → Option Value) (news : List (Addr × Obj)) (n : Int) (t : Tok) :
    Ctr (PySem.Challenge.rw_ph0011_02.row.prog) w (Mine.hd.heap_39 w.params) p loose mean mg mb 28 news [.int n t] (n.natAbs < 16 ^ 80) (fun v news' => news' = news ∧ ∃ t', v = .bytes (apB n) t') := by
  k_with_none
  k_fill
  intro dp un gd cn cs a ccd cl outer A₀ base h₀ L m s Q E hB hF hK hN hT hcs hpre hdp hun hret
  refine wpAny_call ?_
  k_dflt cell_enter
  (repeat' ((fail_if_success ((first | (with_reducible show wpAny _ _ (exec (Stmt.While _ _ _ _) _) _ _ _) | (with_reducible show wpAny _ _ (subscriptTail _ (Expr.Slice _ _ _ _) _ _) _ _ _)))); (first | (k_unfold; (try dsimp only)) | (walk1 <;> (try dsimp only)) | (dsimp only; walk1) | (leave1; (try dsimp only)) | fail "no step")))
  k_with "state" => first | exact apInit _ | exact apStep (by assumption) (by assumption) (by assumption)
  k_with "measure" => exact apLess (by assumption) (by assumption)
  k_while (fun _ num val => 0 ≤ num ∧ apDig num.toNat ++ val.toList = apDig n.natAbs) (fun _ num _ => num.toNat) "num" "val"
  (repeat' ((fail_if_success ((first | (with_reducible show wpAny _ _ (exec (Stmt.While _ _ _ _) _) _ _ _) | (with_reducible show wpAny _ _ (subscriptTail _ (Expr.Slice _ _ _ _) _ _) _ _ _)))); (first | (k_unfold; (try dsimp only)) | (walk1 <;> (try dsimp only)) | (dsimp only; walk1) | (leave1; (try dsimp only)) | fail "no step")))
  · rename (apDig _ ++ _ = apDig _) => hinv
    have hval := apSize hinv hpre
    with_reducible rename Fr _ _ _ _ => F'
    with_reducible rename News _ _ _ _ => N'
    refine KBc.slice_K (s := ⟨_, _, _, _, _⟩) F' N' rfl (by constructor) (by constructor) (by decide) ?_
    intro h9 t9 k9 F9 N9 _
    rw [apPick]
    (repeat' ((fail_if_success ((first | (with_reducible show wpAny _ _ (exec (Stmt.While _ _ _ _) _) _ _ _) | (with_reducible show wpAny _ _ (subscriptTail _ (Expr.Slice _ _ _ _) _ _) _ _ _)))); (first | (k_unfold; (try dsimp only)) | (walk1 <;> (try dsimp only)) | (dsimp only; walk1) | (leave1; (try dsimp only)) | fail "no step")))
  · rename (apDig _ ++ _ = apDig _) => hinv
    rename (_ = (0 : Int)) => hz
    refine hret _ news _ _ (by assumption) (by assumption) ⟨rfl, _, congrArg (Value.bytes · _) ?_⟩
    rw [hz] at hinv
    rw [apB, ← hinv]
    simp [apDig_zero]
end Mine
end
section
open PySem PySem.W PySem.Flt PyProof.Rows PySem.Spec PySem.Calls
set_option Elab.async false
set_option maxRecDepth 100000
namespace Mine
namespace FF
theorem lk_getattr : typeLookup (.type "function") "__getattr__" = pure none := by rw [typeLookup_type, builtinLookup_eq_fast]; kernel_rfl
theorem slot_ga : Slot "function" "__getattribute__" "object.__getattribute__" :=
  .of (owner := "object") (n := "__getattribute__") (by rw [typeLookup_type, builtinLookup_eq_fast]; kernel_rfl) (by decide +kernel) (by decide +kernel) (by decide +kernel)
    (by first | exact .inl (by decide +kernel) | exact .inr (by decide +kernel)) (by rw [isSubtype_type]; kernel_rfl)
theorem args_ga (a b : Value) : argsOk "object.__getattribute__" ⟨[a, b], []⟩ := by unfold argsOk; kernel_rfl
theorem canon_ga : (Manifest.canonical "object.__getattribute__" != "object.__getattribute__") = false := by decide +kernel
theorem sub_static : isSubtype (.type "function") (.type "staticmethod") = pure false := by rw [isSubtype_type]; kernel_rfl
theorem sub_classm : isSubtype (.type "function") (.type "classmethod") = pure false := by rw [isSubtype_type]; kernel_rfl
theorem sub_mod : isSubtype (.type "function") (.type "module") = pure false := by rw [isSubtype_type]; kernel_rfl
theorem lk_search : typeLookup (.type "function") "search" = pure none := by rw [typeLookup_type, builtinLookup_eq_fast]; kernel_rfl
theorem lk_span : typeLookup (.type "function") "span" = pure none := by rw [typeLookup_type, builtinLookup_eq_fast]; kernel_rfl
theorem lk_start : typeLookup (.type "function") "start" = pure none := by rw [typeLookup_type, builtinLookup_eq_fast]; kernel_rfl
theorem lk_end : typeLookup (.type "function") "end" = pure none := by rw [typeLookup_type, builtinLookup_eq_fast]; kernel_rfl
theorem lk_bool : typeLookup (.type "function") "__bool__" = pure none := by rw [typeLookup_type, builtinLookup_eq_fast]; kernel_rfl
theorem lk_len : typeLookup (.type "function") "__len__" = pure none := by rw [typeLookup_type, builtinLookup_eq_fast]; kernel_rfl
end FF
section
variable {prog : Program} {w : World} {A : Around} {E : Value → Shared → Prop} {h : Heap} {g : Array GenState} {d : Drawn} {t : Nat} {os : OsState} {a D : Addr} {md : PySem.Str → Option Value} {fd : FuncData} {sl : Array (Option Value)}
theorem fn_entry {name : PySem.Str} {tk : Tok} {v : Value} {Q : Fin → Shared → Prop} (hM : h.get? a = some ⟨.type "function", some D, .func fd, sl⟩) (hD : h.Ns D md) (hnm : typeLookup (.type "function") name = pure none) (hv : md name = some v)
    (hq : Q (.done (.ret v)) ⟨h, g, d, t, os⟩) : wpAny (model prog w) A (Builtin.«object.__getattribute__» ⟨[.ref a, .str name tk], []⟩) Q E ⟨h, g, d, t, os⟩ := by
  have hT : (⟨h, g, d, t, os⟩ : Shared).TypeIs (.ref a) "function" := ⟨_, hM, rfl⟩
  have f1 := FF.sub_static
  have f2 := FF.sub_classm
  repeat (any_goals (first | assumption | with_reducible apply wpAny_nsGet_known | with_reducible apply wpAny_loadPart_known | wp_step))
theorem getMethod_fn {name : PySem.Str} {v : Value} {pl : Sem Bool} {Q : Value × List Value → Shared → Prop} (hM : h.get? a = some ⟨.type "function", some D, .func fd, sl⟩) (hD : h.Ns D md) (hnm : typeLookup (.type "function") name = pure none) (hv : md name = some v)
    (hh : handedOut v = pure v) (hq : Q (v, []) ⟨h, g, d, t + 1, os⟩) : wpAny (model prog w) A (getMethod (.ref a) name pl) Q E ⟨h, g, d, t, os⟩ := by
  have hT : (⟨h, g, d, t, os⟩ : Shared).TypeIs (.ref a) "function" := ⟨_, hM, rfl⟩
  have hT1 : (⟨h, g, d, t + 1, os⟩ : Shared).TypeIs (.ref a) "function" := ⟨_, hM, rfl⟩
  have f1 := FF.slot_ga.lookup
  have f2 := FF.lk_getattr
  have f4 := FF.slot_ga.bind (.ref a)
  unfold getMethod
  refine wpAny_bind (wpAny_specialOf hT f1 ?_)
  show wpAny _ A (if (Manifest.canonical "object.__getattribute__" != "object.__getattribute__") = true then _ else _) Q E _
  rw [FF.canon_ga, if_neg Bool.false_ne_true]
  refine wpAny_bind (wpAny_specialOf hT f2 ?_)
  show wpAny _ A (if (Option.isSome (none : Option Value)) = true then _ else _) Q E _
  rw [if_neg (by decide)]
  refine wpAny_bind (wpAny_specialOf hT hnm ?_)
  repeat (any_goals (first | assumption | wp_step))
  refine codeAny_call_builtin FF.slot_ga.plain F.entry_object_getattribute (FF.slot_ga.check _ _ _ _ _ _ _ _ hT1 (FF.args_ga _ _) (fn_entry hM hD hnm hv ?_))
  repeat (any_goals (first | assumption | wp_step))
theorem truthy_fn {dd : Option Addr} {Q : Bool → Shared → Prop} (hM : h.get? a = some ⟨.type "function", dd, .func fd, sl⟩) (hq : Q true ⟨h, g, d, t, os⟩) : wpAny (model prog w) A (truthy (.ref a)) Q E ⟨h, g, d, t, os⟩ := by
  have hT : (⟨h, g, d, t, os⟩ : Shared).TypeIs (.ref a) "function" := ⟨_, hM, rfl⟩
  have f1 := FF.lk_bool
  have f2 := FF.lk_len
  unfold truthy
  repeat (any_goals (first | assumption | wp_step))
theorem handed_ref (a : Addr) : handedOut (.ref a) = pure (.ref a) := rfl
end
end Mine
end
section
open PySem PySem.W PyProof.Rows PySem.Spec PySem.Calls PySem.Builtin
set_option Elab.async false
set_option maxRecDepth 100000
namespace Mine
namespace CD
theorem loop {f : Nat → (Nat × Array Nat × _codecs.Faults) → Sem (ForInStep (Nat × Array Nat × _codecs.Faults))} (g : Nat → Nat) (N : Nat)
    (hf : ∀ x p out flt, p < N → out.size = p → f x (p, out, flt) = pure (.yield (p + 1, out ++ [g p].toArray, flt))) :
    ∀ (m c p : Nat) (out : Array Nat) (flt : _codecs.Faults), p + m ≤ N → out.size = p → (forIn (List.range' c m) (p, out, flt) f : Sem _) = pure (p + m, out ++ ((List.range' p m).map g).toArray, flt)
  | 0, c, p, out, flt, _, _ => by simp
  | m + 1, c, p, out, flt, h, hs => by
    rw [List.range'_succ, List.forIn_cons, hf c p out flt (by omega) hs, pure_bind]
    try dsimp only
    rw [loop g N hf m (c + 1) (p + 1) _ flt (by omega) (by simp [hs])]
    rw [List.range'_succ, List.map_cons]
    congr 2
    · omega
    · congr 1
      apply Array.ext'
      simp
noncomputable def codes (b : Array UInt8) : List Nat := b.toList.map (·.toNat)
theorem codes_eq (b : Array UInt8) : (List.range' 0 b.size).map (fun p => (b.getD p 0).toNat) = codes b := by
  apply List.ext_getElem
  · simp [codes]
  · intro i h1 h2
    simp [codes] at h1 h2 ⊢
    simp [h1]
theorem ascii (id : String) (b : Array UInt8) (hb : ∀ p < b.size, (b.getD p 0).toNat < 128) (hs : b.size ≤ sizeLine) : _codecs.runDecoder id _codecs.asciiDecoder none true b 0 [] = pure ((codes b).toArray, b.size) := by
  unfold _codecs.runDecoder
  simp only [Std.Legacy.Range.forIn_eq_forIn_range']
  have e : [:b.size].size = b.size := by simp [Std.Legacy.Range.size]
  rw [e]
  rw [loop (fun p => (b.getD p 0).toNat) b.size ?_ b.size 0 0 #[] _ (by omega) rfl]
  · rw [pure_bind]
    try dsimp only
    rw [codes_eq, Nat.zero_add]
    simp
  · intro x p out flt hp ho
    try dsimp only
    rw [if_neg (by omega), if_neg (by omega)]
    have e2 : _codecs.asciiDecoder.find true b p = .text [(b.getD p 0).toNat] (p + 1) := by
      unfold _codecs.asciiDecoder
      try dsimp only
      rw [if_pos (hb p hp)]
      rfl
    rw [e2]
section
variable {b : Array UInt8} {c : UInt8} {cs : List UInt8} {t : Tok}
theorem road_eq {id : String} : _codecs.decodeRoad id b (PySem.Str.ofString "ascii") none [] = (_codecs.runDecoder id _codecs.asciiDecoder none true b 0 [] >>= fun r => mkStr ⟨r.1⟩) := by kernel_rfl
theorem meets_text {t1 t2 : Tok} {d : PySem.Str} (hb : ∀ p < b.size, (b.getD p 0).toNat < 128) (hs : b.size ≤ sizeLine) :
    Meets («_codecs.decode.text» ⟨[.bytes b t, .str (PySem.Str.ofString "ascii") t1, .none, .str d t2], []⟩) (fun _ R s => R (.ok (.ret (.str ⟨(codes b).toArray⟩ s.toks))) { s with toks := s.toks + 1 }) := by
  refine .of_wp fun prog w A R s h => ?_
  show wpAny _ _ (Bytes.bytesLike _ (.bytes b t) >>= fun r => _) _ _ s
  refine wpAny_bind (wpAny_of_eq KBd.like_eq ?_)
  refine wpAny_bind (wpAny_of_eq KBd.held_eq ?_)
  show wpAny _ _ (_codecs.decodeRoad _ b (PySem.Str.ofString "ascii") none [] >>= fun v => _) _ _ s
  rw [road_eq, ascii _ b hb hs]
  refine wpAny_bind (wpAny_bind (wpAny_pure ?_))
  exact wpAny_mkStr (wpAny_pure ⟨_, rfl, h⟩) (by show (codes b).toArray.size ≤ sizeLine; simpa [codes] using hs)
theorem entry_eq {t2 : Tok} : «bytes.decode» ⟨[.bytes (c :: cs).toArray t, .str (PySem.Str.ofString "ascii") t2], []⟩ = (mkStr (PySem.Str.ofString "utf-8") >>= fun _ => mkStr (PySem.Str.ofString "ascii") >>= fun e => mkStr (PySem.Str.ofString "bytes.decode") >>= fun d =>
    call (.builtin "_codecs.decode.text") [.bytes (c :: cs).toArray t, e, .none, d] >>= fun v => ret v) := by kernel_rfl
theorem meets_decode {t2 : Tok} (hb : ∀ p < (c :: cs).toArray.size, ((c :: cs).toArray.getD p 0).toNat < 128) (hs : (c :: cs).toArray.size ≤ sizeLine) :
    Meets («bytes.decode» ⟨[.bytes (c :: cs).toArray t, .str (PySem.Str.ofString "ascii") t2], []⟩) (fun _ R s => ∀ t' k, R (.ok (.ret (.str ⟨(codes (c :: cs).toArray).toArray⟩ t'))) { s with toks := k }) := by
  refine .of_wp fun prog w A R s h => ?_
  rw [entry_eq]
  refine wpAny_bind (wpAny_mkStr ?_ (by decide))
  refine wpAny_bind (wpAny_mkStr ?_ (by decide))
  refine wpAny_bind (wpAny_mkStr ?_ (by decide))
  exact wpAny_bind (call_function_meets KBd.kind_text KBd.plain_text KBd.entry_text (KBd.args_text _ _ _ _) (meets_text hb hs) (wpAny_pure ⟨_, rfl, h _ _⟩))
theorem args2 (x y : Value) : argsOk "bytes.decode" ⟨[x, y], []⟩ := by unfold argsOk; kernel_rfl
end
theorem decode {prog : Program} {w : World} {A : Around} {E : Value → Shared → Prop} {s : Shared} {b : Array UInt8} {t t2 : Tok} {Q : Value → Shared → Prop} (hne : b ≠ #[]) (hb : ∀ p < b.size, (b.getD p 0).toNat < 128) (hs : b.size ≤ 16777216) (h : ∀ t' k, Q (.str ⟨(codes b).toArray⟩ t') { s with toks := k }) :
    wpAny (model prog w) A (call (.builtin "bytes.decode") [.bytes b t, .str (PySem.Str.ofString "ascii") t2]) Q E s := by
  obtain ⟨l⟩ := b
  cases l with
  | nil => exact absurd rfl hne
  | cons c cs => exact call_meets FB.slot_bytes_decode (typeIs_bytes _ _ _) FB.entry_bytes_decode (args2 _ _) (meets_decode hb (by rw [sizeLine_eq]; exact hs)) h
end CD
end Mine
end
section
open PySem PySem.W PySem.W.X PyProof.Rows PySem.Spec PySem.Calls
set_option Elab.async false
namespace Mine
noncomputable def objAt (P : Params) (a : Addr) : Obj := (List.lookup a (hd.heap_39 P)).getD default
noncomputable def stmtsOf (i : Nat) : List Stmt := match (Challenge.pw_ph0011_02.main.body)[i]? with
  | some (.FunctionDef _ _ b _ _ _ _ _ _ _) => b
  | _ => []
noncomputable def lamOf (i j : Nat) : Arguments × PySem.Expr × Scope := match (stmtsOf i)[j]? with
  | some (.Assign _ (.Lambda a b sc _) _) => (a, b, sc)
  | _ => default
noncomputable def lamFd (i j : Nat) (qual : PySem.Str) (cl : List (PySem.Str × Addr)) (code ct : Value) : FuncData :=
  { name := "<lambda>", qualname := qual, params := (lamOf i j).1, body := .expr (lamOf i j).2.1, scope := (lamOf i j).2.2, globals := 3, closure := cl, defaults := .none, kwdefaults := .none, pyModule := .str "law_ph0011_02" 214, code := code, closureTuple := ct, builtins := 0 }
noncomputable def hitQ : PySem.Str := "_law_hit.<locals>.<lambda>"
noncomputable def lamObj (i j : Nat) (qual : PySem.Str) (cl : List (PySem.Str × Addr)) (code ct : Value) (d : Option Addr) : Obj := ⟨.type "function", d, .func (lamFd i j qual cl code ct), #[]⟩
noncomputable def cellObj (v : Value) : Obj := ⟨.type "cell", none, .cell (some v), #[]⟩
noncomputable def strEntry (h : Int) (k : PySem.Str) (t : Tok) (v : Value) : DictEntry := ⟨h, .str k t, v⟩

structure Kont (P : Prop) : Prop where
  out : P
/-- what a hit is, in a ledger -/
structure HitAt (P : Addr × Obj → Prop) (a : Addr) (n : Int) (c1 c2 c3 c4 : Value) (d f1 f2 f3 c : Addr) (t : Tok) (ct1 ct2 ct3 : Value) (h1 h2 h3 : Int) (t1 t2 t3 : Tok) : Prop where
  fn : P (a, lamObj 5 0 hitQ [] c1 .none (some d))
  dict : P (d, ⟨.type "dict", none, .dict #[strEntry h1 "span" t1 (.ref f1), strEntry h2 "start" t2 (.ref f2), strEntry h3 "end" t3 (.ref f3)] 3, #[]⟩)
  span : P (f1, lamObj 5 1 hitQ [("place", c)] c2 ct1 none)
  start : P (f2, lamObj 5 2 hitQ [("place", c)] c3 ct2 none)
  ende : P (f3, lamObj 5 3 hitQ [("place", c)] c4 ct3 none)
  cell : P (c, cellObj (.int n t))
noncomputable def HitIn (P : Addr × Obj → Prop) (a : Addr) (n : Int) (c1 c2 c3 c4 : Value) : Prop :=
  ∃ d f1 f2 f3 c t ct1 ct2 ct3 h1 h2 h3 t1 t2 t3, HitAt P a n c1 c2 c3 c4 d f1 f2 f3 c t ct1 ct2 ct3 h1 h2 h3 t1 t2 t3

noncomputable def KH : Params → Frag := fun P => [(nat_lit 2, objAt P 2), (nat_lit 3, objAt P 3), (nat_lit 30, tabObj #[]), (nat_lit 34, objAt P 34), (nat_lit 35, objAt P 35)]
noncomputable def KF : Params → Frag := fun P => [(nat_lit 2, objAt P 2), (nat_lit 3, objAt P 3), (nat_lit 34, objAt P 34), (nat_lit 35, objAt P 35)]

noncomputable def fullTab (c1 c2 c3 c4 : Value) : Array Value := #[rawInt 28, rawInt 10, c1, rawInt 29, rawInt 15, c2, rawInt 30, rawInt 16, c3, rawInt 31, rawInt 14, c4]


noncomputable def ctOf (o : Obj) : Value := match o.data with
  | .func fd => fd.closureTuple
  | _ => .none
noncomputable def entOf (o : Obj) (i : Nat) : DictEntry := match o.data with
  | .dict es _ => es.toList.getD i default
  | _ => default
noncomputable def tokOf : Value → Tok
  | .int _ t => t
  | .str _ t => t
  | _ => 0
noncomputable def hashAt (o : Obj) (i : Nat) : Int := (entOf o i).hash
noncomputable def tokAt (o : Obj) (i : Nat) : Tok := tokOf (entOf o i).key
noncomputable def cellTok (o : Obj) : Tok := match o.data with
  | .cell (some v) => tokOf v
  | _ => 0
noncomputable def adA (news : List (Addr × Obj)) (i : Nat) : Addr := (news.getD i (0, default)).1
noncomputable def obA (news : List (Addr × Obj)) (i : Nat) : Obj := (news.getD i (0, default)).2
theorem memAt {h₀ h : Heap} {chg news : List (Addr × Obj)} (D : Mem h₀ h chg news) (i : Nat) (hi : Nat.blt i news.length = true) {o' : Obj} (e : obA news i = o') : h.get? (adA news i) = some o' ∧ h₀.get? (adA news i) = none := by
  have hi' : i < news.length := Nat.le_of_ble_eq_true hi
  have hm : (adA news i, obA news i) ∈ news := by
    unfold adA obA
    rw [List.getD_eq_getElem?_getD, List.getElem?_eq_getElem hi']
    exact List.getElem_mem hi'
  exact e ▸ D.nw _ hm
noncomputable abbrev HitLen (news : List (Addr × Obj)) (i3 i2 i4 i1 i0 i8 : Nat) : Prop := [Nat.blt i3 news.length, Nat.blt i2 news.length, Nat.blt i4 news.length, Nat.blt i1 news.length, Nat.blt i0 news.length, Nat.blt i8 news.length] = [true, true, true, true, true, true]
noncomputable abbrev HitObs (news : List (Addr × Obj)) (i3 i2 i4 i1 i0 i8 : Nat) (n : Int) (c1 c2 c3 c4 : Value) : Prop := [obA news i4, obA news i8, obA news i3, obA news i2, obA news i1, obA news i0] = [⟨.type "dict", none, .dict #[strEntry (hashAt (obA news i4) 0) "span" (tokAt (obA news i4) 0) (.ref (adA news i1)), strEntry (hashAt (obA news i4) 1) "start" (tokAt (obA news i4) 1) (.ref (adA news i2)), strEntry (hashAt (obA news i4) 2) "end" (tokAt (obA news i4) 2) (.ref (adA news i3))] 3, #[]⟩,
  cellObj (.int n (cellTok (obA news i8))), lamObj 5 3 hitQ [("place", adA news i8)] c4 (ctOf (obA news i3)) none, lamObj 5 2 hitQ [("place", adA news i8)] c3 (ctOf (obA news i2)) none, lamObj 5 1 hitQ [("place", adA news i8)] c2 (ctOf (obA news i1)) none, lamObj 5 0 hitQ [] c1 .none (some (adA news i4))]
theorem hitEnd {h₀ h : Heap} {chg news : List (Addr × Obj)} (D : Mem h₀ h chg news) (i3 i2 i4 i1 i0 i8 : Nat) {n : Int} {c1 c2 c3 c4 : Value}
    (hl : HitLen news i3 i2 i4 i1 i0 i8)
    (k : HitObs news i3 i2 i4 i1 i0 i8 n c1 c2 c3 c4) :
    HitIn (fun p => h.get? p.1 = some p.2 ∧ h₀.get? p.1 = none) (adA news i0) n c1 c2 c3 c4 := by
  simp only [List.cons.injEq, and_true] at hl k
  obtain ⟨l3, l2, l4, l1, l0, l8⟩ := hl
  obtain ⟨k4, k8, k3, k2, k1, k0⟩ := k
  exact ⟨adA news i4, adA news i1, adA news i2, adA news i3, adA news i8, _, _, _, _, _, _, _, _, _, _, memAt D i0 l0 k0, memAt D i4 l4 k4, memAt D i1 l1 k1, memAt D i2 l2 k2, memAt D i3 l3 k3, memAt D i8 l8 k8⟩
theorem hitF_fin {s : Shared} {n : Int} {c1 c2 c3 c4 a : Addr} {Q : Value → Shared → Prop} {h : Heap} {news : List (Addr × Obj)} {tk : Nat}
   (hQ : Kont (∀ (a : Addr) (h' : Heap) (tk : Nat), (∀ b o, s.heap.get? b = some o → h'.get? b = some o) →
     HitIn (fun p => h'.get? p.1 = some p.2 ∧ s.heap.get? p.1 = none) a n (.ref c1) (.ref c2) (.ref c3) (.ref c4) → Q (.ref a) { s with heap := h', toks := tk }))
   (D : Mem s.heap h [] news) (ha : adA news 7 = a) (hl : HitLen news 0 2 4 5 7 8) (k : HitObs news 0 2 4 5 7 8 n (.ref c1) (.ref c2) (.ref c3) (.ref c4)) : Q (.ref a) { s with heap := h, toks := tk } := by
  subst ha
  exact hQ.out _ _ _ (fun b o e => Mem.keep D b o e (by simp [away])) (hitEnd D 0 2 4 5 7 8 hl k)
section
local macro_rules | `(tactic| x_close) => `(tactic| (refine hitF_fin (by assumption) (by assumption) ?_ ?_ ?_ <;> kernel_rfl))
set_option maxRecDepth 100000 in
set_option maxHeartbeats 8000000 in
theorem hitF (w : World) (s : Shared) (KX : (KF w.params).In s.heap) (n : Int) (t : Tok) (sl : Array (Option Value)) (c1 c2 c3 c4 : Addr)
   (h4 : s.heap.get? (nat_lit 4) = some ⟨.type "module", some (nat_lit 0), .plain, sl⟩)
   (h30 : s.heap.get? (nat_lit 30) = some ⟨.none, none, .fields (fullTab (.ref c1) (.ref c2) (.ref c3) (.ref c4)), #[]⟩)
   (Q : Value → Shared → Prop) (E : Value → Shared → Prop)
   (hQ : Kont (∀ (a : Addr) (h' : Heap) (tk : Nat), (∀ b o, s.heap.get? b = some o → h'.get? b = some o) →
     HitIn (fun p => h'.get? p.1 = some p.2 ∧ s.heap.get? p.1 = none) a n (.ref c1) (.ref c2) (.ref c3) (.ref c4) → Q (.ref a) { s with heap := h', toks := tk })) :
    wpAny (model (PySem.Challenge.rw_ph0011_02.row.prog) w) { depth := 900, units := 900 } (call (.ref 35) [.int n t]) Q E s := by
  revert KX
  k_with_none
  k_fill
  intro KX
  x_run
end
noncomputable def CodeP (o : Obj) (q : PySem.Str) : Prop := o.cls = .type "code" ∧ ∃ vs t, o.data = .fields vs ∧ vs[1]? = some (.str q t)
noncomputable def codeVs (o : Obj) : Array Value := match o.data with
  | .fields vs => vs
  | _ => #[]
noncomputable def codeTok (o : Obj) : Tok := tokOf ((codeVs o).toList.getD 1 .none)
theorem codeP_of {o : Obj} {q : PySem.Str} (h : (o.cls, o.data, (codeVs o)[1]?) = (.type "code", .fields (codeVs o), some (.str q (codeTok o)))) : CodeP o q := by
  simp only [Prod.mk.injEq] at h
  exact ⟨h.1, _, _, h.2.1, h.2.2⟩
noncomputable def CodesIn (P : Addr × Obj → Prop) (q : PySem.Str) (xs : List Addr) : Prop := ∀ x ∈ xs, ∃ o, P (x, o) ∧ CodeP o q
theorem codes4 {P : Addr × Obj → Prop} {q : PySem.Str} {x1 x2 x3 x4 : Addr} {o1 o2 o3 o4 : Obj} (h1 : P (x1, o1)) (h2 : P (x2, o2)) (h3 : P (x3, o3)) (h4 : P (x4, o4)) (k1 : CodeP o1 q) (k2 : CodeP o2 q) (k3 : CodeP o3 q) (k4 : CodeP o4 q) : CodesIn P q [x1, x2, x3, x4] := by
  intro x hx
  simp only [List.mem_cons, List.not_mem_nil, or_false] at hx
  rcases hx with rfl | rfl | rfl | rfl
  · exact ⟨_, h1, k1⟩
  · exact ⟨_, h2, k2⟩
  · exact ⟨_, h3, k3⟩
  · exact ⟨_, h4, k4⟩
theorem awayOne {P b : Addr} {o ob : Obj} (hb : b ≠ P) : (hasCls ob || away [(P, o)] b) = true := by
  have : Nat.beq P b = false := by
    cases h : Nat.beq P b with
    | false => rfl
    | true => exact absurd (Nat.eq_of_beq_eq_true h).symm hb
  simp [away, this]
theorem tabEnd {h₀ h : Heap} {P : Addr} {o o' : Obj} {news : List (Addr × Obj)} (D : Mem h₀ h [(P, o)] news) (e : o = o') : h.get? P = some o' := e ▸ D.atC 0 P o rfl
theorem hitE_fin {s : Shared} {n : Int} {a P : Addr} {o : Obj} {Q : Value → Shared → Prop} {h : Heap} {news : List (Addr × Obj)} {tk : Nat}
   (hQ : Kont (∀ (a : Addr) (h' : Heap) (tk : Nat) (c1 c2 c3 c4 : Addr), (∀ b o, s.heap.get? b = some o → b ≠ 30 → h'.get? b = some o) →
     h'.get? 30 = some (tabObj (fullTab (.ref c1) (.ref c2) (.ref c3) (.ref c4))) → CodesIn (fun p => h'.get? p.1 = some p.2 ∧ s.heap.get? p.1 = none) hitQ [c1, c2, c3, c4] →
     HitIn (fun p => h'.get? p.1 = some p.2 ∧ s.heap.get? p.1 = none) a n (.ref c1) (.ref c2) (.ref c3) (.ref c4) → Q (.ref a) { s with heap := h', toks := tk }))
   (D : Mem s.heap h [(P, o)] news) (hP : (30 : Addr) = P) (ha : adA news 25 = a) (hl : HitLen news 0 8 16 17 25 32) (k : HitObs news 0 8 16 17 25 32 n (.ref (adA news 26)) (.ref (adA news 18)) (.ref (adA news 9)) (.ref (adA news 1)))
   (ht : o = tabObj (fullTab (.ref (adA news 26)) (.ref (adA news 18)) (.ref (adA news 9)) (.ref (adA news 1))))
   (hb : [Nat.blt 26 news.length, Nat.blt 18 news.length, Nat.blt 9 news.length, Nat.blt 1 news.length] = [true, true, true, true])
   (hc : [26, 18, 9, 1].map (fun i => ((obA news i).cls, (obA news i).data, (codeVs (obA news i))[1]?)) = [26, 18, 9, 1].map (fun i => (Value.type "code", .fields (codeVs (obA news i)), some (.str hitQ (codeTok (obA news i)))))) :
   Q (.ref a) { s with heap := h, toks := tk } := by
  subst ha
  subst hP
  simp only [List.cons.injEq, and_true] at hb
  simp only [List.map_cons, List.map_nil, List.cons.injEq, and_true] at hc
  exact hQ.out _ _ _ _ _ _ _ (fun b o e hb => Mem.keep D b o e (awayOne hb)) (tabEnd D ht) (codes4 (memAt D 26 hb.1 rfl) (memAt D 18 hb.2.1 rfl) (memAt D 9 hb.2.2.1 rfl) (memAt D 1 hb.2.2.2 rfl) (codeP_of hc.1) (codeP_of hc.2.1) (codeP_of hc.2.2.1) (codeP_of hc.2.2.2))
    (hitEnd D 0 8 16 17 25 32 hl k)
section
local macro_rules | `(tactic| x_close) => `(tactic| (refine hitE_fin (by assumption) (by assumption) ?_ ?_ ?_ ?_ ?_ ?_ ?_ <;> kernel_rfl))
set_option maxRecDepth 100000 in
set_option maxHeartbeats 8000000 in
theorem hitE (w : World) (s : Shared) (KX : (KH w.params).In s.heap) (n : Int) (t : Tok) (sl : Array (Option Value))
   (h4 : s.heap.get? (nat_lit 4) = some ⟨.type "module", some (nat_lit 0), .plain, sl⟩)
   (Q : Value → Shared → Prop) (E : Value → Shared → Prop)
   (hQ : Kont (∀ (a : Addr) (h' : Heap) (tk : Nat) (c1 c2 c3 c4 : Addr), (∀ b o, s.heap.get? b = some o → b ≠ 30 → h'.get? b = some o) →
     h'.get? 30 = some (tabObj (fullTab (.ref c1) (.ref c2) (.ref c3) (.ref c4))) → CodesIn (fun p => h'.get? p.1 = some p.2 ∧ s.heap.get? p.1 = none) hitQ [c1, c2, c3, c4] →
     HitIn (fun p => h'.get? p.1 = some p.2 ∧ s.heap.get? p.1 = none) a n (.ref c1) (.ref c2) (.ref c3) (.ref c4) → Q (.ref a) { s with heap := h', toks := tk })) :
    wpAny (model (PySem.Challenge.rw_ph0011_02.row.prog) w) { depth := 900, units := 900 } (call (.ref 35) [.int n t]) Q E s := by
  revert KX
  k_with_none
  k_fill
  intro KX
  x_run
end
end Mine
end
section
open PySem PySem.W PySem.W.X PyProof.Rows PySem.Spec PySem.Calls
set_option Elab.async false
namespace Mine
noncomputable def K2 : Params → Frag := fun P => [(nat_lit 2, objAt P 2)]
noncomputable def seqAt (o : Obj) (i : Nat) : Value := match o.data with
  | .seq xs _ => xs.toList.getD i .none
  | _ => .none
theorem span_fin {s : Shared} {n m : Int} {t : Tok} {a : Addr} {Q : Value → Shared → Prop} {h : Heap} {news : List (Addr × Obj)} {tk : Nat}
   (hQ : Kont (∀ (a : Addr) (h' : Heap) (tk : Nat), (∀ b o, s.heap.get? b = some o → h'.get? b = some o) → (∃ t', h'.get? a = some ⟨.type "tuple", none, .seq #[.int n t, .int m t'] 0, #[]⟩ ∧ s.heap.get? a = none) →
      Q (.ref a) { s with heap := h', toks := tk }))
   (D : Mem s.heap h [] news) (ha : adA news 0 = a) (hl : Nat.blt 0 news.length = true) (k : obA news 0 = ⟨.type "tuple", none, .seq #[.int n t, .int m (tokOf (seqAt (obA news 0) 1))] 0, #[]⟩) : Q (.ref a) { s with heap := h, toks := tk } := by
  subst ha
  exact hQ.out _ _ _ (fun b o e => Mem.keep D b o e (by simp [away])) ⟨_, memAt D 0 hl k⟩
theorem start_fin {s : Shared} {v : Value} {Q : Value → Shared → Prop} {h : Heap} {news : List (Addr × Obj)} {tk : Nat}
   (hQ : Kont (∀ (h' : Heap) (tk : Nat), (∀ b o, s.heap.get? b = some o → h'.get? b = some o) → Q v { s with heap := h', toks := tk }))
   (D : Mem s.heap h [] news) : Q v { s with heap := h, toks := tk } := hQ.out _ _ (fun b o e => Mem.keep D b o e (by simp [away]))
theorem end_fin {s : Shared} {n : Int} {t' : Tok} {Q : Value → Shared → Prop} {h : Heap} {news : List (Addr × Obj)} {tk : Nat}
   (hQ : Kont (∀ (h' : Heap) (tk : Nat) (t' : Tok), (∀ b o, s.heap.get? b = some o → h'.get? b = some o) → Q (.int n t') { s with heap := h', toks := tk }))
   (D : Mem s.heap h [] news) : Q (.int n t') { s with heap := h, toks := tk } := hQ.out _ _ _ (fun b o e => Mem.keep D b o e (by simp [away]))
section
local macro_rules | `(tactic| x_close) => `(tactic| (refine span_fin (by assumption) (by assumption) ?_ ?_ ?_ <;> kernel_rfl))
set_option maxRecDepth 100000 in
set_option maxHeartbeats 8000000 in
theorem spanX (w : World) (s : Shared) (KX : (K2 w.params).In s.heap) (f1 c cs : Addr) (n : Int) (t tq : Tok) (ct v0 : Value) (vr : List Value) (od : Option Addr) (osl : Array (Option Value))
   (hf : s.heap.get? f1 = some ⟨.type "function", none, .func (lamFd 5 1 hitQ [("place", c)] (.ref cs) ct), #[]⟩)
   (hc : s.heap.get? c = some ⟨.type "cell", none, .cell (some (.int n t)), #[]⟩)
   (hcs : s.heap.get? cs = some ⟨.type "code", od, .fields ⟨v0 :: .str hitQ tq :: vr⟩, osl⟩)
   (Q : Value → Shared → Prop) (E : Value → Shared → Prop)
   (hQ : Kont (∀ (a : Addr) (h' : Heap) (tk : Nat), (∀ b o, s.heap.get? b = some o → h'.get? b = some o) → (∃ t', h'.get? a = some ⟨.type "tuple", none, .seq #[.int n t, .int (n + 1) t'] 0, #[]⟩ ∧ s.heap.get? a = none) →
      Q (.ref a) { s with heap := h', toks := tk })) :
    wpAny (model (PySem.Challenge.rw_ph0011_02.row.prog) w) { depth := 900, units := 900 } (call (.ref f1) []) Q E s := by
  revert KX
  k_with_none
  k_fill
  intro KX
  x_run
end
section
local macro_rules | `(tactic| x_close) => `(tactic| exact start_fin (by assumption) (by assumption))
set_option maxRecDepth 100000 in
set_option maxHeartbeats 8000000 in
theorem startX (w : World) (s : Shared) (KX : (K2 w.params).In s.heap) (f1 c cs : Addr) (n : Int) (t tq : Tok) (ct v0 : Value) (vr : List Value) (od : Option Addr) (osl : Array (Option Value))
   (hf : s.heap.get? f1 = some ⟨.type "function", none, .func (lamFd 5 2 hitQ [("place", c)] (.ref cs) ct), #[]⟩)
   (hc : s.heap.get? c = some ⟨.type "cell", none, .cell (some (.int n t)), #[]⟩)
   (hcs : s.heap.get? cs = some ⟨.type "code", od, .fields ⟨v0 :: .str hitQ tq :: vr⟩, osl⟩)
   (Q : Value → Shared → Prop) (E : Value → Shared → Prop)
   (hQ : Kont (∀ (h' : Heap) (tk : Nat), (∀ b o, s.heap.get? b = some o → h'.get? b = some o) → Q (.int n t) { s with heap := h', toks := tk })) :
    wpAny (model (PySem.Challenge.rw_ph0011_02.row.prog) w) { depth := 900, units := 900 } (call (.ref f1) []) Q E s := by
  revert KX
  k_with_none
  k_fill
  intro KX
  x_run
end
section
local macro_rules | `(tactic| x_close) => `(tactic| exact end_fin (by assumption) (by assumption))
set_option maxRecDepth 100000 in
set_option maxHeartbeats 8000000 in
theorem endX (w : World) (s : Shared) (KX : (K2 w.params).In s.heap) (f1 c cs : Addr) (n : Int) (t tq : Tok) (ct v0 : Value) (vr : List Value) (od : Option Addr) (osl : Array (Option Value))
   (hf : s.heap.get? f1 = some ⟨.type "function", none, .func (lamFd 5 3 hitQ [("place", c)] (.ref cs) ct), #[]⟩)
   (hc : s.heap.get? c = some ⟨.type "cell", none, .cell (some (.int n t)), #[]⟩)
   (hcs : s.heap.get? cs = some ⟨.type "code", od, .fields ⟨v0 :: .str hitQ tq :: vr⟩, osl⟩)
   (Q : Value → Shared → Prop) (E : Value → Shared → Prop)
   (hQ : Kont (∀ (h' : Heap) (tk : Nat) (t' : Tok), (∀ b o, s.heap.get? b = some o → h'.get? b = some o) → Q (.int (n + 1) t') { s with heap := h', toks := tk })) :
    wpAny (model (PySem.Challenge.rw_ph0011_02.row.prog) w) { depth := 900, units := 900 } (call (.ref f1) []) Q E s := by
  revert KX
  k_with_none
  k_fill
  intro KX
  x_run
end
end Mine
end
section
open PySem PySem.W PySem.W.X PyProof.Rows PySem.Spec PySem.Calls
set_option Elab.async false
namespace Mine
noncomputable def KFE : Params → Frag := fun P => [(nat_lit 2, objAt P 2), (nat_lit 3, objAt P 3), (nat_lit 37, tabObj #[]), (nat_lit 41, objAt P 41), (nat_lit 42, objAt P 42)]
noncomputable def KFF : Params → Frag := fun P => [(nat_lit 2, objAt P 2), (nat_lit 3, objAt P 3), (nat_lit 41, objAt P 41), (nat_lit 42, objAt P 42)]

noncomputable def searchDef : Arguments × List Stmt × Scope := match (stmtsOf 6).head? with
  | some (Stmt.FunctionDef _ a b _ _ _ sc _ _ _) => (a, b, sc)
  | _ => default
noncomputable def finderQ : PySem.Str := "_law_finder.<locals>.<lambda>"
noncomputable def searchQ : PySem.Str := "_law_finder.<locals>._law_search"
noncomputable def searchFd (cu cg dt : Addr) (code ct : Value) : FuncData :=
  { name := "_law_search", qualname := searchQ, params := searchDef.1, body := .stmts searchDef.2.1, scope := searchDef.2.2, globals := 3, closure := [("given", cg), ("front", cu)], defaults := .ref dt, kwdefaults := .none, pyModule := .str "law_ph0011_02" 214, code := code, closureTuple := ct, builtins := 0 }
structure FinderAt (P : Addr × Obj → Prop) (ff : Addr) (x : PySem.Str) (gl : Addr) (cS cL : Value) (df fs dt cu cg : Addr) (tx t0 : Tok) (ct : Value) (h1 : Int) (t1 : Tok) : Prop where
  fn : P (ff, lamObj 6 1 finderQ [] cL .none (some df))
  dict : P (df, ⟨.type "dict", none, .dict #[strEntry h1 "search" t1 (.ref fs)] 1, #[]⟩)
  search : P (fs, ⟨.type "function", none, .func (searchFd cu cg dt cS ct), #[]⟩)
  dflt : P (dt, ⟨.type "tuple", none, .seq #[.int 0 t0] 0, #[]⟩)
  front : P (cu, cellObj (.str x tx))
  given : P (cg, cellObj (.ref gl))
noncomputable def FinderIn (P : Addr × Obj → Prop) (ff : Addr) (x : PySem.Str) (gl : Addr) (cS cL : Value) : Prop :=
  ∃ df fs dt cu cg tx t0 ct h1 t1, FinderAt P ff x gl cS cL df fs dt cu cg tx t0 ct h1 t1
noncomputable def fullTab2 (c1 c2 : Value) : Array Value := #[rawInt 35, rawInt 4, c1, rawInt 41, rawInt 13, c2]
noncomputable abbrev FinLen (news : List (Addr × Obj)) (i0 i1 i2 i3 i4 i5 : Nat) : Prop := [Nat.blt i0 news.length, Nat.blt i1 news.length, Nat.blt i2 news.length, Nat.blt i3 news.length, Nat.blt i4 news.length, Nat.blt i5 news.length] = [true, true, true, true, true, true]
noncomputable abbrev FinObs (news : List (Addr × Obj)) (i0 i1 i2 i3 i4 i5 : Nat) (x : PySem.Str) (gl : Addr) (cS cL : Value) : Prop := [obA news i0, obA news i1, obA news i2, obA news i3, obA news i4, obA news i5] =
  [lamObj 6 1 finderQ [] cL .none (some (adA news i1)), ⟨.type "dict", none, .dict #[strEntry (hashAt (obA news i1) 0) "search" (tokAt (obA news i1) 0) (.ref (adA news i2))] 1, #[]⟩, ⟨.type "function", none, .func (searchFd (adA news i4) (adA news i5) (adA news i3) cS (ctOf (obA news i2))), #[]⟩,
    ⟨.type "tuple", none, .seq #[.int 0 (tokOf (seqAt (obA news i3) 0))] 0, #[]⟩, cellObj (.str x (cellTok (obA news i4))), cellObj (.ref gl)]
theorem finderEnd {h₀ h : Heap} {chg news : List (Addr × Obj)} (D : Mem h₀ h chg news) (i0 i1 i2 i3 i4 i5 : Nat) {x : PySem.Str} {gl : Addr} {cS cL : Value}
    (hl : FinLen news i0 i1 i2 i3 i4 i5) (k : FinObs news i0 i1 i2 i3 i4 i5 x gl cS cL) : FinderIn (fun p => h.get? p.1 = some p.2 ∧ h₀.get? p.1 = none) (adA news i0) x gl cS cL := by
  simp only [FinLen, List.cons.injEq, and_true] at hl
  simp only [FinObs, List.cons.injEq, and_true] at k
  obtain ⟨l0, l1, l2, l3, l4, l5⟩ := hl
  obtain ⟨k0, k1, k2, k3, k4, k5⟩ := k
  exact ⟨adA news i1, adA news i2, adA news i3, adA news i4, adA news i5, _, _, _, _, _, memAt D i0 l0 k0, memAt D i1 l1 k1, memAt D i2 l2 k2, memAt D i3 l3 k3, memAt D i4 l4 k4, memAt D i5 l5 k5⟩
theorem finderE_fin {s : Shared} {x : PySem.Str} {gl : Addr} {ff P : Addr} {o : Obj} {Q : Value → Shared → Prop} {h : Heap} {news : List (Addr × Obj)} {tk : Nat}
   (hQ : Kont (∀ (ff : Addr) (h' : Heap) (tk : Nat) (c1 c2 : Addr), (∀ b o, s.heap.get? b = some o → b ≠ 37 → h'.get? b = some o) →
     h'.get? 37 = some (tabObj (fullTab2 (.ref c1) (.ref c2))) →
     (∃ o, (h'.get? c1 = some o ∧ s.heap.get? c1 = none) ∧ CodeP o searchQ) → (∃ o, (h'.get? c2 = some o ∧ s.heap.get? c2 = none) ∧ CodeP o finderQ) →
     FinderIn (fun p => h'.get? p.1 = some p.2 ∧ s.heap.get? p.1 = none) ff x gl (.ref c1) (.ref c2) → Q (.ref ff) { s with heap := h', toks := tk }))
   (D : Mem s.heap h [(P, o)] news) (hP : (37 : Addr) = P) (ha : adA news 1 = ff) (hl : FinLen news 1 0 8 16 18 17) (k : FinObs news 1 0 8 16 18 17 x gl (.ref (adA news 9)) (.ref (adA news 2)))
   (ht : o = tabObj (fullTab2 (.ref (adA news 9)) (.ref (adA news 2)))) (hb : [Nat.blt 9 news.length, Nat.blt 2 news.length] = [true, true])
   (hc : [((obA news 9).cls, (obA news 9).data, (codeVs (obA news 9))[1]?), ((obA news 2).cls, (obA news 2).data, (codeVs (obA news 2))[1]?)] = [(Value.type "code", .fields (codeVs (obA news 9)), some (.str searchQ (codeTok (obA news 9)))), (Value.type "code", .fields (codeVs (obA news 2)), some (.str finderQ (codeTok (obA news 2))))]) :
   Q (.ref ff) { s with heap := h, toks := tk } := by
  subst ha
  subst hP
  simp only [List.cons.injEq, and_true] at hb hc
  exact hQ.out _ _ _ _ _ (fun b o e hb => Mem.keep D b o e (awayOne hb)) (tabEnd D ht) ⟨_, memAt D 9 hb.1 rfl, codeP_of hc.1⟩ ⟨_, memAt D 2 hb.2 rfl, codeP_of hc.2⟩ (finderEnd D 1 0 8 16 18 17 hl k)
theorem finderF_fin {s : Shared} {x : PySem.Str} {gl : Addr} {ff c1 c2 : Addr} {Q : Value → Shared → Prop} {h : Heap} {news : List (Addr × Obj)} {tk : Nat}
   (hQ : Kont (∀ (ff : Addr) (h' : Heap) (tk : Nat), (∀ b o, s.heap.get? b = some o → h'.get? b = some o) →
     FinderIn (fun p => h'.get? p.1 = some p.2 ∧ s.heap.get? p.1 = none) ff x gl (.ref c1) (.ref c2) → Q (.ref ff) { s with heap := h', toks := tk }))
   (D : Mem s.heap h [] news) (ha : adA news 1 = ff) (hl : FinLen news 1 0 2 4 6 5) (k : FinObs news 1 0 2 4 6 5 x gl (.ref c1) (.ref c2)) : Q (.ref ff) { s with heap := h, toks := tk } := by
  subst ha
  exact hQ.out _ _ _ (fun b o e => Mem.keep D b o e (by simp [away])) (finderEnd D 1 0 2 4 6 5 hl k)
section
local macro_rules | `(tactic| x_close) => `(tactic| (refine finderE_fin (by assumption) (by assumption) ?_ ?_ ?_ ?_ ?_ ?_ ?_ <;> kernel_rfl))
set_option maxRecDepth 100000 in
set_option maxHeartbeats 8000000 in
theorem finderE (w : World) (s : Shared) (KX : (KFE w.params).In s.heap) (x : PySem.Str) (gl : Addr) (tx : Tok) (sl : Array (Option Value))
   (h4 : s.heap.get? (nat_lit 4) = some ⟨.type "module", some (nat_lit 0), .plain, sl⟩)
   (Q : Value → Shared → Prop) (E : Value → Shared → Prop)
   (hQ : Kont (∀ (ff : Addr) (h' : Heap) (tk : Nat) (c1 c2 : Addr), (∀ b o, s.heap.get? b = some o → b ≠ 37 → h'.get? b = some o) →
     h'.get? 37 = some (tabObj (fullTab2 (.ref c1) (.ref c2))) →
     (∃ o, (h'.get? c1 = some o ∧ s.heap.get? c1 = none) ∧ CodeP o searchQ) → (∃ o, (h'.get? c2 = some o ∧ s.heap.get? c2 = none) ∧ CodeP o finderQ) →
     FinderIn (fun p => h'.get? p.1 = some p.2 ∧ s.heap.get? p.1 = none) ff x gl (.ref c1) (.ref c2) → Q (.ref ff) { s with heap := h', toks := tk })) :
    wpAny (model (PySem.Challenge.rw_ph0011_02.row.prog) w) { depth := 900, units := 900 } (call (.ref 42) [.str x tx, .ref gl]) Q E s := by
  revert KX
  k_with_none
  k_fill
  intro KX
  x_run
end
section
local macro_rules | `(tactic| x_close) => `(tactic| (refine finderF_fin (by assumption) (by assumption) ?_ ?_ ?_ <;> kernel_rfl))
set_option maxRecDepth 100000 in
set_option maxHeartbeats 8000000 in
theorem finderF (w : World) (s : Shared) (KX : (KFF w.params).In s.heap) (x : PySem.Str) (gl : Addr) (tx : Tok) (sl : Array (Option Value)) (c1 c2 : Addr)
   (h4 : s.heap.get? (nat_lit 4) = some ⟨.type "module", some (nat_lit 0), .plain, sl⟩)
   (h37 : s.heap.get? (nat_lit 37) = some ⟨.none, none, .fields (fullTab2 (.ref c1) (.ref c2)), #[]⟩)
   (Q : Value → Shared → Prop) (E : Value → Shared → Prop)
   (hQ : Kont (∀ (ff : Addr) (h' : Heap) (tk : Nat), (∀ b o, s.heap.get? b = some o → h'.get? b = some o) →
     FinderIn (fun p => h'.get? p.1 = some p.2 ∧ s.heap.get? p.1 = none) ff x gl (.ref c1) (.ref c2) → Q (.ref ff) { s with heap := h', toks := tk })) :
    wpAny (model (PySem.Challenge.rw_ph0011_02.row.prog) w) { depth := 900, units := 900 } (call (.ref 42) [.str x tx, .ref gl]) Q E s := by
  revert KX
  k_with_none
  k_fill
  intro KX
  x_run
end
end Mine
end
section
open PySem PySem.W PySem.W.X PyProof.Rows PySem.Spec PySem.Calls
set_option Elab.async false
set_option maxRecDepth 100000
namespace Mine

theorem wpAny_top {α : Type} {M : Model} {A : Around} {t : Sem α} {Q : α → Shared → Prop} {E : Value → Shared → Prop} {s : Shared} (h : wpAny M { depth := 900, units := 900 } t Q E s)
    (hh : A.handled = none) (hd : A.depth ≤ 900) (hu : A.units ≤ 900) : wpAny M A t Q E s := fun Γ p hΓ =>
  h Γ p ⟨hΓ.1.trans hh, Nat.le_trans hΓ.2.1 hd, fun l hl => (by cases hl), fun g hg => (by cases hg), Nat.le_trans hΓ.2.2.2.2 hu⟩
theorem K_at (P : Params) (h : Heap) (X : (hd.heap_39 P).In h) (a : Addr) (e : (List.lookup a (hd.heap_39 P)).isSome = true) : h.get? a = some (objAt P a) := by
  unfold objAt
  cases q : List.lookup a (hd.heap_39 P) with
  | none => rw [q] at e; cases e
  | some o => exact X a o q
theorem KF_in {P : Params} {h : Heap} (X : (hd.heap_39 P).In h) : (KF P).In h := by
  intro a o e
  unfold KF at e
  simp only [List.lookup_cons, List.lookup_nil] at e
  repeat' split at e
  all_goals first
    | (rename_i q; have q' := beq_iff_eq.mp q; subst q'; cases e; exact K_at P h X _ (by kernel_rfl))
    | cases e
theorem KH_in {P : Params} {h : Heap} (X : (hd.heap_39 P).In h) (h30 : h.get? 30 = some (tabObj #[])) : (KH P).In h := by
  intro a o e
  unfold KH at e
  simp only [List.lookup_cons, List.lookup_nil] at e
  repeat' split at e
  all_goals first
    | (rename_i q; have q' := beq_iff_eq.mp q; subst q'; cases e; first | exact h30 | exact K_at P h X _ (by kernel_rfl))
    | cases e
theorem KFF_in {P : Params} {h : Heap} (X : (hd.heap_39 P).In h) : (KFF P).In h := by
  intro a o e
  unfold KFF at e
  simp only [List.lookup_cons, List.lookup_nil] at e
  repeat' split at e
  all_goals first
    | (rename_i q; have q' := beq_iff_eq.mp q; subst q'; cases e; exact K_at P h X _ (by kernel_rfl))
    | cases e
theorem KFE_in {P : Params} {h : Heap} (X : (hd.heap_39 P).In h) (h37 : h.get? 37 = some (tabObj #[])) : (KFE P).In h := by
  intro a o e
  unfold KFE at e
  simp only [List.lookup_cons, List.lookup_nil] at e
  repeat' split at e
  all_goals first
    | (rename_i q; have q' := beq_iff_eq.mp q; subst q'; cases e; first | exact h37 | exact K_at P h X _ (by kernel_rfl))
    | cases e
theorem K2_in {P : Params} {h : Heap} (X : (hd.heap_39 P).In h) : (K2 P).In h := by
  intro a o e
  unfold K2 at e
  simp only [List.lookup_cons, List.lookup_nil] at e
  repeat' split at e
  all_goals first
    | (rename_i q; have q' := beq_iff_eq.mp q; subst q'; cases e; exact K_at P h X _ (by kernel_rfl))
    | cases e
theorem mod4 {P : Params} {p : Program} {loose : List PySem.Str} {mean : ExcName → Option Value} {mg mb : PySem.Str → Option Value} {h : Heap} (X : (hd.heap_39 P).In h) (T : Top p loose mean mg mb h) : ∃ sl, h.get? 4 = some ⟨.type "module", some 0, .plain, sl⟩ := by
  obtain ⟨bm, ob, h1, _, h3, h4, h5, h6⟩ := T.bmain
  have e : mg "__builtins__" = some (.ref 4) := mg_of X T.g (by kernel_rfl)
  rw [e] at h1
  cases h1
  obtain ⟨c, d, dt, sl⟩ := ob
  (try dsimp only at h4); (try dsimp only at h5); (try dsimp only at h6)
  subst h4 h5 h6
  exact ⟨sl, h3⟩
end Mine
end
section
open PySem PySem.W PySem.W.X PyProof.Rows PySem.Spec PySem.Calls
set_option Elab.async false
set_option maxRecDepth 100000
namespace Mine
/-- the two code tables' states, and what else the ledger bears -/
structure TV (ps qs : Array Value) (news : List (Addr × Obj)) : Prop where
  hit : ps = #[] ∨ ∃ c1 c2 c3 c4, ps = fullTab (.ref c1) (.ref c2) (.ref c3) (.ref c4) ∧ CodesIn (· ∈ news) hitQ [c1, c2, c3, c4]
  fnd : qs = #[] ∨ ∃ c1 c2, qs = fullTab2 (.ref c1) (.ref c2) ∧ CodesIn (· ∈ news) searchQ [c1] ∧ CodesIn (· ∈ news) finderQ [c2]
  off : ∀ p ∈ news, p.1 ≠ 30 ∧ p.1 ≠ 37
theorem CodesIn.mono {P P' : Addr × Obj → Prop} {q : PySem.Str} {xs : List Addr} (h : CodesIn P q xs) (hp : ∀ p, P p → P' p) : CodesIn P' q xs := fun x hx => let ⟨o, h1, h2⟩ := h x hx; ⟨o, hp _ h1, h2⟩
theorem TV.more {ps qs : Array Value} {news ex : List (Addr × Obj)} (h : TV ps qs news) (ho : ∀ p ∈ ex, p.1 ≠ 30 ∧ p.1 ≠ 37) : TV ps qs (ex ++ news) :=
  ⟨h.hit.imp id fun ⟨c1, c2, c3, c4, e, k⟩ => ⟨c1, c2, c3, c4, e, k.mono fun _ => List.mem_append_right _⟩, h.fnd.imp id fun ⟨c1, c2, e, k, k'⟩ => ⟨c1, c2, e, k.mono fun _ => List.mem_append_right _, k'.mono fun _ => List.mem_append_right _⟩,
    fun p hp => (List.mem_append.mp hp).elim (ho p) (h.off p)⟩
theorem HitAt.mono {P P' : Addr × Obj → Prop} {a n c1 c2 c3 c4 d f1 f2 f3 c t ct1 ct2 ct3 h1 h2 h3 t1 t2 t3} (h : HitAt P a n c1 c2 c3 c4 d f1 f2 f3 c t ct1 ct2 ct3 h1 h2 h3 t1 t2 t3) (hp : ∀ p, P p → P' p) : HitAt P' a n c1 c2 c3 c4 d f1 f2 f3 c t ct1 ct2 ct3 h1 h2 h3 t1 t2 t3 :=
  ⟨hp _ h.fn, hp _ h.dict, hp _ h.span, hp _ h.start, hp _ h.ende, hp _ h.cell⟩

/-- apart by address -/
noncomputable def Dj (ex news : List (Addr × Obj)) : Prop := ∀ p ∈ ex, ∀ q ∈ news, p.1 ≠ q.1
theorem Dj.nil (news : List (Addr × Obj)) : Dj [] news := fun p hp => nomatch hp
theorem Dj.comp {a b c : List (Addr × Obj)} (h : Dj a (b ++ c)) (h' : Dj b c) : Dj (a ++ b) c := fun p hp q hq =>
  (List.mem_append.mp hp).elim (fun h1 => h p h1 q (List.mem_append_right _ hq)) fun h1 => h' p h1 q hq
theorem newDj {h₀ h h' : Heap} {L : Addr} {led ex news : List (Addr × Obj)} (he : ∀ p ∈ ex, h'.get? p.1 = some p.2 ∧ h.get? p.1 = none) (N : News h₀ L h led) (hs : ∀ q ∈ news, q ∈ led) : Dj ex news := fun p hp q hq e => by
  have h1 := (he p hp).2
  have h2 := (N q (hs q hq)).1
  rw [e, h2] at h1; cases h1
noncomputable abbrev CtrT (w : World) (p : Program) (loose : List PySem.Str) (mean : ExcName → Option Value) (mg mb : PySem.Str → Option Value) (k : Nat) (f : Addr) (vs : List Value) (pre : List (Addr × Obj) → Prop) (Post : Value → List (Addr × Obj) → Prop) : Prop :=
  ∀ (ps qs : Array Value) (news : List (Addr × Obj)) (dp un : Nat) (gd : Option (List Code)) (cn : PySem.Str) (cs : Scope) (a : Addr) (ccd : Value) (cl : List (PySem.Str × Addr)) (outer : List Env) (A₀ : Around) (base h₀ : Heap) (L : Addr) (m : PySem.Str → Option Value) (s : Shared) (Q E : Value → Shared → Prop),
    Below A₀ base outer h₀ → Fr h₀ L s.heap m → (hd.heap_39 w.params).In h₀ → News h₀ L s.heap ((30, tabObj ps) :: (37, tabObj qs) :: news) → TV ps qs news → Top p loose mean mg mb h₀ → cs.kind = .function → pre news →
    dp + k ≤ 900 → un + 20 * k ≤ 900 → (∀ v ps' qs' ex h' tk', Fr h₀ L h' m → News h₀ L h' ((30, tabObj ps') :: (37, tabObj qs') :: (ex ++ news)) → TV ps' qs' (ex ++ news) → Dj ex news → Post v (ex ++ news) → Q v { s with heap := h', toks := tk' }) →
      wpAny (model PySem.Challenge.rw_ph0011_02.row.prog w) (ktrTop dp un gd cn cs L a ccd cl outer) (call (.ref f) vs) Q E s

theorem keepExt {h₀ h h' : Heap} {L : Addr} {m : PySem.Str → Option Value} {led ex : List (Addr × Obj)} (F : Fr h₀ L h m) (N : News h₀ L h led) (k : ∀ b o, h.get? b = some o → h'.get? b = some o)
    (he : ∀ p ∈ ex, h'.get? p.1 = some p.2 ∧ h.get? p.1 = none) : Fr h₀ L h' m ∧ News h₀ L h' (ex ++ led) := by
  obtain ⟨oL, a1, a2, hL, a3⟩ := F.ns
  refine ⟨⟨⟨oL, a1, a2, k _ _ hL, a3⟩, fun b o e => k b o (F.keep b o e), F.above⟩, fun p hp => ?_⟩
  rcases List.mem_append.mp hp with hp | hp
  · have q := he p hp
    refine ⟨q.1, fun e => ?_, ?_⟩
    · have q2 := q.2; rw [e, hL] at q2; cases q2
    · cases z : h₀.get? p.1 with
      | none => rfl
      | some o => have q2 := q.2; rw [F.keep _ _ z] at q2; cases q2
  · exact ⟨k _ _ (N p hp).1, (N p hp).2⟩
theorem keepExtBut {h₀ h h' : Heap} {L P : Addr} {m : PySem.Str → Option Value} {o o' : Obj} {led ex : List (Addr × Obj)} (F : Fr h₀ L h m) (N : News h₀ L h ((P, o) :: led)) (hoff : ∀ p ∈ led, p.1 ≠ P) (k : ∀ b o, h.get? b = some o → b ≠ P → h'.get? b = some o) (hP : h'.get? P = some o')
    (he : ∀ p ∈ ex, h'.get? p.1 = some p.2 ∧ h.get? p.1 = none) : Fr h₀ L h' m ∧ News h₀ L h' ((P, o') :: (ex ++ led)) := by
  obtain ⟨oL, a1, a2, hL, a3⟩ := F.ns
  have NP := N (P, o) (.head _)
  refine ⟨⟨⟨oL, a1, a2, k _ _ hL (Ne.symm NP.2.1), a3⟩, fun b ob e => k b ob (F.keep b ob e) (fun q => ?_), F.above⟩, fun p hp => ?_⟩
  · rw [q] at e; have := NP.2.2; rw [e] at this; cases this
  · rcases List.mem_cons.mp hp with rfl | hp
    · exact ⟨hP, NP.2⟩
    · rcases List.mem_append.mp hp with hp | hp
      · have q := he p hp
        refine ⟨q.1, fun e => ?_, ?_⟩
        · have q2 := q.2; rw [e, hL] at q2; cases q2
        · cases z : h₀.get? p.1 with
          | none => rfl
          | some ob => have q2 := q.2; rw [F.keep _ _ z] at q2; cases q2
      · have q := N p (.tail _ hp)
        exact ⟨k _ _ q.1 (hoff p hp), q.2⟩
theorem newOff {h : Heap} {led ex : List (Addr × Obj)} {h' : Heap} {P : Addr} {o : Obj} (hP : h.get? P = some o) (he : ∀ p ∈ ex, h'.get? p.1 = some p.2 ∧ h.get? p.1 = none) : ∀ p ∈ ex, p.1 ≠ P := fun p hp e => by
  have := (he p hp).2; rw [e, hP] at this; cases this

theorem perm1 {α : Type} {x y p : α} {ex news : List α} (h : p ∈ x :: y :: (ex ++ news)) : p ∈ x :: (ex ++ (y :: news)) := by
  simp only [List.mem_cons, List.mem_append] at h ⊢
  rcases h with h | h | h | h
  · exact .inl h
  · exact .inr (.inr (.inl h))
  · exact .inr (.inl h)
  · exact .inr (.inr (.inr h))
theorem perm2 {α : Type} {x y p : α} {ex news : List α} (h : p ∈ x :: y :: (ex ++ news)) : p ∈ ex ++ (x :: y :: news) := by
  simp only [List.mem_cons, List.mem_append] at h ⊢
  rcases h with h | h | h | h
  · exact .inr (.inl h)
  · exact .inr (.inr (.inl h))
  · exact .inl h
  · exact .inr (.inr (.inr h))
noncomputable def HitPost (n : Int) (v : Value) (led : List (Addr × Obj)) : Prop := ∃ a c1 c2 c3 c4, v = .ref a ∧ HitIn (· ∈ led) a n (.ref c1) (.ref c2) (.ref c3) (.ref c4) ∧ CodesIn (· ∈ led) hitQ [c1, c2, c3, c4]

theorem hitT (w : World) (p : Program) (loose : List PySem.Str) (mean : ExcName → Option Value) (mg mb : PySem.Str → Option Value) (n : Int) (t : Tok) : CtrT w p loose mean mg mb 5 35 [.int n t] (fun _ => True) (HitPost n) := by
  intro ps qs news dp un gd cn cs a ccd cl outer A₀ base h₀ L m s Q E hB hF hK hN hV hT hcs hpre hdp hun hret
  have X : (hd.heap_39 w.params).In s.heap := fun b o e => hF.keep _ _ (hK b o e)
  obtain ⟨sl, m4⟩ := mod4 hK hT
  have h4 := hF.keep _ _ m4
  have h30 := (hN (30, tabObj ps) (.head _)).1
  have h37 := (hN (37, tabObj qs) (.tail _ (.head _))).1
  refine wpAny_top ?_ rfl (by show dp ≤ 900; omega) (by show un ≤ 900; omega)
  rcases hV.hit with rfl | ⟨c1, c2, c3, c4, rfl, hc⟩
  · refine hitE w s (KH_in X h30) n t sl h4 Q E ⟨fun a h' tk c1 c2 c3 c4 hk ht hcs hh => ?_⟩
    obtain ⟨d, f1, f2, f3, c, t', ct1, ct2, ct3, k1, k2, k3, t1, t2, t3, H⟩ := hh
    obtain ⟨o1, p1, q1⟩ := hcs c1 (by simp)
    obtain ⟨o2, p2, q2⟩ := hcs c2 (by simp)
    obtain ⟨o3, p3, q3⟩ := hcs c3 (by simp)
    obtain ⟨o4, p4, q4⟩ := hcs c4 (by simp)
    let ex : List (Addr × Obj) := [(a, lamObj 5 0 hitQ [] (.ref c1) .none (some d)), (d, ⟨.type "dict", none, .dict #[strEntry k1 "span" t1 (.ref f1), strEntry k2 "start" t2 (.ref f2), strEntry k3 "end" t3 (.ref f3)] 3, #[]⟩), (f1, lamObj 5 1 hitQ [("place", c)] (.ref c2) ct1 none),
      (f2, lamObj 5 2 hitQ [("place", c)] (.ref c3) ct2 none), (f3, lamObj 5 3 hitQ [("place", c)] (.ref c4) ct3 none), (c, cellObj (.int n t')), (c1, o1), (c2, o2), (c3, o3), (c4, o4)]
    have he : ∀ p ∈ ex, h'.get? p.1 = some p.2 ∧ s.heap.get? p.1 = none :=
      List.forall_mem_cons.mpr ⟨H.fn, List.forall_mem_cons.mpr ⟨H.dict, List.forall_mem_cons.mpr ⟨H.span, List.forall_mem_cons.mpr ⟨H.start, List.forall_mem_cons.mpr ⟨H.ende, List.forall_mem_cons.mpr ⟨H.cell, List.forall_mem_cons.mpr ⟨p1, List.forall_mem_cons.mpr ⟨p2, List.forall_mem_cons.mpr ⟨p3, List.forall_mem_cons.mpr ⟨p4, List.forall_mem_nil _⟩⟩⟩⟩⟩⟩⟩⟩⟩⟩
    have hN' : News h₀ L s.heap ((30, tabObj #[]) :: ((37, tabObj qs) :: news)) := hN
    have off30 : ∀ p ∈ ((37, tabObj qs) :: news : List (Addr × Obj)), p.1 ≠ 30 := by
      intro p hp
      rcases List.mem_cons.mp hp with rfl | hp
      · show (37 : Nat) ≠ 30; decide
      · exact (hV.off p hp).1
    obtain ⟨F', N'⟩ := keepExtBut hF hN' off30 hk ht he
    have o30 := newOff (led := news) h30 he
    have o37 := newOff (led := news) h37 he
    refine hret _ _ qs ex h' tk F' (fun p hp => N' p (perm1 hp)) ⟨.inr ⟨c1, c2, c3, c4, rfl, ?_⟩, ?_, ?_⟩ (newDj he hN fun q hq => .tail _ (.tail _ hq)) ⟨a, c1, c2, c3, c4, rfl, ?_, ?_⟩
    · exact codes4 (o1 := o1) (o2 := o2) (o3 := o3) (o4 := o4) (List.mem_append_left _ (by simp [ex])) (List.mem_append_left _ (by simp [ex])) (List.mem_append_left _ (by simp [ex])) (List.mem_append_left _ (by simp [ex])) q1 q2 q3 q4
    · exact (hV.more (ex := ex) fun p hp => ⟨o30 p hp, o37 p hp⟩).fnd
    · exact (hV.more (ex := ex) fun p hp => ⟨o30 p hp, o37 p hp⟩).off
    · exact ⟨d, f1, f2, f3, c, t', ct1, ct2, ct3, k1, k2, k3, t1, t2, t3, ⟨List.mem_append_left _ (by simp [ex]), List.mem_append_left _ (by simp [ex]), List.mem_append_left _ (by simp [ex]), List.mem_append_left _ (by simp [ex]), List.mem_append_left _ (by simp [ex]), List.mem_append_left _ (by simp [ex])⟩⟩
    · exact codes4 (o1 := o1) (o2 := o2) (o3 := o3) (o4 := o4) (List.mem_append_left _ (by simp [ex])) (List.mem_append_left _ (by simp [ex])) (List.mem_append_left _ (by simp [ex])) (List.mem_append_left _ (by simp [ex])) q1 q2 q3 q4
  · refine hitF w s (KF_in X) n t sl c1 c2 c3 c4 h4 h30 Q E ⟨fun a h' tk hk hh => ?_⟩
    obtain ⟨d, f1, f2, f3, c, t', ct1, ct2, ct3, k1, k2, k3, t1, t2, t3, H⟩ := hh
    let ex : List (Addr × Obj) := [(a, lamObj 5 0 hitQ [] (.ref c1) .none (some d)), (d, ⟨.type "dict", none, .dict #[strEntry k1 "span" t1 (.ref f1), strEntry k2 "start" t2 (.ref f2), strEntry k3 "end" t3 (.ref f3)] 3, #[]⟩), (f1, lamObj 5 1 hitQ [("place", c)] (.ref c2) ct1 none),
      (f2, lamObj 5 2 hitQ [("place", c)] (.ref c3) ct2 none), (f3, lamObj 5 3 hitQ [("place", c)] (.ref c4) ct3 none), (c, cellObj (.int n t'))]
    have he : ∀ p ∈ ex, h'.get? p.1 = some p.2 ∧ s.heap.get? p.1 = none :=
      List.forall_mem_cons.mpr ⟨H.fn, List.forall_mem_cons.mpr ⟨H.dict, List.forall_mem_cons.mpr ⟨H.span, List.forall_mem_cons.mpr ⟨H.start, List.forall_mem_cons.mpr ⟨H.ende, List.forall_mem_cons.mpr ⟨H.cell, List.forall_mem_nil _⟩⟩⟩⟩⟩⟩
    obtain ⟨F', N'⟩ := keepExt hF hN hk he
    have o30 := newOff (led := news) h30 he
    have o37 := newOff (led := news) h37 he
    refine hret _ _ qs ex h' tk F' (fun p hp => N' p (perm2 hp)) (hV.more (ex := ex) fun p hp => ⟨o30 p hp, o37 p hp⟩) (newDj he hN fun q hq => .tail _ (.tail _ hq)) ⟨a, c1, c2, c3, c4, rfl, ?_, hc.mono fun _ => List.mem_append_right _⟩
    · exact ⟨d, f1, f2, f3, c, t', ct1, ct2, ct3, k1, k2, k3, t1, t2, t3, ⟨List.mem_append_left _ (by simp [ex]), List.mem_append_left _ (by simp [ex]), List.mem_append_left _ (by simp [ex]), List.mem_append_left _ (by simp [ex]), List.mem_append_left _ (by simp [ex]), List.mem_append_left _ (by simp [ex])⟩⟩
end Mine
end
section
open PySem PySem.W PySem.W.X PyProof.Rows PySem.Spec PySem.Calls
set_option Elab.async false
set_option maxRecDepth 100000
namespace Mine
noncomputable def FinderPost (x : PySem.Str) (gl : Addr) (v : Value) (led : List (Addr × Obj)) : Prop := ∃ ff c1 c2, v = .ref ff ∧ FinderIn (· ∈ led) ff x gl (.ref c1) (.ref c2) ∧ CodesIn (· ∈ led) searchQ [c1]
theorem codes1 {P : Addr × Obj → Prop} {q : PySem.Str} {x1 : Addr} {o1 : Obj} (h1 : P (x1, o1)) (k1 : CodeP o1 q) : CodesIn P q [x1] := by
  intro x hx
  simp only [List.mem_cons, List.not_mem_nil, or_false] at hx
  subst hx
  exact ⟨_, h1, k1⟩
theorem finderT (w : World) (p : Program) (loose : List PySem.Str) (mean : ExcName → Option Value) (mg mb : PySem.Str → Option Value) (x : PySem.Str) (gl : Addr) (tx : Tok) : CtrT w p loose mean mg mb 5 42 [.str x tx, .ref gl] (fun _ => True) (FinderPost x gl) := by
  intro ps qs news dp un gd cn cs a ccd cl outer A₀ base h₀ L m s Q E hB hF hK hN hV hT hcs hpre hdp hun hret
  have X : (hd.heap_39 w.params).In s.heap := fun b o e => hF.keep _ _ (hK b o e)
  obtain ⟨sl, m4⟩ := mod4 hK hT
  have h4 := hF.keep _ _ m4
  have h30 := (hN (30, tabObj ps) (.head _)).1
  have h37 := (hN (37, tabObj qs) (.tail _ (.head _))).1
  refine wpAny_top ?_ rfl (by show dp ≤ 900; omega) (by show un ≤ 900; omega)
  rcases hV.fnd with rfl | ⟨c1, c2, rfl, hc, hc'⟩
  · refine finderE w s (KFE_in X h37) x gl tx sl h4 Q E ⟨fun ff h' tk c1 c2 hk ht hc1 hc2 hh => ?_⟩
    obtain ⟨df, fs, dt, cu, cg, tx', t0, ct, k1, t1, H⟩ := hh
    obtain ⟨o1, p1, q1⟩ := hc1
    obtain ⟨o2, p2, q2⟩ := hc2
    let ex : List (Addr × Obj) := [(ff, lamObj 6 1 finderQ [] (.ref c2) .none (some df)), (df, ⟨.type "dict", none, .dict #[strEntry k1 "search" t1 (.ref fs)] 1, #[]⟩), (fs, ⟨.type "function", none, .func (searchFd cu cg dt (.ref c1) ct), #[]⟩),
      (dt, ⟨.type "tuple", none, .seq #[.int 0 t0] 0, #[]⟩), (cu, cellObj (.str x tx')), (cg, cellObj (.ref gl)), (c1, o1), (c2, o2)]
    have he : ∀ p ∈ ex, h'.get? p.1 = some p.2 ∧ s.heap.get? p.1 = none :=
      List.forall_mem_cons.mpr ⟨H.fn, List.forall_mem_cons.mpr ⟨H.dict, List.forall_mem_cons.mpr ⟨H.search, List.forall_mem_cons.mpr ⟨H.dflt, List.forall_mem_cons.mpr ⟨H.front, List.forall_mem_cons.mpr ⟨H.given, List.forall_mem_cons.mpr ⟨p1, List.forall_mem_cons.mpr ⟨p2, List.forall_mem_nil _⟩⟩⟩⟩⟩⟩⟩⟩
    have hN' : News h₀ L s.heap ((37, tabObj #[]) :: ((30, tabObj ps) :: news)) := fun p hp => hN p (by simp only [List.mem_cons] at hp ⊢; rcases hp with h | h | h; exact .inr (.inl h); exact .inl h; exact .inr (.inr h))
    have off37 : ∀ p ∈ ((30, tabObj ps) :: news : List (Addr × Obj)), p.1 ≠ 37 := by
      intro p hp
      rcases List.mem_cons.mp hp with rfl | hp
      · show (30 : Nat) ≠ 37; decide
      · exact (hV.off p hp).2
    obtain ⟨F', N'⟩ := keepExtBut hF hN' off37 hk ht he
    have o30 := newOff (led := news) h30 he
    have o37 := newOff (led := news) h37 he
    have V' := hV.more (ex := ex) fun p hp => ⟨o30 p hp, o37 p hp⟩
    refine hret _ ps _ ex h' tk F' (fun p hp => N' p ?_) ⟨V'.hit, .inr ⟨c1, c2, rfl, codes1 (o1 := o1) (List.mem_append_left _ (by simp [ex])) q1, codes1 (o1 := o2) (List.mem_append_left _ (by simp [ex])) q2⟩, V'.off⟩ (newDj he hN fun q hq => .tail _ (.tail _ hq)) ⟨ff, c1, c2, rfl, ?_, codes1 (o1 := o1) (List.mem_append_left _ (by simp [ex])) q1⟩
    · simp only [List.mem_cons, List.mem_append] at hp ⊢
      rcases hp with h | h | h | h
      · exact .inr (.inr (.inl h))
      · exact .inl h
      · exact .inr (.inl h)
      · exact .inr (.inr (.inr h))
    · exact ⟨df, fs, dt, cu, cg, tx', t0, ct, k1, t1, ⟨List.mem_append_left _ (by simp [ex]), List.mem_append_left _ (by simp [ex]), List.mem_append_left _ (by simp [ex]), List.mem_append_left _ (by simp [ex]), List.mem_append_left _ (by simp [ex]), List.mem_append_left _ (by simp [ex])⟩⟩
  · refine finderF w s (KFF_in X) x gl tx sl c1 c2 h4 h37 Q E ⟨fun ff h' tk hk hh => ?_⟩
    obtain ⟨df, fs, dt, cu, cg, tx', t0, ct, k1, t1, H⟩ := hh
    let ex : List (Addr × Obj) := [(ff, lamObj 6 1 finderQ [] (.ref c2) .none (some df)), (df, ⟨.type "dict", none, .dict #[strEntry k1 "search" t1 (.ref fs)] 1, #[]⟩), (fs, ⟨.type "function", none, .func (searchFd cu cg dt (.ref c1) ct), #[]⟩),
      (dt, ⟨.type "tuple", none, .seq #[.int 0 t0] 0, #[]⟩), (cu, cellObj (.str x tx')), (cg, cellObj (.ref gl))]
    have he : ∀ p ∈ ex, h'.get? p.1 = some p.2 ∧ s.heap.get? p.1 = none :=
      List.forall_mem_cons.mpr ⟨H.fn, List.forall_mem_cons.mpr ⟨H.dict, List.forall_mem_cons.mpr ⟨H.search, List.forall_mem_cons.mpr ⟨H.dflt, List.forall_mem_cons.mpr ⟨H.front, List.forall_mem_cons.mpr ⟨H.given, List.forall_mem_nil _⟩⟩⟩⟩⟩⟩
    obtain ⟨F', N'⟩ := keepExt hF hN hk he
    have o30 := newOff (led := news) h30 he
    have o37 := newOff (led := news) h37 he
    refine hret _ ps _ ex h' tk F' (fun p hp => N' p (perm2 hp)) (hV.more (ex := ex) fun p hp => ⟨o30 p hp, o37 p hp⟩) (newDj he hN fun q hq => .tail _ (.tail _ hq)) ⟨ff, c1, c2, rfl, ?_, hc.mono fun _ => List.mem_append_right _⟩
    · exact ⟨df, fs, dt, cu, cg, tx', t0, ct, k1, t1, ⟨List.mem_append_left _ (by simp [ex]), List.mem_append_left _ (by simp [ex]), List.mem_append_left _ (by simp [ex]), List.mem_append_left _ (by simp [ex]), List.mem_append_left _ (by simp [ex]), List.mem_append_left _ (by simp [ex])⟩⟩
end Mine
end
section
open PySem PySem.W PySem.W.X PyProof.Rows PySem.Spec PySem.Calls
set_option Elab.async false
set_option maxRecDepth 100000
namespace Mine
theorem loadX_L {M : Model} {A : Around} {E : Value → Shared → Prop} {s : Shared} {h₀ : Heap} {L a : Addr} {m : PySem.Str → Option Value} {cn : PySem.Str} {cs : Scope} {ccd : Value} {cl : List (PySem.Str × Addr)} {x : PySem.Str} {v : Value} {Q : Value → Shared → Prop} (F : Fr h₀ L s.heap m) (hv : m x = some v) (h : Q v s)
    (hk : cs.kind = .function := by rfl) (hx : (envX cn cs L a ccd cl).kindOf x = some .local := by rfl) : wpAny M A (loadName (envX cn cs L a ccd cl) x) Q E s := wpAny_loadName_local hk hx F.ns hv h
local macro_rules | `(tactic| walk_at "eval Name") => `(tactic| ((with_reducible show wpAny _ _ (eval (PySem.Expr.Name _ _) (envX _ _ _ _ _ _)) _ _ _); first
  | (with_unfolding_all refine' nameX_L ?F ?v ?_ ?a ?b ?c; (case a => rfl); (case b => rfl); (case c => decide); (case F => assumption); (case v => rfl))
  | (with_unfolding_all refine' nameX_F ?N ?hc ?hm ?hd ?_ ?a ?b ?c ?d; (case a => rfl); (case b => rfl); (case c => decide); (case d => decide); (case N => assumption); (case hc => rfl); (case hm => k_mem); (case hd => rfl))))
noncomputable def startB (x : PySem.Str) (at0 : Int) : Int := if (0 : Int) > at0 - (x.length : Int) then (0 : Int) else at0 - (x.length : Int)
noncomputable def SPost (x chars : PySem.Str) (at0 : Int) (gvs : List Value) (v : Value) (gvs' : List Value) (led : List (Addr × Obj)) : Prop :=
  ((Txt.find3 chars x (startB x at0) < 0 ∨ (chars.length : Int) ≤ Txt.find3 chars x (startB x at0) + (x.length : Int)) ∧ v = .none ∧ gvs' = gvs) ∨
  (0 ≤ Txt.find3 chars x (startB x at0) ∧ Txt.find3 chars x (startB x at0) + (x.length : Int) < (chars.length : Int) ∧ ∃ h, v = .ref h ∧ gvs' = gvs ++ [.ref h] ∧ HitPost (Txt.find3 chars x (startB x at0) + (x.length : Int)) v led)
theorem item_neg {prog : Program} {w : World} {A : Around} {E : Value → Shared → Prop} {s : Shared} {value slice : PySem.Expr} {l : Addr} {items : Array Value} {k : Int} {u : Tok} {x : Value} {Q : Value → Shared → Prop} (hl : s.heap.IsList l items)
    (h0 : k < 0) (h1 : -(items.size : Int) ≤ k) (hfit : -(2 ^ 63) ≤ k) (hx : items[(k + items.size).toNat]? = some x) (h : Q x s)
    (hs : subscripted slice false (.ref l) (.int k u) = operate [.ref l, .int k u] (getItem (.ref l) (.int k u)) := by with_unfolding_all rfl) (hg : ∀ r, letTemporaryGo value (.ref l) r = pure () := by intro _; with_unfolding_all rfl) :
    wpAny (model prog w) A (subscriptTail value slice (.ref l) (.int k u)) Q E s :=
  subscriptTail_builtin hl.typeIs slot_list_getitem.lookup (wpAny_getItem_list_neg hl h0 h1 hfit hx h) hs hg
theorem CodesIn.subC {a b : List (Addr × Obj)} {q : PySem.Str} {xs : List Addr} (h : CodesIn (· ∈ a) q xs) (hs : ∀ p ∈ a, p.2.cls = .type "code" → p ∈ b) : CodesIn (· ∈ b) q xs := fun x hx => by
  obtain ⟨o, h1, h2⟩ := h x hx
  exact ⟨o, hs _ h1 h2.1, h2⟩
theorem TV.subC {ps qs : Array Value} {a b : List (Addr × Obj)} (h : TV ps qs a) (hs : ∀ p ∈ a, p.2.cls = .type "code" → p ∈ b) (ho : ∀ p ∈ b, p.1 ≠ 30 ∧ p.1 ≠ 37) : TV ps qs b :=
  ⟨h.hit.imp id fun ⟨c1, c2, c3, c4, e, k⟩ => ⟨c1, c2, c3, c4, e, k.subC hs⟩, h.fnd.imp id fun ⟨c1, c2, e, k, k'⟩ => ⟨c1, c2, e, k.subC hs, k'.subC hs⟩, ho⟩
theorem HitPost.subL {n : Int} {v : Value} {a b : List (Addr × Obj)} (h : HitPost n v a) (hs : ∀ p ∈ a, p.2.cls ≠ .type "list" → p ∈ b) : HitPost n v b := by
  obtain ⟨r, c1, c2, c3, c4, e, ⟨d, f1, f2, f3, c, t, ct1, ct2, ct3, h1, h2, h3, t1, t2, t3, H⟩, hc⟩ := h
  refine ⟨r, c1, c2, c3, c4, e, ⟨d, f1, f2, f3, c, t, ct1, ct2, ct3, h1, h2, h3, t1, t2, t3, ⟨hs _ H.fn ?_, hs _ H.dict ?_, hs _ H.span ?_, hs _ H.start ?_, hs _ H.ende ?_, hs _ H.cell ?_⟩⟩, hc.subC fun p hp hk => hs p hp (by rw [hk]; decide)⟩
  · show Value.type "function" ≠ Value.type "list"; decide
  · show Value.type "dict" ≠ Value.type "list"; decide
  · show Value.type "function" ≠ Value.type "list"; decide
  · show Value.type "function" ≠ Value.type "list"; decide
  · show Value.type "function" ≠ Value.type "list"; decide
  · show Value.type "cell" ≠ Value.type "list"; decide
/-- as CtrT, with the list at gl that the finder fills -/
noncomputable abbrev CtrG (w : World) (p : Program) (loose : List PySem.Str) (mean : ExcName → Option Value) (mg mb : PySem.Str → Option Value) (k : Nat) (f : Addr) (vs : List Value) (gl : Addr) (pre : List Value → List (Addr × Obj) → Prop) (Post : List Value → Value → List Value → List (Addr × Obj) → Prop) : Prop :=
  ∀ (gvs : List Value) (nn : Nat) (ps qs : Array Value) (news : List (Addr × Obj)) (dp un : Nat) (gd : Option (List Code)) (cn : PySem.Str) (cs : Scope) (a : Addr) (ccd : Value) (cl : List (PySem.Str × Addr)) (outer : List Env) (A₀ : Around) (base h₀ : Heap) (L : Addr) (m : PySem.Str → Option Value) (s : Shared) (Q E : Value → Shared → Prop),
    Below A₀ base outer h₀ → Fr h₀ L s.heap m → (hd.heap_39 w.params).In h₀ → News h₀ L s.heap ((30, tabObj ps) :: (37, tabObj qs) :: (gl, listOf gvs.toArray nn) :: news) → TV ps qs news → (∀ p ∈ news, p.1 ≠ gl) → gl ≠ 30 → gl ≠ 37 → Top p loose mean mg mb h₀ → cs.kind = .function → pre gvs news →
    dp + k ≤ 900 → un + 20 * k ≤ 900 → (∀ v gvs' nn' ps' qs' ex h' tk', Fr h₀ L h' m → News h₀ L h' ((30, tabObj ps') :: (37, tabObj qs') :: (gl, listOf gvs'.toArray nn') :: (ex ++ news)) → TV ps' qs' (ex ++ news) → Dj ex ((gl, listOf gvs.toArray nn) :: news) → Post gvs v gvs' (ex ++ news) → Q v { s with heap := h', toks := tk' }) →
      wpAny (model PySem.Challenge.rw_ph0011_02.row.prog w) (ktrTop dp un gd cn cs L a ccd cl outer) (call (.ref f) vs) Q E s
set_option maxHeartbeats 8000000 in
theorem searchV (w : World) (p : Program) (loose : List PySem.Str) (mean : ExcName → Option Value) (mg mb : PySem.Str → Option Value) (x chars : PySem.Str) (at0 : Int) (gl : Addr) (c1 : Addr) (cL : Value) (ff df fs dt cu cg : Addr) (tx t0 : Tok) (ct : Value) (h1 : Int) (t1 tc ta : Tok) (vs : List Value) (hvs : vs = [.str chars tc, .int at0 ta] ∨ (vs = [.str chars tc] ∧ at0 = 0 ∧ ta = t0)) :
    CtrG w p loose mean mg mb 10 fs vs gl (fun gvs news => FinderAt (· ∈ news) ff x gl (.ref c1) cL df fs dt cu cg tx t0 ct h1 t1 ∧ CodesIn (· ∈ news) searchQ [c1] ∧ chars.length ≤ 100 ∧ x.length ≤ 100 ∧ gvs.length ≤ 1000) (SPost x chars at0) := by
  unfold CtrG
  k_with_none
  k_fill
  intro gvs nn ps qs news dp un gd cn cs a ccd cl outer A₀ base h₀ L m s Q E hB hF hK hN hV hgn hg30 hg37 hT hcs hpre hdp hun hret
  obtain ⟨H, hc1, hlen, hxl, hgl⟩ := hpre
  obtain ⟨oc, hoc, hcp⟩ := hc1 c1 (by simp)
  have hmem : ∀ p ∈ news, p ∈ ((30, tabObj ps) :: (37, tabObj qs) :: (gl, listOf gvs.toArray nn) :: news : List (Addr × Obj)) := fun p hp => .tail _ (.tail _ (.tail _ hp))
  have hfs := (hN _ (hmem _ H.search)).1
  have hcr : s.heap.CodeRec (.ref c1) searchQ := by
    obtain ⟨_, vs, tq, e1, e2⟩ := hcp
    exact ⟨c1, oc, vs, tq, rfl, (hN _ (hmem _ hoc)).1, e1, e2⟩
  have hsd : searchDef = searchDef := rfl
  conv at hsd => rhs; whnf
  have hfs2 : s.heap.get? fs = some ⟨.type "function", none, .func (searchFd cu cg dt (.ref c1) ct), #[]⟩ := hfs
  unfold searchFd at hfs2
  rw [hsd] at hfs2
  (try dsimp only at hfs2)
  have hdt := (hN _ (hmem _ H.dflt)).1
  refine wpAny_call ?_
  refine callX_plain hB hF hN hT.nolimit rfl rfl hcs hfs2 rfl hcr (by show dp < recursionLimit; simp only [recursionLimit]; omega) (binds := [("chars", .str chars tc), ("at", .int at0 ta)]) ?hb (locs rfl) ?_ (by decide)
  case hb =>
    rcases hvs with rfl | ⟨rfl, rfl, rfl⟩
    · exact BindsTo.of_defaults rfl hdt rfl rfl rfl
    · exact BindsTo.of_defaults rfl hdt rfl rfl rfl
  intro g L' h₁ FG F' N' B' hst hlt
  have X' : (hd.heap_39 w.params).In g := fun b o e => hst _ _ (hK b o e)
  have T' : Top p loose mean mg mb g := hT.keeps hst
  have N2 : News g L' h₁ ((cg, ⟨.type "cell", none, .cell (some (.ref gl)), #[]⟩) :: (cu, ⟨.type "cell", none, .cell (some (.str x tx)), #[]⟩) :: (30, tabObj ps) :: (37, tabObj qs) :: (gl, listOf gvs.toArray nn) :: news) := by
    intro p hp
    rcases List.mem_cons.mp hp with rfl | hp
    · exact N' _ (hmem _ H.given)
    · rcases List.mem_cons.mp hp with rfl | hp
      · exact N' _ (hmem _ H.front)
      · exact N' p hp
  clear N' hN hfs hfs2 hsd hcr hdt hcp hoc
  dsimp only [List.length_cons, List.length_nil]
  (repeat' ((fail_if_success ((first | (with_reducible show wpAny _ _ (call (Value.ref 35) _) _ _ _) | (with_reducible show wpAny _ _ (call (Value.builtin "str.find") _) _ _ _) | (with_reducible show wpAny _ _ (call (Value.builtin "list.append") _) _ _ _) | (with_reducible show wpAny _ _ (subscriptTail _ _ (Value.ref _) (Value.int _ _)) _ _ _)))); (first | (((with_reducible show wpAny _ _ (loadName (envX _ _ _ _ _ _) _) _ _ _); (with_unfolding_all refine' loadX_L ?F ?v ?_ ?a ?b; (case a => rfl); (case b => rfl); (case F => assumption); (case v => rfl)))) | (k_unfold; (try dsimp only)) | walk1 | (dsimp only; walk1) | (leave1; (try dsimp only)) | fail "no step")))
  refine SC.find3 ?_
  obtain ⟨i0, hi0⟩ : ∃ i0, i0 = startB x at0 := ⟨_, rfl⟩
  rw [show (if (0 : Int) > at0 - (x.length : Int) then (0 : Int) else at0 - (x.length : Int)) = startB x at0 from rfl]
  rw [← hi0]
  obtain ⟨pl, hpl⟩ : ∃ pl, pl = Txt.find3 chars x i0 := ⟨_, rfl⟩
  rw [← hpl]
  try dsimp only
  (repeat' ((fail_if_success ((first | (with_reducible show wpAny _ _ (call (Value.ref 35) _) _ _ _) | (with_reducible show wpAny _ _ (call (Value.builtin "str.find") _) _ _ _) | (with_reducible show wpAny _ _ (call (Value.builtin "list.append") _) _ _ _) | (with_reducible show wpAny _ _ (subscriptTail _ _ (Value.ref _) (Value.int _ _)) _ _ _)))); (first | (((with_reducible show wpAny _ _ (loadName (envX _ _ _ _ _ _) _) _ _ _); (with_unfolding_all refine' loadX_L ?F ?v ?_ ?a ?b; (case a => rfl); (case b => rfl); (case F => assumption); (case v => rfl)))) | (k_unfold; (try dsimp only)) | walk1 | (dsimp only; walk1) | (leave1; (try dsimp only)) | fail "no step")))
  · rename (News h₀ L _ _) => kN
    rename (_ < (0 : Int)) => hlt0
    exact hret .none gvs nn ps qs [] _ _ (by assumption) (fun p hp => kN p (.tail _ (.tail _ hp))) hV (Dj.nil _) (.inl ⟨.inl (by rw [← hi0, ← hpl]; exact hlt0), rfl, rfl⟩)
  · rename (News h₀ L _ _) => kN
    rename ((chars.length : Int) ≤ _) => hge0
    exact hret .none gvs nn ps qs [] _ _ (by assumption) (fun p hp => kN p (.tail _ (.tail _ hp))) hV (Dj.nil _) (.inl ⟨.inr (by rw [← hi0, ← hpl]; exact hge0), rfl, rfl⟩)
  · rename (Fr _ _ _ _) => F5
    rename (News _ _ _ _) => N5
    have N6 : News g L' _ ((30, tabObj ps) :: (37, tabObj qs) :: (gl, listOf gvs.toArray nn) :: news) := fun p hp => N5 p (.tail _ (.tail _ hp))
    have V6 : TV ps qs ((gl, listOf gvs.toArray nn) :: news) := hV.more (ex := [(gl, listOf gvs.toArray nn)]) fun p hp => by
      rw [List.mem_singleton] at hp
      subst hp
      exact ⟨hg30, hg37⟩
    refine hitT w p loose mean mg mb (pl + x.length) _ ps qs _ (dp + 1) (un + 3) gd _ _ _ _ _ (envX cn cs L a ccd cl :: outer) _ base _ _ _ _ _ _ B' F5 X' N6 V6 T' rfl trivial (by omega) (by omega) ?_
    intro v ps' qs' ex h9 tk9 F9 N9 V9 D9 hp9
    obtain ⟨hh, e1, e2, e3, e4, rfl, hin9, hcd9⟩ := hp9
    have N10 : News g L' h9 ((gl, listOf gvs.toArray nn) :: (cg, cellObj (.ref gl)) :: (cu, cellObj (.str x tx)) :: (30, tabObj ps') :: (37, tabObj qs') :: (ex ++ news)) := fun p hp => by
      simp only [List.mem_cons, List.mem_append] at hp
      rcases hp with h | h | h | h | h | h | h
      · exact N9 p (by simp [h])
      · subst h; exact N9 _ (.tail _ (.tail _ (List.mem_append_right _ (.tail _ H.given))))
      · subst h; exact N9 _ (.tail _ (.tail _ (List.mem_append_right _ (.tail _ H.front))))
      · exact N9 p (by simp [h])
      · exact N9 p (by simp [h])
      · exact N9 p (by simp [h])
      · exact N9 p (by simp [h])
    have hoff : ∀ p ∈ (cg, cellObj (.ref gl)) :: (cu, cellObj (.str x tx)) :: (30, tabObj ps') :: (37, tabObj qs') :: (ex ++ news), p.1 ≠ gl := fun p hp => by
      simp only [List.mem_cons, List.mem_append] at hp
      rcases hp with h | h | h | h | h | h
      · subst h; exact hgn _ H.given
      · subst h; exact hgn _ H.front
      · subst h; exact hg30.symm
      · subst h; exact hg37.symm
      · exact D9 p h _ (.head _)
      · exact hgn p h
    clear N5 N6 N9 F5
    try dsimp only
    (repeat' ((fail_if_success ((first | (with_reducible show wpAny _ _ (call (Value.ref 35) _) _ _ _) | (with_reducible show wpAny _ _ (call (Value.builtin "str.find") _) _ _ _) | (with_reducible show wpAny _ _ (call (Value.builtin "list.append") _) _ _ _) | (with_reducible show wpAny _ _ (subscriptTail _ _ (Value.ref _) (Value.int _ _)) _ _ _)))); (first | (((with_reducible show wpAny _ _ (loadName (envX _ _ _ _ _ _) _) _ _ _); (with_unfolding_all refine' loadX_L ?F ?v ?_ ?a ?b; (case a => rfl); (case b => rfl); (case F => assumption); (case v => rfl)))) | (k_unfold; (try dsimp only)) | walk1 | (dsimp only; walk1) | (leave1; (try dsimp only)) | fail "no step")))
    rename (Fr _ _ _ _) => F7
    refine append_K (s := ⟨_, _, _, _, _⟩) (h₀ := g) (L := L') F7 N10 (Upd.head hoff) ?_ (by rw [sizeLine_eq]; simp; omega)
    intro h10 F10 N11
    rw [List.push_toArray] at N11
    clear F7 N10
    try dsimp only
    (repeat' ((fail_if_success ((first | (with_reducible show wpAny _ _ (call (Value.ref 35) _) _ _ _) | (with_reducible show wpAny _ _ (call (Value.builtin "str.find") _) _ _ _) | (with_reducible show wpAny _ _ (call (Value.builtin "list.append") _) _ _ _) | (with_reducible show wpAny _ _ (subscriptTail _ _ (Value.ref _) (Value.int _ _)) _ _ _)))); (first | (((with_reducible show wpAny _ _ (loadName (envX _ _ _ _ _ _) _) _ _ _); (with_unfolding_all refine' loadX_L ?F ?v ?_ ?a ?b; (case a => rfl); (case b => rfl); (case F => assumption); (case v => rfl)))) | (k_unfold; (try dsimp only)) | walk1 | (dsimp only; walk1) | (leave1; (try dsimp only)) | fail "no step")))
    refine item_neg (s := ⟨_, _, _, _, _⟩) (items := (gvs ++ [Value.ref hh]).toArray) ⟨_, (N11 _ (.head _)).1, rfl, _, rfl⟩ (by decide) (by simp; omega) (by decide) (x := .ref hh) (by rw [show (-1 + (((gvs ++ [Value.ref hh]).toArray.size : Nat) : Int)).toNat = gvs.length by simp; omega]; simp) ?_
    try dsimp only
    (repeat' ((fail_if_success ((first | (with_reducible show wpAny _ _ (call (Value.ref 35) _) _ _ _) | (with_reducible show wpAny _ _ (call (Value.builtin "str.find") _) _ _ _) | (with_reducible show wpAny _ _ (call (Value.builtin "list.append") _) _ _ _) | (with_reducible show wpAny _ _ (subscriptTail _ _ (Value.ref _) (Value.int _ _)) _ _ _)))); (first | (((with_reducible show wpAny _ _ (loadName (envX _ _ _ _ _ _) _) _ _ _); (with_unfolding_all refine' loadX_L ?F ?v ?_ ?a ?b; (case a => rfl); (case b => rfl); (case F => assumption); (case v => rfl)))) | (k_unfold; (try dsimp only)) | walk1 | (dsimp only; walk1) | (leave1; (try dsimp only)) | fail "no step")))
    rename (News h₀ L _ _) => kN
    refine hret (.ref hh) (gvs ++ [.ref hh]) (nn + 1) ps' qs' ex _ _ (by assumption) (fun p hp => kN p ?_) ?_ D9 ?_
    · simp only [List.mem_cons, List.mem_append] at hp ⊢; grind
    · refine V9.subC (fun p hp hc => ?_) fun p hp => V9.off p (by simp only [List.mem_cons, List.mem_append] at hp ⊢; grind)
      simp only [List.mem_cons, List.mem_append] at hp ⊢
      rcases hp with h | h | h
      · exact .inl h
      · subst h; exact absurd (show Value.type "list" = Value.type "code" from hc) (by decide)
      · exact .inr h
    · refine .inr ⟨?_, ?_, hh, rfl, rfl, ?_⟩
      · rw [← hi0, ← hpl]; omega
      · rw [← hi0, ← hpl]; omega
      · rw [← hi0, ← hpl]
        refine HitPost.subL ⟨hh, e1, e2, e3, e4, rfl, hin9, hcd9⟩ fun p hp hc => ?_
        simp only [List.mem_cons, List.mem_append] at hp ⊢
        rcases hp with h | h | h
        · exact .inl h
        · subst h; exact absurd rfl hc
        · exact .inr h
theorem searchT (w : World) (p : Program) (loose : List PySem.Str) (mean : ExcName → Option Value) (mg mb : PySem.Str → Option Value) (x chars : PySem.Str) (at0 : Int) (gl : Addr) (c1 : Addr) (cL : Value) (ff df fs dt cu cg : Addr) (tx t0 : Tok) (ct : Value) (h1 : Int) (t1 tc ta : Tok) :
    CtrG w p loose mean mg mb 10 fs [.str chars tc, .int at0 ta] gl (fun gvs news => FinderAt (· ∈ news) ff x gl (.ref c1) cL df fs dt cu cg tx t0 ct h1 t1 ∧ CodesIn (· ∈ news) searchQ [c1] ∧ chars.length ≤ 100 ∧ x.length ≤ 100 ∧ gvs.length ≤ 1000) (SPost x chars at0) :=
  searchV w p loose mean mg mb x chars at0 gl c1 cL ff df fs dt cu cg tx t0 ct h1 t1 tc ta _ (.inl rfl)
theorem searchT1 (w : World) (p : Program) (loose : List PySem.Str) (mean : ExcName → Option Value) (mg mb : PySem.Str → Option Value) (x chars : PySem.Str) (gl : Addr) (c1 : Addr) (cL : Value) (ff df fs dt cu cg : Addr) (tx t0 : Tok) (ct : Value) (h1 : Int) (t1 tc : Tok) :
    CtrG w p loose mean mg mb 10 fs [.str chars tc] gl (fun gvs news => FinderAt (· ∈ news) ff x gl (.ref c1) cL df fs dt cu cg tx t0 ct h1 t1 ∧ CodesIn (· ∈ news) searchQ [c1] ∧ chars.length ≤ 100 ∧ x.length ≤ 100 ∧ gvs.length ≤ 1000) (SPost x chars 0) :=
  searchV w p loose mean mg mb x chars 0 gl c1 cL ff df fs dt cu cg tx t0 ct h1 t1 tc t0 _ (.inr ⟨rfl, rfl, rfl⟩)
end Mine
end
section
open PySem PySem.W PySem.W.X PyProof.Rows PySem.Spec PySem.Calls
set_option Elab.async false
set_option maxRecDepth 100000
namespace Mine
theorem codeForm {o : Obj} {q : PySem.Str} (h : CodeP o q) : ∃ od v0 tq vr sl, o = ⟨.type "code", od, .fields ⟨v0 :: .str q tq :: vr⟩, sl⟩ := by
  obtain ⟨c, d, dt, sl⟩ := o
  obtain ⟨h1, vs, t, h2, h3⟩ := h
  (try dsimp only at h1); (try dsimp only at h2)
  subst h1 h2
  obtain ⟨l⟩ := vs
  cases l with
  | nil => simp at h3
  | cons v0 l => cases l with
    | nil => simp at h3
    | cons v1 vr =>
      have : v1 = .str q t := by simpa using h3
      subst this
      exact ⟨d, v0, t, vr, sl, rfl⟩
section
variable {w : World} {A : Around} {E : Value → Shared → Prop} {s : Shared} {h₀ : Heap} {L : Addr} {m : PySem.Str → Option Value} {led : List (Addr × Obj)} {Q : Value → Shared → Prop}
  {a : Addr} {n : Int} {c1 c3 c4 : Value} {x2 x3 d f1 f2 f3 c : Addr} {t : Tok} {ct1 ct2 ct3 : Value} {h1 h2 h3 : Int} {t1 t2 t3 : Tok}
theorem spanT (F : Fr h₀ L s.heap m) (N : News h₀ L s.heap led) (X : (hd.heap_39 w.params).In h₀) (H : HitAt (· ∈ led) a n c1 (.ref x2) c3 c4 d f1 f2 f3 c t ct1 ct2 ct3 h1 h2 h3 t1 t2 t3) (hc : CodesIn (· ∈ led) hitQ [x2])
    (hh : A.handled = none) (hd : A.depth ≤ 900) (hu : A.units ≤ 900)
    (hQ : ∀ tp h' tk t', Fr h₀ L h' m → News h₀ L h' ((tp, ⟨.type "tuple", none, .seq #[.int n t, .int (n + 1) t'] 0, #[]⟩) :: led) → Q (.ref tp) { s with heap := h', toks := tk }) :
    wpAny (model PySem.Challenge.rw_ph0011_02.row.prog w) A (call (.ref f1) []) Q E s := by
  obtain ⟨o, ho, hp⟩ := hc x2 (by simp)
  obtain ⟨od, v0, tq, vr, sl, rfl⟩ := codeForm hp
  refine wpAny_top ?_ hh hd hu
  refine spanX w s (K2_in fun b o e => F.keep _ _ (X b o e)) f1 c x2 n t tq ct1 v0 vr od sl (N _ H.span).1 (N _ H.cell).1 (N _ ho).1 Q E ⟨fun tp h' tk hk ⟨t', ht, hn⟩ => ?_⟩
  obtain ⟨F', N'⟩ := keepExt (ex := [(tp, _)]) F N hk (List.forall_mem_cons.mpr ⟨⟨ht, hn⟩, List.forall_mem_nil _⟩)
  exact hQ tp h' tk t' F' N'
theorem startT (F : Fr h₀ L s.heap m) (N : News h₀ L s.heap led) (X : (hd.heap_39 w.params).In h₀) {c2 : Value} (H : HitAt (· ∈ led) a n c1 c2 (.ref x3) c4 d f1 f2 f3 c t ct1 ct2 ct3 h1 h2 h3 t1 t2 t3) (hc : CodesIn (· ∈ led) hitQ [x3])
    (hh : A.handled = none) (hd : A.depth ≤ 900) (hu : A.units ≤ 900)
    (hQ : ∀ h' tk, Fr h₀ L h' m → News h₀ L h' led → Q (.int n t) { s with heap := h', toks := tk }) :
    wpAny (model PySem.Challenge.rw_ph0011_02.row.prog w) A (call (.ref f2) []) Q E s := by
  obtain ⟨o, ho, hp⟩ := hc x3 (by simp)
  obtain ⟨od, v0, tq, vr, sl, rfl⟩ := codeForm hp
  refine wpAny_top ?_ hh hd hu
  refine startX w s (K2_in fun b o e => F.keep _ _ (X b o e)) f2 c x3 n t tq ct2 v0 vr od sl (N _ H.start).1 (N _ H.cell).1 (N _ ho).1 Q E ⟨fun h' tk hk => ?_⟩
  obtain ⟨F', N'⟩ := keepExt (ex := []) F N hk (List.forall_mem_nil _)
  exact hQ h' tk F' N'
theorem endT (F : Fr h₀ L s.heap m) (N : News h₀ L s.heap led) (X : (hd.heap_39 w.params).In h₀) {c2 : Value} {x4 : Addr} (H : HitAt (· ∈ led) a n c1 c2 c3 (.ref x4) d f1 f2 f3 c t ct1 ct2 ct3 h1 h2 h3 t1 t2 t3) (hc : CodesIn (· ∈ led) hitQ [x4])
    (hh : A.handled = none) (hd : A.depth ≤ 900) (hu : A.units ≤ 900)
    (hQ : ∀ h' tk t', Fr h₀ L h' m → News h₀ L h' led → Q (.int (n + 1) t') { s with heap := h', toks := tk }) :
    wpAny (model PySem.Challenge.rw_ph0011_02.row.prog w) A (call (.ref f3) []) Q E s := by
  obtain ⟨o, ho, hp⟩ := hc x4 (by simp)
  obtain ⟨od, v0, tq, vr, sl, rfl⟩ := codeForm hp
  refine wpAny_top ?_ hh hd hu
  refine endX w s (K2_in fun b o e => F.keep _ _ (X b o e)) f3 c x4 n t tq ct3 v0 vr od sl (N _ H.ende).1 (N _ H.cell).1 (N _ ho).1 Q E ⟨fun h' tk t' hk => ?_⟩
  obtain ⟨F', N'⟩ := keepExt (ex := []) F N hk (List.forall_mem_nil _)
  exact hQ h' tk t' F' N'
end
theorem keys1 {h1 : Int} {k1 : PySem.Str} {t1 : Tok} {v1 : Value} : StrKeys #[strEntry h1 k1 t1 v1] := by
  intro e he
  simp only [List.mem_toArray, List.mem_cons, List.not_mem_nil, or_false] at he
  subst he; exact ⟨_, _, rfl⟩
theorem keys3 {h1 h2 h3 : Int} {k1 k2 k3 : PySem.Str} {t1 t2 t3 : Tok} {v1 v2 v3 : Value} : StrKeys #[strEntry h1 k1 t1 v1, strEntry h2 k2 t2 v2, strEntry h3 k3 t3 v3] := by
  intro e he
  simp only [List.mem_toArray, List.mem_cons, List.not_mem_nil, or_false] at he
  rcases he with rfl | rfl | rfl
  · exact ⟨_, _, rfl⟩
  · exact ⟨_, _, rfl⟩
  · exact ⟨_, _, rfl⟩
section
variable {prog : Program} {w : World} {A : Around} {E : Value → Shared → Prop} {h₀ h : Heap} {L : Addr} {g : Array GenState} {dr : Drawn} {tk : Nat} {os : OsState} {led : List (Addr × Obj)} {pl : Sem Bool} {Q : Value × List Value → Shared → Prop}
  {a : Addr} {n : Int} {c1 c2 c3 c4 : Value} {d f1 f2 f3 c : Addr} {t : Tok} {ct1 ct2 ct3 : Value} {h1 h2 h3 : Int} {t1 t2 t3 : Tok}
theorem methSpan (N : News h₀ L h led) (H : HitAt (· ∈ led) a n c1 c2 c3 c4 d f1 f2 f3 c t ct1 ct2 ct3 h1 h2 h3 t1 t2 t3) (hq : Q (.ref f1, []) ⟨h, g, dr, tk + 1, os⟩) :
    wpAny (model prog w) A (getMethod (.ref a) "span" pl) Q E ⟨h, g, dr, tk, os⟩ :=
  getMethod_fn (N _ H.fn).1 ⟨_, _, _, (N _ H.dict).1, rfl, keys3, fun _ => rfl⟩ FF.lk_span (by kernel_rfl) (handed_ref _) hq
theorem methStart (N : News h₀ L h led) (H : HitAt (· ∈ led) a n c1 c2 c3 c4 d f1 f2 f3 c t ct1 ct2 ct3 h1 h2 h3 t1 t2 t3) (hq : Q (.ref f2, []) ⟨h, g, dr, tk + 1, os⟩) :
    wpAny (model prog w) A (getMethod (.ref a) "start" pl) Q E ⟨h, g, dr, tk, os⟩ :=
  getMethod_fn (N _ H.fn).1 ⟨_, _, _, (N _ H.dict).1, rfl, keys3, fun _ => rfl⟩ FF.lk_start (by kernel_rfl) (handed_ref _) hq
theorem methEnd (N : News h₀ L h led) (H : HitAt (· ∈ led) a n c1 c2 c3 c4 d f1 f2 f3 c t ct1 ct2 ct3 h1 h2 h3 t1 t2 t3) (hq : Q (.ref f3, []) ⟨h, g, dr, tk + 1, os⟩) :
    wpAny (model prog w) A (getMethod (.ref a) "end" pl) Q E ⟨h, g, dr, tk, os⟩ :=
  getMethod_fn (N _ H.fn).1 ⟨_, _, _, (N _ H.dict).1, rfl, keys3, fun _ => rfl⟩ FF.lk_end (by kernel_rfl) (handed_ref _) hq
theorem truthyHit {Q : Bool → Shared → Prop} (N : News h₀ L h led) (H : HitAt (· ∈ led) a n c1 c2 c3 c4 d f1 f2 f3 c t ct1 ct2 ct3 h1 h2 h3 t1 t2 t3) (hq : Q true ⟨h, g, dr, tk, os⟩) : wpAny (model prog w) A (truthy (.ref a)) Q E ⟨h, g, dr, tk, os⟩ :=
  truthy_fn (N _ H.fn).1 hq
theorem methSearch {ff df fs dt cu cg : Addr} {x : PySem.Str} {gl : Addr} {cS cL : Value} {tx t0 : Tok} {ct : Value} (N : News h₀ L h led) (H : FinderAt (· ∈ led) ff x gl cS cL df fs dt cu cg tx t0 ct h1 t1) (hq : Q (.ref fs, []) ⟨h, g, dr, tk + 1, os⟩) :
    wpAny (model prog w) A (getMethod (.ref ff) "search" pl) Q E ⟨h, g, dr, tk, os⟩ :=
  getMethod_fn (N _ H.fn).1 ⟨_, _, _, (N _ H.dict).1, rfl, keys1, fun _ => rfl⟩ FF.lk_search (by kernel_rfl) (handed_ref _) hq
end
end Mine
end
section
open PySem PySem.W PySem.W.X PyProof.Rows PySem.Spec PySem.Calls
set_option Elab.async false
set_option maxRecDepth 100000
namespace Mine
/-- x stands in chars at v -/
noncomputable def Occ (x chars : PySem.Str) (v : Nat) : Prop := v + x.length ≤ chars.length ∧ Builtin.Str.subAt chars x v = true
theorem fromIndex_nn {len : Nat} {i : Int} (h : 0 ≤ i) : fromIndex len i = i.toNat := by
  unfold fromIndex
  rw [if_neg (by omega)]
  omega
theorem find3_occ (x chars : PySem.Str) (i : Int) (hi : 0 ≤ i) :
    (Txt.find3 chars x i = -1 ∧ ∀ v, i.toNat ≤ v → ¬ Occ x chars v) ∨ ∃ k : Nat, Txt.find3 chars x i = (k : Int) ∧ i.toNat ≤ k ∧ Occ x chars k ∧ ∀ v, i.toNat ≤ v → v < k → ¬ Occ x chars v := by
  unfold Txt.find3
  rw [fromIndex_nn hi]
  rcases StrLaws.occ_head_from chars x i.toNat 1 (Nat.le_refl 1) with ⟨h0, hn⟩ | ⟨k, r, h0, hlo, hk, hn⟩
  · rw [h0]; exact .inl ⟨rfl, fun v h1 h2 => hn v h1 h2⟩
  · rw [h0]; exact .inr ⟨k, rfl, hlo, hk, fun v h1 h2 h3 => hn v h1 h2 h3⟩
theorem startB_nn (x : PySem.Str) (at0 : Int) : 0 ≤ startB x at0 := by unfold startB; split <;> omega
/-- a hit's place: right behind an occurrence, and not the text's end -/
noncomputable def HitAt2 (x chars : PySem.Str) (p : Nat) : Prop := x.length ≤ p ∧ p < chars.length ∧ Occ x chars (p - x.length)
/-- the search from at0 on: the first hit's place from there on -/
theorem spost_cases {x chars : PySem.Str} {at0 : Nat} {gvs gvs' : List Value} {v : Value} {led : List (Addr × Obj)} (h : SPost x chars at0 gvs v gvs' led) :
    (v = .none ∧ gvs' = gvs ∧ ∀ p, at0 ≤ p → ¬ HitAt2 x chars p) ∨ ∃ p hh, at0 ≤ p ∧ HitAt2 x chars p ∧ (∀ j, at0 ≤ j → j < p → ¬ HitAt2 x chars j) ∧ v = .ref hh ∧ gvs' = gvs ++ [.ref hh] ∧ HitPost (p : Int) v led := by
  have hs0 := startB_nn x at0
  have hs : (startB x at0).toNat = at0 - x.length := by unfold startB; split <;> omega
  have key := find3_occ x chars (startB x at0) hs0
  rw [hs] at key
  rcases h with ⟨hno, rfl, rfl⟩ | ⟨h0, h1, hh, rfl, rfl, hp⟩
  · refine .inl ⟨rfl, rfl, fun p hp hq => ?_⟩
    obtain ⟨q1, q2, q3⟩ := hq
    rcases key with ⟨e, hn⟩ | ⟨k, e, k1, k2, k3⟩
    · exact hn (p - x.length) (by omega) q3
    · rw [e] at hno
      rcases hno with h | h
      · omega
      · by_cases hk : p - x.length < k
        · exact k3 _ (by omega) hk q3
        · omega
  · rcases key with ⟨e, hn⟩ | ⟨k, e, k1, k2, k3⟩
    · omega
    · rw [e] at h1 hp
      refine .inr ⟨k + x.length, hh, by omega, ⟨by omega, by omega, by rw [Nat.add_sub_cancel]; exact k2⟩, fun j j1 j2 jq => ?_, rfl, rfl, by exact_mod_cast hp⟩
      obtain ⟨q1, q2, q3⟩ := jq
      exact k3 (j - x.length) (by omega) (by omega) q3
end Mine
end
section
open PySem PySem.W PySem.W.X PyProof.Rows PySem.Spec PySem.Calls
set_option Elab.async false
set_option maxRecDepth 100000
namespace Mine
theorem FinderAt.mono {P P' : Addr × Obj → Prop} {ff x gl cS cL df fs dt cu cg tx t0 ct h1 t1} (h : FinderAt P ff x gl cS cL df fs dt cu cg tx t0 ct h1 t1) (hp : ∀ p, P p → P' p) : FinderAt P' ff x gl cS cL df fs dt cu cg tx t0 ct h1 t1 :=
  ⟨hp _ h.fn, hp _ h.dict, hp _ h.search, hp _ h.dflt, hp _ h.front, hp _ h.given⟩
theorem HitIn.mono {P P' : Addr × Obj → Prop} {a : Addr} {n : Int} {c1 c2 c3 c4 : Value} (h : HitIn P a n c1 c2 c3 c4) (hp : ∀ p, P p → P' p) : HitIn P' a n c1 c2 c3 c4 := by
  obtain ⟨d, f1, f2, f3, c, t, ct1, ct2, ct3, h1, h2, h3, t1, t2, t3, H⟩ := h
  exact ⟨d, f1, f2, f3, c, t, ct1, ct2, ct3, h1, h2, h3, t1, t2, t3, H.mono hp⟩
theorem HitPost.mono {n : Int} {v : Value} {led led' : List (Addr × Obj)} (h : HitPost n v led) (hp : ∀ p ∈ led, p ∈ led') : HitPost n v led' := by
  obtain ⟨a, c1, c2, c3, c4, e, h1, h2⟩ := h
  exact ⟨a, c1, c2, c3, c4, e, h1.mono hp, h2.mono hp⟩
theorem CodesIn.sub {P : Addr × Obj → Prop} {q : PySem.Str} {xs ys : List Addr} (h : CodesIn P q xs) (hs : ∀ y ∈ ys, y ∈ xs) : CodesIn P q ys := fun y hy => h y (hs y hy)
theorem memG (ps qs : Array Value) (g : Addr × Obj) {news : List (Addr × Obj)} (p : Addr × Obj) (hp : p ∈ news) : p ∈ ((30, tabObj ps) :: (37, tabObj qs) :: g :: news : List (Addr × Obj)) := .tail _ (.tail _ (.tail _ hp))
/-- the hits so far, each with the function that tells it -/
noncomputable abbrev refsOf (hs : List (Nat × Addr)) : List Value := hs.map fun q => .ref q.2
noncomputable def lastRef (hs : List (Nat × Addr)) : Value := match hs.getLast? with
  | none => .none
  | some q => .ref q.2
/-- the last hit ahead of k -/
noncomputable def LastAt (x chars : PySem.Str) (k : Nat) (hs : List (Nat × Addr)) : Prop := match hs.getLast? with
  | none => ∀ j, j < k → ¬ HitAt2 x chars j
  | some q => q.1 < k ∧ HitAt2 x chars q.1 ∧ ∀ j, q.1 < j → j < k → ¬ HitAt2 x chars j
noncomputable def HsOk (k : Nat) (hs : List (Nat × Addr)) (led : List (Addr × Obj)) : Prop := ∀ q ∈ hs, q.1 < k ∧ HitPost (q.1 : Int) (.ref q.2) led
theorem HsOk.mono {k k' : Nat} {hs : List (Nat × Addr)} {led led' : List (Addr × Obj)} (h : HsOk k hs led) (hk : k ≤ k') (hp : ∀ p ∈ led, p ∈ led') : HsOk k' hs led' := fun q hq => ⟨Nat.lt_of_lt_of_le (h q hq).1 hk, (h q hq).2.mono hp⟩
noncomputable def RevPost (x chars : PySem.Str) (col : Nat) (gvs : List Value) (v : Value) (gvs' : List Value) (led : List (Addr × Obj)) : Prop :=
  ∃ hs a, gvs' = gvs ++ refsOf hs ++ [.ref a] ∧ HitPost (col : Int) (.ref a) led ∧ HsOk col hs led ∧ LastAt x chars col hs ∧ hs.length ≤ col ∧ v = lastRef hs
theorem lastAt_nil {x chars : PySem.Str} {k : Nat} (h : ∀ j, 0 ≤ j → j < k → ¬ HitAt2 x chars j) : LastAt x chars k [] := fun j hj => h j (Nat.zero_le _) hj
theorem lastAt_snoc {x chars : PySem.Str} {k k' : Nat} {hs : List (Nat × Addr)} {a : Addr} (hk : k < k') (hh : HitAt2 x chars k) (h : ∀ j, k + 1 ≤ j → j < k' → ¬ HitAt2 x chars j) : LastAt x chars k' (hs ++ [(k, a)]) := by
  unfold LastAt
  rw [List.getLast?_append]
  exact ⟨hk, hh, fun j h1 h2 => h j h1 h2⟩
structure RSt where
  k : Nat
  a : Addr
  hs : List (Nat × Addr)
  vf : Value
  ti : Tok
  tj : Tok
  nn : Nat
  ps : Array Value
  qs : Array Value
  led : List (Addr × Obj)
structure RInv (x chars : PySem.Str) (col gl : Nat) (news : List (Addr × Obj)) (c : RSt) : Prop where
  tv : TV c.ps c.qs c.led
  ext : ∃ ex, c.led = ex ++ news ∧ Dj ex ((gl, listOf #[] 0) :: news)
  hit : HitPost c.k (.ref c.a) c.led
  at2 : HitAt2 x chars c.k
  le : c.k ≤ col
  ok : HsOk c.k c.hs c.led
  last : LastAt x chars c.k c.hs
  fnd : c.vf = lastRef c.hs
  short : c.hs.length ≤ c.k
theorem dj_gl {ex news : List (Addr × Obj)} {gl : Addr} {o o' : Obj} (h : Dj ex ((gl, o) :: news)) : Dj ex ((gl, o') :: news) := fun p hp q hq => by
  rcases List.mem_cons.mp hq with rfl | hq
  · exact h p hp (gl, o) (.head _)
  · exact h p hp q (.tail _ hq)
theorem dj_compG {ex ex2 news : List (Addr × Obj)} {gl : Addr} {o o' : Obj} (h2 : Dj ex2 ((gl, o') :: (ex ++ news))) (h : Dj ex ((gl, o) :: news)) : Dj (ex2 ++ ex) ((gl, o) :: news) := fun p hp q hq => by
  rcases List.mem_append.mp hp with hp | hp
  · rcases List.mem_cons.mp hq with rfl | hq
    · exact h2 p hp (gl, o') (.head _)
    · exact h2 p hp q (.tail _ (List.mem_append_right _ hq))
  · exact h p hp q hq
theorem gl_off {ex news : List (Addr × Obj)} {gl : Addr} {o : Obj} (h : Dj ex ((gl, o) :: news)) (hn : ∀ p ∈ news, p.1 ≠ gl) : ∀ p ∈ ex ++ news, p.1 ≠ gl := fun p hp =>
  (List.mem_append.mp hp).elim (fun h1 => h p h1 _ (.head _)) (hn p)
set_option maxHeartbeats 8000000 in
theorem revT (w : World) (p : Program) (loose : List PySem.Str) (mean : ExcName → Option Value) (mg mb : PySem.Str → Option Value) (x chars : PySem.Str) (col : Nat) (gl : Addr) (c1 : Addr) (cL : Value) (ff df fs dt cu cg : Addr) (tx t0 : Tok) (ct : Value) (h1 : Int) (t1 tc ta : Tok) :
    CtrG w p loose mean mg mb 20 21 [.ref ff, .str chars tc, .int col ta] gl (fun gvs news => FinderAt (· ∈ news) ff x gl (.ref c1) cL df fs dt cu cg tx t0 ct h1 t1 ∧ CodesIn (· ∈ news) searchQ [c1] ∧ chars.length ≤ 100 ∧ x.length ≤ 100 ∧ gvs.length = 0 ∧ col + 1 = chars.length ∧ HitAt2 x chars col) (RevPost x chars col) := by
  unfold CtrG
  k_with_none
  k_fill
  intro gvs nn ps qs news dp un gd cn cs a ccd cl outer A₀ base h₀ L m s Q E hB hF hK hN hV hgn hg30 hg37 hT hcs hpre hdp hun hret
  obtain ⟨H, hc1, hlen, hxl, hgl, hcol, hend⟩ := hpre
  refine wpAny_call ?_
  k_dflt cell_enter
  rename (Below _ _ _ _) => B'
  rename (Frag.In _ _) => X'
  rename (Top _ _ _ _ _ _) => T'
  (repeat' ((fail_if_success ((first | (with_reducible show wpAny _ _ (exec (Stmt.While _ _ _ _) _) _ _ _) | (with_reducible show wpAny _ _ (getMethod (Value.ref _) _ _) _ _ _) | (with_reducible show wpAny _ _ (truthy (Value.ref _)) _ _ _) | (with_reducible show wpAny _ _ (call (Value.ref _) _) _ _ _) | (with_reducible show FnAt _ _ ∧ _) | (with_reducible show KswEnd _ _ _ _ _ _ _ _ _ _ _ _) | (with_reducible show wpAny _ _ (pyIter _) _ _ _)))); (first | (k_unfold; (try dsimp only)) | (walk1 <;> (try dsimp only)) | (dsimp only; walk1) | (leave1; (try dsimp only)) | fail "no step")))
  rename (News _ _ _ _) => N1
  refine methSearch N1 (H.mono (memG _ _ _)) ?_
  try dsimp only
  refine callWith_F ⟨_, _, _, _, (N1 _ (memG _ _ _ _ H.search)).1⟩ ?_
  (repeat' ((fail_if_success ((first | (with_reducible show wpAny _ _ (exec (Stmt.While _ _ _ _) _) _ _ _) | (with_reducible show wpAny _ _ (getMethod (Value.ref _) _ _) _ _ _) | (with_reducible show wpAny _ _ (truthy (Value.ref _)) _ _ _) | (with_reducible show wpAny _ _ (call (Value.ref _) _) _ _ _) | (with_reducible show FnAt _ _ ∧ _) | (with_reducible show KswEnd _ _ _ _ _ _ _ _ _ _ _ _) | (with_reducible show wpAny _ _ (pyIter _) _ _ _)))); (first | (k_unfold; (try dsimp only)) | (walk1 <;> (try dsimp only)) | (dsimp only; walk1) | (leave1; (try dsimp only)) | fail "no step")))
  rename (Fr _ _ _ _) => F1
  refine ⟨⟨_, _, _, _, (N1 _ (memG _ _ _ _ H.search)).1⟩, ?_⟩
  refine searchT1 w p loose mean mg mb x chars gl c1 cL ff df fs dt cu cg tx t0 ct h1 t1 tc gvs nn ps qs news (dp + 1) (un + 3) gd _ _ _ _ [] (envX cn cs L a ccd cl :: outer) _ base _ _ _ _ _ _ B' F1 X' N1 hV hgn hg30 hg37 T' rfl ⟨H, hc1, hlen, hxl, by omega⟩ (by omega) (by omega) ?_
  intro v gvs' nn' ps' qs' ex h9 tk9 F9 N9 V9 D9 hp
  clear F1 N1
  rcases spost_cases (at0 := 0) hp with ⟨rfl, rfl, hno⟩ | ⟨k, av, -, hK, hmin, rfl, rfl, hpost⟩
  · exact absurd hend (hno col (Nat.zero_le _))
  · obtain ⟨av', x1, x2, x3, x4, e', ⟨d', f1', f2', f3', c', t', ct1, ct2, ct3, q1, q2, q3, r1, r2, r3, HH⟩, hcs4⟩ := id hpost
    cases e'
    have hkc : k ≤ col := by
      rcases Nat.lt_or_ge col k with h | h
      · exact absurd hend (hmin col (Nat.zero_le _) h)
      · exact h
    (repeat' ((fail_if_success ((first | (with_reducible show wpAny _ _ (exec (Stmt.While _ _ _ _) _) _ _ _) | (with_reducible show wpAny _ _ (getMethod (Value.ref _) _ _) _ _ _) | (with_reducible show wpAny _ _ (truthy (Value.ref _)) _ _ _) | (with_reducible show wpAny _ _ (call (Value.ref _) _) _ _ _) | (with_reducible show FnAt _ _ ∧ _) | (with_reducible show KswEnd _ _ _ _ _ _ _ _ _ _ _ _) | (with_reducible show wpAny _ _ (pyIter _) _ _ _)))); (first | (k_unfold; (try dsimp only)) | (walk1 <;> (try dsimp only)) | (dsimp only; walk1) | (leave1; (try dsimp only)) | fail "no step")))
    rename (News _ _ _ _) => N2
    refine truthyHit N2 (HH.mono (memG _ _ _)) ?_
    (repeat' ((fail_if_success ((first | (with_reducible show wpAny _ _ (exec (Stmt.While _ _ _ _) _) _ _ _) | (with_reducible show wpAny _ _ (getMethod (Value.ref _) _ _) _ _ _) | (with_reducible show wpAny _ _ (truthy (Value.ref _)) _ _ _) | (with_reducible show wpAny _ _ (call (Value.ref _) _) _ _ _) | (with_reducible show FnAt _ _ ∧ _) | (with_reducible show KswEnd _ _ _ _ _ _ _ _ _ _ _ _) | (with_reducible show wpAny _ _ (pyIter _) _ _ _)))); (first | (k_unfold; (try dsimp only)) | (walk1 <;> (try dsimp only)) | (dsimp only; walk1) | (leave1; (try dsimp only)) | fail "no step")))
    rename (News _ _ _ _) => N3
    refine methSpan N3 (HH.mono (memG _ _ _)) ?_
    try dsimp only
    refine callWith_F0 ⟨_, _, _, _, (N3 _ (memG _ _ _ _ HH.span)).1⟩ ?_
    rename (Fr _ _ _ _) => F3
    refine spanT F3 N3 X' (HH.mono (memG _ _ _)) ((CodesIn.mono hcs4 (memG _ _ _)).sub (by simp)) rfl (by show dp + 1 ≤ 900; omega) (by show un + 3 ≤ 900; omega) ?_
    intro tp h8 tk8 t8 F8 N8
    clear F3 N3
    (repeat' ((fail_if_success ((first | (with_reducible show wpAny _ _ (exec (Stmt.While _ _ _ _) _) _ _ _) | (with_reducible show wpAny _ _ (getMethod (Value.ref _) _ _) _ _ _) | (with_reducible show wpAny _ _ (truthy (Value.ref _)) _ _ _) | (with_reducible show wpAny _ _ (call (Value.ref _) _) _ _ _) | (with_reducible show FnAt _ _ ∧ _) | (with_reducible show KswEnd _ _ _ _ _ _ _ _ _ _ _ _) | (with_reducible show wpAny _ _ (pyIter _) _ _ _)))); (first | (k_unfold; (try dsimp only)) | (walk1 <;> (try dsimp only)) | (dsimp only; walk1) | (leave1; (try dsimp only)) | fail "no step")))
    rename (Fr _ _ _ _) => F5
    rename (News _ _ _ _) => N5
    refine ksw_while (σ := RSt) (fun c => (30, tabObj c.ps) :: (37, tabObj c.qs) :: (gl, listOf (gvs ++ refsOf c.hs ++ [Value.ref c.a]).toArray c.nn) :: c.led) (fun c => [("m", .ref c.a), ("found", c.vf), ("i", .int c.k c.ti), ("j", .int (c.k + 1) c.tj)]) (fun _ => True) [] (RInv x chars col gl news) (fun c => chars.length - c.k) ⟨k, av, [], .none, t', t8, nn', ps', qs', ex ++ news⟩ F5 ?_ trivial ?_ ?_ ?_
    · intro p hp
      simp only [refsOf, List.map_nil, List.append_nil] at hp; exact N5 p (.tail _ hp)
    · kst_all
    · exact ⟨V9, ⟨ex, rfl, dj_gl D9⟩, hpost, hK, hkc, (fun _ h => nomatch h), lastAt_nil hmin, rfl, Nat.zero_le _⟩
    · intro c u h7 tk7 _ hI F7 N7
      obtain ⟨kk, am, hs, vf, ti, tj, nn7, ps7, qs7, led⟩ := c
      obtain ⟨V7, ⟨ex7, e7, d7⟩, hit7, at7, le7, ok7, last7, fnd7, sh7⟩ := hI
      (try dsimp only at V7); (try dsimp only at e7); (try dsimp only at hit7); (try dsimp only at at7); (try dsimp only at le7); (try dsimp only at ok7); (try dsimp only at last7); (try dsimp only at fnd7); (try dsimp only at sh7); (try dsimp only at F7); (try dsimp only at N7)
      (try k_fold)
      (repeat' ((fail_if_success ((first | (with_reducible show wpAny _ _ (exec (Stmt.While _ _ _ _) _) _ _ _) | (with_reducible show wpAny _ _ (getMethod (Value.ref _) _ _) _ _ _) | (with_reducible show wpAny _ _ (truthy (Value.ref _)) _ _ _) | (with_reducible show wpAny _ _ (call (Value.ref _) _) _ _ _) | (with_reducible show FnAt _ _ ∧ _) | (with_reducible show KswEnd _ _ _ _ _ _ _ _ _ _ _ _) | (with_reducible show wpAny _ _ (pyIter _) _ _ _)))); (first | (k_unfold; (try dsimp only)) | (walk1 <;> (try dsimp only)) | (dsimp only; walk1) | (leave1; (try dsimp only)) | fail "no step")))
      · exfalso; omega
      · rename (News _ _ _ _) => N6
        have Hm : FinderAt (· ∈ led) ff x gl (.ref c1) cL df fs dt cu cg tx t0 ct h1 t1 := H.mono fun p hp => e7 ▸ List.mem_append_right _ hp
        have hcm : CodesIn (· ∈ led) searchQ [c1] := hc1.mono fun p hp => e7 ▸ List.mem_append_right _ hp
        have hoff7 : ∀ p ∈ led, p.1 ≠ gl := e7 ▸ gl_off d7 hgn
        refine methSearch N6 (Hm.mono (memG _ _ _)) ?_
        try dsimp only
        refine callWith_F ⟨_, _, _, _, (N6 _ (memG _ _ _ _ Hm.search)).1⟩ ?_
        (repeat' ((fail_if_success ((first | (with_reducible show wpAny _ _ (exec (Stmt.While _ _ _ _) _) _ _ _) | (with_reducible show wpAny _ _ (getMethod (Value.ref _) _ _) _ _ _) | (with_reducible show wpAny _ _ (truthy (Value.ref _)) _ _ _) | (with_reducible show wpAny _ _ (call (Value.ref _) _) _ _ _) | (with_reducible show FnAt _ _ ∧ _) | (with_reducible show KswEnd _ _ _ _ _ _ _ _ _ _ _ _) | (with_reducible show wpAny _ _ (pyIter _) _ _ _)))); (first | (k_unfold; (try dsimp only)) | (walk1 <;> (try dsimp only)) | (dsimp only; walk1) | (leave1; (try dsimp only)) | fail "no step")))
        rename (Fr _ _ _ _) => F6
        refine ⟨⟨_, _, _, _, (N6 _ (memG _ _ _ _ Hm.search)).1⟩, ?_⟩
        refine searchT w p loose mean mg mb x chars ((kk : Int) + 1) gl c1 cL ff df fs dt cu cg tx t0 ct h1 t1 tc tj _ nn7 ps7 qs7 led (dp + 1) (un + 3) gd _ _ _ _ [] (envX cn cs L a ccd cl :: outer) _ base _ _ _ _ _ _ B' F6 X' N6 V7 hoff7 hg30 hg37 T' rfl ⟨Hm, hcm, hlen, hxl, by simp; omega⟩ (by omega) (by omega) ?_
        intro v8 gvs8 nn8 ps8 qs8 ex8 h80 tk80 F80 N80 V80 D80 hp8
        clear F6 N6
        have sub8 : ∀ p ∈ led, p ∈ ex8 ++ led := fun p hp => List.mem_append_right _ hp
        have hlt7 : kk < col := by omega
        rcases spost_cases (at0 := kk + 1) (by exact_mod_cast hp8) with ⟨rfl, rfl, hno8⟩ | ⟨k8, av8, hge8, hK8, hmin8, rfl, rfl, hpost8⟩
        · exact absurd hend (hno8 col (by omega))
        · obtain ⟨av8', y1, y2, y3, y4, e8', ⟨d8, g1, g2, g3, c8, u8, bt1, bt2, bt3, z1, z2, z3, w1, w2, w3, HH8⟩, hcs8⟩ := id hpost8
          cases e8'
          have hkc8 : k8 ≤ col := by
            rcases Nat.lt_or_ge col k8 with h | h
            · exact absurd hend (hmin8 col (by omega) h)
            · exact h
          (repeat' ((fail_if_success ((first | (with_reducible show wpAny _ _ (exec (Stmt.While _ _ _ _) _) _ _ _) | (with_reducible show wpAny _ _ (getMethod (Value.ref _) _ _) _ _ _) | (with_reducible show wpAny _ _ (truthy (Value.ref _)) _ _ _) | (with_reducible show wpAny _ _ (call (Value.ref _) _) _ _ _) | (with_reducible show FnAt _ _ ∧ _) | (with_reducible show KswEnd _ _ _ _ _ _ _ _ _ _ _ _) | (with_reducible show wpAny _ _ (pyIter _) _ _ _)))); (first | (k_unfold; (try dsimp only)) | (walk1 <;> (try dsimp only)) | (dsimp only; walk1) | (leave1; (try dsimp only)) | fail "no step")))
          rename (News _ _ _ _) => N81
          refine truthyHit N81 (HH8.mono (memG _ _ _)) ?_
          (repeat' ((fail_if_success ((first | (with_reducible show wpAny _ _ (exec (Stmt.While _ _ _ _) _) _ _ _) | (with_reducible show wpAny _ _ (getMethod (Value.ref _) _ _) _ _ _) | (with_reducible show wpAny _ _ (truthy (Value.ref _)) _ _ _) | (with_reducible show wpAny _ _ (call (Value.ref _) _) _ _ _) | (with_reducible show FnAt _ _ ∧ _) | (with_reducible show KswEnd _ _ _ _ _ _ _ _ _ _ _ _) | (with_reducible show wpAny _ _ (pyIter _) _ _ _)))); (first | (k_unfold; (try dsimp only)) | (walk1 <;> (try dsimp only)) | (dsimp only; walk1) | (leave1; (try dsimp only)) | fail "no step")))
          rename (News _ _ _ _) => N82
          refine methSpan N82 (HH8.mono (memG _ _ _)) ?_
          try dsimp only
          refine callWith_F0 ⟨_, _, _, _, (N82 _ (memG _ _ _ _ HH8.span)).1⟩ ?_
          rename (Fr _ _ _ _) => F82
          refine spanT F82 N82 X' (HH8.mono (memG _ _ _)) ((CodesIn.mono hcs8 (memG _ _ _)).sub (by simp)) rfl (by show dp + 1 ≤ 900; omega) (by show un + 3 ≤ 900; omega) ?_
          intro tp8 h83 tk83 t83 F83 N83
          clear F82 N82
          (repeat' ((fail_if_success ((first | (with_reducible show wpAny _ _ (exec (Stmt.While _ _ _ _) _) _ _ _) | (with_reducible show wpAny _ _ (getMethod (Value.ref _) _ _) _ _ _) | (with_reducible show wpAny _ _ (truthy (Value.ref _)) _ _ _) | (with_reducible show wpAny _ _ (call (Value.ref _) _) _ _ _) | (with_reducible show FnAt _ _ ∧ _) | (with_reducible show KswEnd _ _ _ _ _ _ _ _ _ _ _ _) | (with_reducible show wpAny _ _ (pyIter _) _ _ _)))); (first | (k_unfold; (try dsimp only)) | (walk1 <;> (try dsimp only)) | (dsimp only; walk1) | (leave1; (try dsimp only)) | fail "no step")))
          rename (News _ _ _ _) => N84
          refine ksw_end (⟨k8, av8, hs ++ [(kk, am)], .ref am, u8, t83, nn8, ps8, qs8, ex8 ++ led⟩ : RSt) (by assumption) N84 (fun p hp => .tail _ (by simp only [refsOf, List.map_append, List.map_cons, List.map_nil, List.append_assoc, List.singleton_append] at hp ⊢; exact hp)) trivial (by kst_all) ?_
            ⟨V80, ⟨ex8 ++ ex7, by rw [e7, List.append_assoc], dj_compG (e7 ▸ D80) d7⟩, hpost8, hK8, hkc8, ?_, lastAt_snoc (show kk < k8 by omega) at7 hmin8, by simp [lastRef], by show (hs ++ [(kk, am)]).length ≤ k8; simp; omega⟩ (by show chars.length - k8 < chars.length - kk; omega)
          · intro z h2 _
            have e1 : z ≠ PySem.Str.ofString "m" := h2 ("m", .ref av8) (.head _)
            have e2 : z ≠ PySem.Str.ofString "found" := h2 ("found", .ref am) (.tail _ (.head _))
            have e3 : z ≠ PySem.Str.ofString "i" := h2 ("i", .int k8 u8) (.tail _ (.tail _ (.head _)))
            have e4 : z ≠ PySem.Str.ofString "j" := h2 ("j", .int (k8 + 1) t83) (.tail _ (.tail _ (.tail _ (.head _))))
            simp [kstB, e1, e2, e3, e4]
          · intro q hq
            rcases List.mem_append.mp hq with hq | hq
            · exact ok7.mono (show kk ≤ k8 by omega) sub8 q hq
            · rw [List.mem_singleton] at hq
              subst hq
              exact ⟨by show kk < k8; omega, hit7.mono sub8⟩
      · rename (News h₀ _ _ _) => kN
        have hkk : kk = col := by omega
        subst hkk
        refine hret vf (gvs ++ refsOf hs ++ [.ref am]) nn7 ps7 qs7 ex7 _ _ (by assumption) ?_ ?_ (dj_gl d7) ?_
        · rw [← e7]; exact kN
        · rw [← e7]; exact V7
        · rw [← e7]
          exact ⟨hs, am, rfl, hit7, ok7, last7, sh7, fnd7⟩
end Mine
end
section
open PySem PySem.W PyProof.Rows PySem.Spec PySem.Calls
set_option Elab.async false
set_option maxRecDepth 100000
namespace Mine
/-- the number of a word, the last figure first -/
noncomputable def encR (lo : Nat) : List Nat → Nat
  | [] => 0
  | d :: r => 16 * encR lo r + (lo + d)
noncomputable def DrI (lo mm : Nat) (n : Nat) (number : Int) : Prop := ∃ wd : List Nat, number = (encR lo wd : Nat) ∧ wd.length = n ∧ ∀ d ∈ wd, d < mm
theorem drI0 (lo mm : Nat) : DrI lo mm ([] : List Int).length 0 := ⟨[], rfl, rfl, (fun _ h => nomatch h)⟩
theorem drI_step {lo mm : Nat} {pre : List Int} {number q k low many : Int} (h : DrI lo mm pre.length number) (hm : 0 < mm) (hl : low = (lo : Int)) (hq : many = (mm : Int)) : DrI lo mm (pre ++ [k]).length (16 * number + low + q.fmod many) := by
  obtain ⟨wd, e1, e2, e3⟩ := h
  have h1 := Int.fmod_nonneg_of_pos q (b := many) (by omega)
  have h2 := Int.fmod_lt_of_pos q (b := many) (by omega)
  refine ⟨(q.fmod many).toNat :: wd, ?_, by simp [e2], fun d hd => ?_⟩
  · rw [encR]; omega
  · rcases List.mem_cons.mp hd with hd | hd
    · omega
    · exact e3 d hd
theorem drI_end {lo mm n sz : Nat} {number : Int} {t : Tok} (h : DrI lo mm n number) (hn : n = sz) : ∃ wd t', Value.int number t = .int (encR lo wd : Nat) t' ∧ wd.length = sz ∧ ∀ d ∈ wd, d < mm := by
  obtain ⟨wd, e1, e2, e3⟩ := h
  exact ⟨wd, t, by rw [e1], by omega, e3⟩
theorem powm_log {many : Int} {mm : Nat} (hm : many = (mm : Int)) (h4 : mm ≤ 4) (k : Nat) (hk : k ≤ 1000) : (many ^ k).natAbs.log2 < 9000 := by
  subst hm
  rw [Int.natAbs_pow, Int.natAbs_natCast]
  by_cases hz : mm ^ k = 0
  · rw [hz]; decide
  · rw [Nat.log2_lt hz]
    refine Nat.lt_of_le_of_lt (Nat.pow_le_pow_left h4 k) ?_
    rw [show (4 : Nat) ^ k = 2 ^ (2 * k) by rw [Nat.pow_mul]]
    exact Nat.pow_lt_pow_right (by decide) (by omega)
set_option maxRecDepth 100000 in
set_option maxHeartbeats 8000000 in
theorem nextT (w : World) (p : Program) (loose : List PySem.Str) (mean : ExcName → Option Value) (mg mb : Str → Option Value) (news : List (Addr × Obj)) (figure low many : Int) (t1 t2 t3 : Tok) :
    Ctr (PySem.Challenge.rw_ph0011_02.row.prog) w (Mine.hd.heap_39 w.params) p loose mean mg mb 49 news [.int figure t1, .int low t2, .int many t3] (0 < many) (fun v news' => news' = news ∧ ∃ t', v = .int (low + (figure - low + 1).fmod many) t') := by
  k_with_none
  k_fill
  intro dp un gd cn cs a ccd cl outer A₀ base h₀ L m s Q E hB hF hK hN hT hcs hpre hdp hun hret
  have hne : many ≠ 0 := by omega
  refine wpAny_call ?_
  k_dflt cell_enter
  (repeat' ((fail_if_success ((first | (with_reducible show wpAny _ _ (binaryOp Operator.FloorDiv _ _) _ _ _) | (with_reducible show wpAny _ _ (exec (Stmt.While _ _ _ _) _) _ _ _) | (with_reducible show wpAny _ _ (pyIter _) _ _ _)))); (first | (k_unfold; (try dsimp only)) | (walk1 <;> (try dsimp only)) | (dsimp only; walk1) | (leave1; (try dsimp only)) | fail "no step")))
  exact hret _ news _ _ (by assumption) (by assumption) ⟨rfl, _, rfl⟩
set_option maxHeartbeats 8000000 in
theorem drawnT (w : World) (p : Program) (loose : List PySem.Str) (mean : ExcName → Option Value) (mg mb : Str → Option Value) (news : List (Addr × Obj)) (lo mm sz : Nat) (code size low many : Int) (t1 t2 t3 t4 : Tok) :
    Ctr (PySem.Challenge.rw_ph0011_02.row.prog) w (Mine.hd.heap_39 w.params) p loose mean mg mb 56 news [.int code t1, .int size t2, .int low t3, .int many t4] (size = (sz : Int) ∧ sz ≤ 6 ∧ low = (lo : Int) ∧ lo ≤ 15 ∧ many = (mm : Int) ∧ 2 ≤ mm ∧ mm ≤ 4) (fun v news' => news' = news ∧ ∃ wd t', v = .int (encR lo wd : Nat) t' ∧ wd.length = sz ∧ ∀ d ∈ wd, d < mm) := by
  k_with_none
  k_fill
  intro dp un gd cn cs a ccd cl outer A₀ base h₀ L m s Q E hB hF hK hN hT hcs hpre hdp hun hret
  obtain ⟨hs, hs1, hl, hl1, hm, hm1, hm2⟩ := hpre
  have hne : many ≠ 0 := by omega
  refine wpAny_call ?_
  k_dflt cell_enter
  (repeat' ((fail_if_success ((first | (with_reducible show wpAny _ _ (binaryOp Operator.FloorDiv _ _) _ _ _) | (with_reducible show wpAny _ _ (exec (Stmt.While _ _ _ _) _) _ _ _) | (with_reducible show wpAny _ _ (pyIter _) _ _ _)))); (first | (k_unfold; (try dsimp only)) | (walk1 <;> (try dsimp only)) | (dsimp only; walk1) | (leave1; (try dsimp only)) | fail "no step")))
  k_with "state" => first | exact drI0 lo mm | exact drI_step (by assumption) (by omega) (by assumption) (by assumption)
  try dsimp only at *
  k_state (fun pre number => DrI lo mm pre.length number) "number"
  (repeat' ((fail_if_success ((first | (with_reducible show wpAny _ _ (binaryOp Operator.FloorDiv _ _) _ _ _) | (with_reducible show wpAny _ _ (exec (Stmt.While _ _ _ _) _) _ _ _) | (with_reducible show wpAny _ _ (pyIter _) _ _ _)))); (first | (k_unfold; (try dsimp only)) | (walk1 <;> (try dsimp only)) | (dsimp only; walk1) | (leave1; (try dsimp only)) | fail "no step")))
  · refine floordiv_int (Int.pow_ne_zero hne) ?_ (.inl (PyProof.noPylong_of_log2 (powm_log hm hm2 _ (by omega))))
    try dsimp only
    (repeat' ((fail_if_success ((first | (with_reducible show wpAny _ _ (binaryOp Operator.FloorDiv _ _) _ _ _) | (with_reducible show wpAny _ _ (exec (Stmt.While _ _ _ _) _) _ _ _) | (with_reducible show wpAny _ _ (pyIter _) _ _ _)))); (first | (k_unfold; (try dsimp only)) | (walk1 <;> (try dsimp only)) | (dsimp only; walk1) | (leave1; (try dsimp only)) | fail "no step")))
  · rename (News _ _ _ _) => kN
    refine hret _ news _ _ (by assumption) (fun p hp => kN p hp) ⟨rfl, ?_⟩
    exact drI_end kInv (by simp [rangeKs_length]; omega)
end Mine
end
section
open PySem PySem.W PySem.W.X PyProof.Rows PySem.Spec PySem.Calls
set_option Elab.async false
set_option maxRecDepth 100000
namespace Mine
noncomputable def GrEnd {σ : Type} (h₀ : Heap) (L : Addr) (Led : σ → List (Addr × Obj)) (ps : σ → List (PySem.Str × Value)) (stored : List PySem.Str) (x : PySem.Str) (m₀ : PySem.Str → Option Value) (P : σ → Prop) (own : List (Addr × Obj)) (s₁ s₂ : Shared) : Prop :=
  ∃ c h' tk m' news', s₂ = { s₁ with heap := h', toks := tk } ∧ Fr h₀ L h' m' ∧ News h₀ L h' news' ∧ (∀ p ∈ Led c, p ∈ news') ∧ (∀ p ∈ own, p ∈ news') ∧ Dj own (Led c) ∧ (∀ p ∈ ps c, m' p.1 = some p.2) ∧
    (∀ z, z ≠ x → (∀ p ∈ ps c, z ≠ p.1) → stored.contains z = false → m' z = m₀ z) ∧ P c
noncomputable def GrPost {σ : Type} (h₀ : Heap) (L : Addr) (Led : σ → List (Addr × Obj)) (ps : σ → List (PySem.Str × Value)) (stored : List PySem.Str) (x : PySem.Str) (m₀ : PySem.Str → Option Value) (P : σ → Prop) (own : List (Addr × Obj)) (Q : Flow → Shared → Prop) (s₁ : Shared) (f : Flow) (s₂ : Shared) : Prop :=
  match f with
  | .ret v => Q (.ret v) s₂
  | .brk => Q .next s₂
  | _ => GrEnd h₀ L Led ps stored x m₀ P own s₁ s₂
section
variable {prog : Program} {w : World} {A : Around} {E : Value → Shared → Prop} {s : Shared} {env : Env} {h₀ : Heap} {x : PySem.Str} {body : List Stmt} {Q : Flow → Shared → Prop}
theorem gr_range {σ : Type} {r : Addr} {a₀ b₀ : Int} {t₀ u₀ v₀ : Tok} {n : Nat} {m₀ : PySem.Str → Option Value} (Led : σ → List (Addr × Obj)) (ps : σ → List (PySem.Str × Value)) (stored : List PySem.Str) (P : Nat → σ → Prop) (c₀ : σ)
    (hh : A.handled = none) (hr : IsRange s.heap r a₀ b₀ 1 t₀ u₀ v₀) (hsmall : Builtin.Range.small a₀ b₀ 1 = true) (hn : Builtin.Range.rangeSize a₀ b₀ 1 = (n : Int)) (F : Fr h₀ env.locals s.heap m₀) (N : News h₀ env.locals s.heap (Led c₀)) (hk : ∀ p ∈ ps c₀, m₀ p.1 = some p.2) (hp : P 0 c₀)
    (turn : ∀ (c : σ) (i : Nat) t (u : PySem.Str → Option Value) h tk own, i < n → Dj own (Led c) → (∀ p ∈ own, p.2.cls ≠ .type "code") → P i c →
      Fr h₀ env.locals h (fun y => if y = x then some (.int (a₀ + (i : Int)) t) else kstB (fun z => if stored.contains z then u z else m₀ z) (ps c) y) → News h₀ env.locals h (Led c ++ own) →
      wpAny (model prog w) A (execs body env) (GrPost h₀ env.locals Led ps stored x m₀ (P (i + 1)) own Q { s with heap := h, toks := tk }) E { s with heap := h, toks := tk })
    (done : ∀ (c : σ) (u : PySem.Str → Option Value) h tk, P n c → Fr h₀ env.locals h (fun y => if y = x then u y else kstB (fun z => if stored.contains z then u z else m₀ z) (ps c) y) → News h₀ env.locals h (Led c) → Q .next { s with heap := h, toks := tk }) :
    wpAny (model prog w) A (pyIter (.ref r)) (fun it s₂ => LoopAtV prog w A h₀ env x body Q E it s₂) E s := by
  refine wpAny_pyIter_range hr hsmall ?_
  have W : Walks prog w A s.heap.objs.size [s.heap.objs.size] [s.heap.objs.size] n (fun i v => i < n ∧ ∃ t, v = .int (a₀ + i * 1) t)
      (fun i h => IsRangeIter h s.heap.objs.size (a₀ + (i : Nat) * 1) ((n : Int) - (i : Nat)) 1) := (Walks.range hh _ a₀ 1 n).bound
  let J : Nat → (PySem.Str → Option Value) → List (Addr × Obj) → Prop := fun i m nx => ∃ c, nx = Led c ∧ (∀ p ∈ ps c, m p.1 = some p.2) ∧ (∀ z, z ≠ x → (∀ p ∈ ps c, z ≠ p.1) → stored.contains z = false → m z = m₀ z) ∧ P i c
  refine ⟨_, _, _, n, _, _, m₀, Led c₀, J, rfl, W, ?_, ?_, ?_, (by show IsRangeIter _ _ _ _ _; rw [hn]; simpa using Heap.get?_push_size _ rfl), F.push _, (fun p hp => ⟨Heap.get?_push_of_some _ (N p hp).1, (N p hp).2⟩), ⟨c₀, rfl, hk, fun _ _ _ _ => rfl, hp⟩, ?_, ?_⟩
  · intro hm
    exact absurd F.ns.lt ((List.mem_singleton.mp hm) ▸ Nat.lt_irrefl _)
  · intro b hb
    rw [List.mem_singleton.mp hb]
    exact next_is_new F
  · intro p hp hI
    exact absurd (Heap.lt_size (N p hp).1) ((List.mem_singleton.mp hI) ▸ Nat.lt_irrefl _)
  · rintro i v m₁ nx s₁ own ⟨hh', tk', rfl⟩ hin ⟨_, t, rfl⟩ ⟨c, rfl, h1, h2, hp'⟩ hoff hown hget hall hst F₁ N₁
    have hcode : ∀ p ∈ own, p.2.cls ≠ .type "code" := fun p hp => by
      have q1 := hget p hp
      rw [List.mem_singleton.mp (hown p hp)] at q1
      have q2 : hh'.get? s.heap.objs.size = some _ := hst
      have q3 : some p.2 = some _ := q1.symm.trans q2
      rw [Option.some.inj q3]
      show Value.type "range_iterator" ≠ Value.type "code"
      decide
    have e1 : a₀ + (i : Int) * 1 = a₀ + (i : Int) := by omega
    rw [e1] at F₁
    have hdj : Dj own (Led c) := fun p hp q hq e => hoff q hq (e ▸ hown p hp)
    have N₂ : News h₀ env.locals hh' (Led c ++ own) := fun p hp => N₁ p ((List.mem_append.mp hp).elim (fun h => List.mem_append.mpr (.inr h)) fun h => List.mem_append.mpr (.inl h))
    have hown' : ∃ o, (s.heap.objs.size, o) ∈ own := ⟨_, hall _ (List.mem_singleton.mpr rfl) (next_is_new F) _ hst⟩
    refine wpAny_mono (turn c i t m₁ hh' tk' own hin hdj hcode hp' (kst_fr h1 h2 F₁) N₂) (fun f s₂ p => ?_) fun _ _ e => e
    have fin : GrEnd h₀ env.locals Led ps stored x m₀ (P (i + 1)) own { s with heap := hh', toks := tk' } s₂ → LoopStepU h₀ env.locals [s.heap.objs.size] own (J (i + 1)) { s with heap := hh', toks := tk' } .next s₂ := by
      rintro ⟨c', h', tk, m', news', e, F', N', hn', ho', hd, k1, k2, kp⟩
      refine ⟨rfl, h', tk, m', Led c', e, F', fun p hp => N' p ((List.mem_append.mp hp).elim (ho' p) (hn' p)), fun p hp hq => ?_, c', rfl, k1, k2, kp⟩
      obtain ⟨o, ho⟩ := hown'
      exact hd _ ho p hp (List.mem_singleton.mp hq).symm
    cases f with
    | ret v => exact .ret p
    | brk => exact .brk p
    | next => exact .next (fin p)
    | cont => exact .cont (fin p)
  · rintro h' tk m' news' F' N' _ ⟨c, rfl, h1, h2, hp'⟩
    exact done c m' h' tk hp' (kst_frOut h1 h2 F') N'
end
end Mine
end
section
open PySem PySem.W PyProof.Rows PySem.Spec PySem.Calls
set_option Elab.async false
set_option maxRecDepth 100000
namespace Mine
/-- the last figure behind f, in a text told from its end -/
noncomputable def scan (f : List Nat) : List Nat → Option Nat
  | [] => none
  | a :: r => if r.take f.length = f then some a else scan f r
noncomputable def nextR (w m : Nat) (rs : List Nat) : Nat := match scan (rs.take w) rs with
  | none => 0
  | some d => (d + 1) % m
noncomputable def stepR (w m : Nat) (rs : List Nat) : List Nat := nextR w m rs :: rs
noncomputable def iterR (w m : Nat) : Nat → List Nat → List Nat
  | 0, rs => rs
  | n + 1, rs => iterR w m n (stepR w m rs)
noncomputable def Dig (m : Nat) (rs : List Nat) : Prop := ∀ d ∈ rs, d < m
theorem Dig.drop {m : Nat} {rs : List Nat} (h : Dig m rs) (k : Nat) : Dig m (rs.drop k) := fun d hd => h d (List.mem_of_mem_drop hd)
theorem Dig.take {m : Nat} {rs : List Nat} (h : Dig m rs) (k : Nat) : Dig m (rs.take k) := fun d hd => h d (List.mem_of_mem_take hd)
theorem encR_drop (lo m : Nat) (hl : lo + m ≤ 16) : ∀ (j : Nat) (rs : List Nat), Dig m rs → encR lo rs / 16 ^ j = encR lo (rs.drop j)
  | 0, rs, _ => by simp
  | j + 1, [], _ => by simp [encR]
  | j + 1, d :: r, h => by
    have hd := h d (.head _)
    rw [List.drop_succ_cons, ← encR_drop lo m hl j r (fun x hx => h x (.tail _ hx)), encR, Nat.pow_succ', ← Nat.div_div_eq_div_mul]
    congr 1
    omega
theorem encR_take (lo m : Nat) (hl : lo + m ≤ 16) : ∀ (j : Nat) (rs : List Nat), Dig m rs → encR lo rs % 16 ^ j = encR lo (rs.take j)
  | 0, rs, _ => by simp [encR, Nat.mod_one]
  | j + 1, [], _ => by simp [encR]
  | j + 1, d :: r, h => by
    have hd := h d (.head _)
    rw [List.take_succ_cons, encR, encR, ← encR_take lo m hl j r (fun x hx => h x (.tail _ hx)), Nat.pow_succ', Nat.mod_mul]
    have e1 : (16 * encR lo r + (lo + d)) % 16 = lo + d := by omega
    have e2 : (16 * encR lo r + (lo + d)) / 16 = encR lo r := by omega
    rw [e1, e2]; omega
theorem encR_head (lo m : Nat) (hl : lo + m ≤ 16) {d : Nat} {r : List Nat} (h : d < m) : encR lo (d :: r) % 16 = lo + d := by
  rw [encR]; omega
theorem encR_inj (lo m : Nat) (hl : lo + m ≤ 16) : ∀ (f g : List Nat), f.length = g.length → Dig m f → Dig m g → encR lo f = encR lo g → f = g
  | [], [], _, _, _, _ => rfl
  | a :: f, b :: g, hlen, hf, hg, e => by
    have ha := hf a (.head _)
    have hb := hg b (.head _)
    rw [encR, encR] at e
    rw [encR_inj lo m hl f g (by simpa using hlen) (fun x hx => hf x (.tail _ hx)) (fun x hx => hg x (.tail _ hx)) (by omega)]
    congr 1
    omega
theorem scan_lt {m : Nat} {f : List Nat} : ∀ {rs : List Nat} {d : Nat}, Dig m rs → scan f rs = some d → d < m
  | a :: r, d, h, e => by
    unfold scan at e
    split at e
    · cases e; exact h _ (.head _)
    · exact scan_lt (fun x hx => h x (.tail _ hx)) e
theorem nextR_lt {w m : Nat} {rs : List Nat} (hm : 0 < m) : nextR w m rs < m := by
  unfold nextR
  split
  · exact hm
  · exact Nat.mod_lt _ hm
theorem Dig.step {w m : Nat} {rs : List Nat} (hm : 0 < m) (h : Dig m rs) : Dig m (stepR w m rs) := fun d hd => by
  rcases List.mem_cons.mp hd with rfl | hd
  · exact nextR_lt hm
  · exact h d hd
theorem scan_short {w : Nat} {f : List Nat} (hf : f.length = w) : ∀ {rs : List Nat}, rs.length ≤ w → scan f rs = none
  | [], _ => rfl
  | a :: r, h => by
    unfold scan
    rw [if_neg, scan_short hf (by simp at h; omega)]
    intro e
    have := congrArg List.length e
    simp at this h
    omega
theorem valueAt_stored {kvs : List (Int × Value)} (k k' : Int) (v : Value) : valueAt (stored kvs k v) k' = if k' = k then some v else valueAt kvs k' := by
  unfold stored valueAt
  by_cases hc : (kvs.any fun kv => decide (kv.1 = k)) = true
  · rw [if_pos hc]
    induction kvs with
    | nil => simp at hc
    | cons p kvs ih =>
      rw [List.map_cons, List.find?_cons, List.find?_cons]
      by_cases hp : p.1 = k
      · simp only [hp, if_true]
        by_cases hk : k' = k
        · simp [hk]
        · have h1 : decide (k = k') = false := by simp; exact fun e => hk e.symm
          rw [h1, if_neg hk]
          try dsimp only
          by_cases hc' : (kvs.any fun kv => decide (kv.1 = k)) = true
          · rw [ih hc', if_neg hk]
          · congr 1
            have : (kvs.map fun kv => if kv.1 = k then (kv.1, v) else kv) = kvs := by
              refine (List.map_congr_left fun q hq => ?_).trans (List.map_id _)
              rw [if_neg]; rfl
              intro e
              exact hc' (List.any_eq_true.mpr ⟨q, hq, by simpa using e⟩)
            rw [this]
      · simp only [if_neg hp]
        by_cases hk : p.1 = k'
        · have h1 : decide (p.1 = k') = true := by simpa using hk
          rw [h1]
          try dsimp only
          rw [if_neg (fun e => hp (hk.trans e))]
        · have h1 : decide (p.1 = k') = false := by simpa using hk
          rw [h1]
          try dsimp only
          refine ih ?_
          simp only [List.any_cons, Bool.or_eq_true, decide_eq_true_eq] at hc
          exact hc.resolve_left hp
  · rw [if_neg hc, List.find?_append]
    by_cases hk : k' = k
    · subst hk
      rw [if_pos rfl]
      have : (kvs.find? fun kv => decide (kv.1 = k')) = none := by
        rw [List.find?_eq_none]
        intro q hq e
        exact hc (List.any_eq_true.mpr ⟨q, hq, e⟩)
      rw [this]
      simp
    · rw [if_neg hk]
      have : decide (k = k') = false := by simp; exact fun e => hk e.symm
      simp [this]
theorem stored_len {kvs : List (Int × Value)} (k : Int) (v : Value) : (stored kvs k v).length ≤ kvs.length + 1 := by
  unfold stored
  split <;> simp
/-- the dict keeps for each front the last figure behind it -/
noncomputable def DictOk (lo m w : Nat) (rs : List Nat) (kvs : List (Int × Value)) : Prop := ∀ f : List Nat, f.length = w → Dig m f → match scan f rs with
  | none => valueAt kvs ((encR lo f : Nat) : Int) = none
  | some d => ∃ t, valueAt kvs ((encR lo f : Nat) : Int) = some (.int ((lo + d : Nat) : Int) t)
theorem dictOk0 {lo m w : Nat} {rs : List Nat} (h : rs.length ≤ w) : DictOk lo m w rs [] := fun f hf _ => by
  rw [scan_short hf h]; rfl
theorem dictOk_step {lo m w d : Nat} {rs : List Nat} {kvs : List (Int × Value)} {t : Tok} (hl : lo + m ≤ 16) (hw : w ≤ rs.length) (hr : Dig m rs) (h : DictOk lo m w rs kvs) : DictOk lo m w (d :: rs) (stored kvs ((encR lo (rs.take w) : Nat) : Int) (.int ((lo + d : Nat) : Int) t)) := fun f hf hd => by
  have h0 := h f hf hd
  unfold scan
  rw [valueAt_stored]
  by_cases e : rs.take f.length = f
  · rw [if_pos e, hf.symm, e, if_pos rfl]
    exact ⟨t, rfl⟩
  · rw [if_neg e, if_neg]
    · exact h0
    · intro e2
      rw [hf] at e
      exact e (encR_inj lo m hl _ _ (by rw [List.length_take]; omega) (hr.take w) hd (by exact_mod_cast e2.symm))
theorem dictOk_at {lo m w : Nat} {rs : List Nat} {kvs : List (Int × Value)} (hw : w ≤ rs.length) (hr : Dig m rs) (h : DictOk lo m w rs kvs) :
    (scan (rs.take w) rs = none ∧ valueAt kvs ((encR lo (rs.take w) : Nat) : Int) = none) ∨ ∃ d t, scan (rs.take w) rs = some d ∧ d < m ∧ valueAt kvs ((encR lo (rs.take w) : Nat) : Int) = some (.int ((lo + d : Nat) : Int) t) := by
  have h0 := h (rs.take w) (by rw [List.length_take]; omega) (hr.take w)
  cases e : scan (rs.take w) rs with
  | none => rw [e] at h0; exact .inl ⟨rfl, h0⟩
  | some d => rw [e] at h0; obtain ⟨t, ht⟩ := h0; exact .inr ⟨d, t, rfl, scan_lt hr e, ht⟩
end Mine
end
section
open PySem PySem.W PyProof.Rows PySem.Spec PySem.Calls
set_option Elab.async false
set_option maxRecDepth 100000
namespace Mine
theorem pow16_ne (n : Nat) : (16 : Int) ^ n ≠ 0 := Int.pow_ne_zero (by decide)
theorem pow16_log (k : Nat) (hk : k ≤ 1000) : ((16 : Int) ^ k).natAbs.log2 < 9000 := by
  rw [Int.natAbs_pow]
  show (16 ^ k).log2 < 9000
  have : 16 ^ k = 2 ^ (4 * k) := by rw [Nat.pow_mul]
  rw [this, Nat.log2_two_pow]
  omega
theorem cast_div (a b : Nat) : ((a : Nat) : Int).fdiv ((16 : Int) ^ b) = ((a / 16 ^ b : Nat) : Int) := by
  have h : ((16 : Int) ^ b) = ((16 ^ b : Nat) : Int) := by norm_cast
  rw [h, Int.fdiv_eq_ediv_of_nonneg _ (Int.natCast_nonneg _)]
  norm_cast
theorem cast_mod (a b : Nat) : ((a : Nat) : Int).fmod ((16 : Int) ^ b) = ((a % 16 ^ b : Nat) : Int) := by
  have h : ((16 : Int) ^ b) = ((16 ^ b : Nat) : Int) := by norm_cast
  rw [h, Int.fmod_eq_emod_of_nonneg _ (Int.natCast_nonneg _)]
  norm_cast
theorem key_eq {number width e : Int} {lo mm wd j : Nat} {rs : List Nat} (hn : number = (encR lo rs : Nat)) (hw : width = (wd : Int)) (hl : lo + mm ≤ 16) (hr : Dig mm rs) (he : e = (j : Int)) : (number.fdiv (16 ^ e.toNat)).fmod (16 ^ width.toNat) = ((encR lo ((rs.drop j).take wd) : Nat) : Int) := by
  subst hn hw he
  rw [Int.toNat_natCast, Int.toNat_natCast, cast_div, cast_mod, encR_drop lo mm hl j rs hr, encR_take lo mm hl wd _ (hr.drop j)]
theorem val_eq {number e : Int} {lo mm j : Nat} {rs : List Nat} (hn : number = (encR lo rs : Nat)) (hl : lo + mm ≤ 16) (hr : Dig mm rs) (he : e = (j : Int)) (hj : j < rs.length) : (number.fdiv (16 ^ e.toNat)).fmod 16 = ((lo + rs[j] : Nat) : Int) := by
  subst hn he
  have h1 := cast_mod (encR lo rs / 16 ^ j) 1
  rw [Int.pow_one, Nat.pow_one] at h1
  rw [Int.toNat_natCast, cast_div, h1, encR_drop lo mm hl j rs hr, List.drop_eq_getElem_cons hj, encR_head lo mm hl (hr _ (List.getElem_mem hj))]
theorem key_eq0 {number width : Int} {lo mm wd : Nat} {rs : List Nat} (hn : number = (encR lo rs : Nat)) (hw : width = (wd : Int)) (hl : lo + mm ≤ 16) (hr : Dig mm rs) : number.fmod (16 ^ width.toNat) = ((encR lo (rs.take wd) : Nat) : Int) := by
  subst hn hw
  rw [Int.toNat_natCast, cast_mod, encR_take lo mm hl wd _ hr]
theorem valueAt_self {kvs : List (Int × Value)} (k : Int) (v : Value) : valueAt (stored kvs k v) k = some v := by rw [valueAt_stored, if_pos rfl]
theorem next_eq {lo mm d : Nat} {low many : Int} (hl : low = (lo : Int)) (hm : many = (mm : Int)) : low + (((lo + d : Nat) : Int) - low + 1).fmod many = ((lo + (d + 1) % mm : Nat) : Int) := by
  subst hl hm
  rw [show ((lo + d : Nat) : Int) - (lo : Int) + 1 = ((d + 1 : Nat) : Int) by omega, Int.fmod_eq_emod_of_nonneg _ (Int.natCast_nonneg _)]
  omega
theorem enc_step {lo d : Nat} {rs : List Nat} {number : Int} (hn : number = (encR lo rs : Nat)) : 16 * number + ((lo + d : Nat) : Int) = (encR lo (d :: rs) : Nat) := by
  subst hn
  rw [encR]; omega
theorem dj_head {own news : List (Addr × Obj)} {d : Addr} {o o' : Obj} (h : Dj own ((d, o) :: news)) : Dj own ((d, o') :: news) := fun p hp q hq => by
  rcases List.mem_cons.mp hq with rfl | hq
  · exact h p hp (d, o) (.head _)
  · exact h p hp q (.tail _ hq)
/-- as Ctr, with room for a call -/
noncomputable abbrev CtrL (prog : Program) (w : World) (K : Frag) (p : Program) (loose : List PySem.Str) (mean : ExcName → Option Value) (mg mb : Str → Option Value) (f : Addr) (news : List (Addr × Obj)) (vs : List Value) (pre : Prop) (Post : Value → List (Addr × Obj) → Prop) : Prop :=
  ∀ (dp un : Nat) (gd : Option (List Code)) (cn : Str) (cs : Scope) (a : Addr) (ccd : Value) (cl : List (Str × Addr)) (outer : List Env) (A₀ : Around) (base h₀ : Heap) (L : Addr) (m : Str → Option Value) (s : Shared) (Q E : Value → Shared → Prop),
    Below A₀ base outer h₀ → Fr h₀ L s.heap m → K.In h₀ → News h₀ L s.heap news → Top p loose mean mg mb h₀ → cs.kind = .function → pre →
    dp + 40 ≤ 900 → un + 400 ≤ 900 → (∀ v news' h' tk', Fr h₀ L h' m → News h₀ L h' news' → Post v news' → Q v { s with heap := h', toks := tk' }) →
      wpAny (model prog w) (ktrTop dp un gd cn cs L a ccd cl outer) (call (.ref f) vs) Q E s
theorem int_mono {M : Model} {A : Around} {t : Sem Value} {Q E : Value → Shared → Prop} {s : Shared} {h₀ : Heap} {L : Addr} {m : Str → Option Value} {news : List (Addr × Obj)} (F : Fr h₀ L s.heap m) (N : News h₀ L s.heap news) (n : Int)
    (h1 : wpAny M A t (fun v s' => ∃ t' h' k, v = .int n t' ∧ s' = { s with heap := h', toks := k } ∧ Fr h₀ L h' m ∧ News h₀ L h' news) E s) (h2 : ∀ t' h' k, Fr h₀ L h' m → News h₀ L h' news → Q (.int n t') { s with heap := h', toks := k }) : wpAny M A t Q E s :=
  wpAny_mono h1 (fun _ _ ⟨t', h', k, e1, e2, F', N'⟩ => by subst e1 e2; exact h2 t' h' k F' N') fun _ _ e => e
structure DSt where
  o : Obj
  kvs : List (Int × Value)
structure NSt where
  o : Obj
  kvs : List (Int × Value)
  number : Int
  t : Tok
  rs : List Nat
set_option maxHeartbeats 8000000 in
theorem walkedT (w : World) (p : Program) (loose : List PySem.Str) (mean : ExcName → Option Value) (mg mb : Str → Option Value) (news : List (Addr × Obj)) (lo mm wd sz st : Nat) (rs : List Nat) (number size width low many steps : Int) (t1 t2 t3 t4 t5 t6 : Tok) :
    CtrL (PySem.Challenge.rw_ph0011_02.row.prog) w (Mine.hd.heap_39 w.params) p loose mean mg mb 63 news [.int number t1, .int size t2, .int width t3, .int low t4, .int many t5, .int steps t6] (number = (encR lo rs : Nat) ∧ size = (sz : Int) ∧ rs.length = sz ∧ sz ≤ 6 ∧ width = (wd : Int) ∧ 1 ≤ wd ∧ wd ≤ sz ∧ low = (lo : Int) ∧ many = (mm : Int) ∧ 2 ≤ mm ∧ lo + mm ≤ 16 ∧ steps = (st : Int) ∧ st ≤ 64 ∧ Dig mm rs) (fun v news' => news' = news ∧ ∃ t', v = .int (encR lo (iterR wd mm st rs) : Nat) t') := by
  k_with_none
  k_fill
  intro dp un gd cn cs a ccd cl outer A₀ base h₀ L m s Q E hB hF hK hN hT hcs hpre hdp hun hret
  obtain ⟨hnum, hsz, hrl, hsz6, hwd, hwd1, hwds, hlow, hmany, hm2, hlm, hst, hst64, hdig⟩ := hpre
  refine wpAny_call ?_
  k_dflt cell_enter
  rename (Below _ _ _ _) => B'
  rename (Frag.In _ _) => X'
  rename (Top _ _ _ _ _ _) => T'
  (repeat' ((fail_if_success ((first | (with_reducible show wpAny _ _ (binaryOp Operator.FloorDiv _ _) _ _ _) | (with_reducible show wpAny _ _ (setItem _ _ _) _ _ _) | (with_reducible show wpAny _ _ (eval (PySem.Expr.IfExp _ _ _ _) _) _ _ _) | (with_reducible show Exists _) | (with_reducible show wpAny _ _ (compareOp _ _ (Value.ref _)) _ _ _) | (with_reducible show wpAny _ _ (subscriptTail _ _ (Value.ref _) _) _ _ _) | (with_reducible show wpAny _ _ (call (Value.ref _) _) _ _ _) | (with_reducible show GrEnd _ _ _ _ _ _ _ _ _ _ _) | (with_reducible show wpAny _ _ (exec (Stmt.While _ _ _ _) _) _ _ _) | (with_reducible show wpAny _ _ (pyIter _) _ _ _)))); (first | ((with_reducible show GrPost _ _ _ _ _ _ _ _ _ _ _ _ _); (dsimp only [GrPost])) | (k_unfold; (try dsimp only)) | walk1 | (dsimp only; walk1) | (leave1; (try dsimp only)) | fail "no step")))
  with_reducible rename (IsRange _ _ _ _ _ _ _ _) => R1
  with_reducible rename (Fr _ _ _ _) => F1
  with_reducible rename (News _ _ _ _) => N1
  with_reducible rename (Obj.IsDictOf (intKind _ _) _ _) => D1
  with_reducible rename (_ = false) => lo1
  with_reducible rename (∀ p ∈ news, p.1 < _) => l1
  have hoff : ∀ q ∈ news, q.1 ≠ _ := fun q hq => Nat.ne_of_lt (l1 q hq)
  refine gr_range (σ := DSt) (n := sz - wd) (fun c => (_, c.o) :: news) (fun _ => []) [] (fun i c => c.o.IsDictOf (intKind PySem.Challenge.rw_ph0011_02.row.prog w) c.kvs ∧ DictOk lo mm wd (rs.drop (sz - wd - i)) c.kvs ∧ c.kvs.length ≤ i) ⟨_, []⟩ rfl R1 (small_one (by omega) (by omega) (by omega) (by omega)) (by rw [rangeSize_nat]; omega) F1 N1 (fun _ h => nomatch h) ⟨D1, dictOk0 (by rw [List.length_drop]; omega), by simp⟩ ?_ ?_
  · rintro ⟨o, kvs⟩ i t u h tk own hi hdj _ ⟨hD, hok, hkl⟩ F2 N2
    (try dsimp only at hD); (try dsimp only at hok); (try dsimp only at hkl); (try dsimp only at F2); (try dsimp only at N2)
    try dsimp only
    (repeat' ((fail_if_success ((first | (with_reducible show wpAny _ _ (binaryOp Operator.FloorDiv _ _) _ _ _) | (with_reducible show wpAny _ _ (setItem _ _ _) _ _ _) | (with_reducible show wpAny _ _ (eval (PySem.Expr.IfExp _ _ _ _) _) _ _ _) | (with_reducible show Exists _) | (with_reducible show wpAny _ _ (compareOp _ _ (Value.ref _)) _ _ _) | (with_reducible show wpAny _ _ (subscriptTail _ _ (Value.ref _) _) _ _ _) | (with_reducible show wpAny _ _ (call (Value.ref _) _) _ _ _) | (with_reducible show GrEnd _ _ _ _ _ _ _ _ _ _ _) | (with_reducible show wpAny _ _ (exec (Stmt.While _ _ _ _) _) _ _ _) | (with_reducible show wpAny _ _ (pyIter _) _ _ _)))); (first | ((with_reducible show GrPost _ _ _ _ _ _ _ _ _ _ _ _ _); (dsimp only [GrPost])) | (k_unfold; (try dsimp only)) | walk1 | (dsimp only; walk1) | (leave1; (try dsimp only)) | fail "no step")))
    refine floordiv_int (pow16_ne _) ?_ (.inl (PyProof.noPylong_of_log2 (pow16_log _ (by omega))))
    try dsimp only
    (repeat' ((fail_if_success ((first | (with_reducible show wpAny _ _ (binaryOp Operator.FloorDiv _ _) _ _ _) | (with_reducible show wpAny _ _ (setItem _ _ _) _ _ _) | (with_reducible show wpAny _ _ (eval (PySem.Expr.IfExp _ _ _ _) _) _ _ _) | (with_reducible show Exists _) | (with_reducible show wpAny _ _ (compareOp _ _ (Value.ref _)) _ _ _) | (with_reducible show wpAny _ _ (subscriptTail _ _ (Value.ref _) _) _ _ _) | (with_reducible show wpAny _ _ (call (Value.ref _) _) _ _ _) | (with_reducible show GrEnd _ _ _ _ _ _ _ _ _ _ _) | (with_reducible show wpAny _ _ (exec (Stmt.While _ _ _ _) _) _ _ _) | (with_reducible show wpAny _ _ (pyIter _) _ _ _)))); (first | ((with_reducible show GrPost _ _ _ _ _ _ _ _ _ _ _ _ _); (dsimp only [GrPost])) | (k_unfold; (try dsimp only)) | walk1 | (dsimp only; walk1) | (leave1; (try dsimp only)) | fail "no step")))
    refine floordiv_int (pow16_ne _) ?_ (.inl (PyProof.noPylong_of_log2 (pow16_log _ (by omega))))
    try dsimp only
    (repeat' ((fail_if_success ((first | (with_reducible show wpAny _ _ (binaryOp Operator.FloorDiv _ _) _ _ _) | (with_reducible show wpAny _ _ (setItem _ _ _) _ _ _) | (with_reducible show wpAny _ _ (eval (PySem.Expr.IfExp _ _ _ _) _) _ _ _) | (with_reducible show Exists _) | (with_reducible show wpAny _ _ (compareOp _ _ (Value.ref _)) _ _ _) | (with_reducible show wpAny _ _ (subscriptTail _ _ (Value.ref _) _) _ _ _) | (with_reducible show wpAny _ _ (call (Value.ref _) _) _ _ _) | (with_reducible show GrEnd _ _ _ _ _ _ _ _ _ _ _) | (with_reducible show wpAny _ _ (exec (Stmt.While _ _ _ _) _) _ _ _) | (with_reducible show wpAny _ _ (pyIter _) _ _ _)))); (first | ((with_reducible show GrPost _ _ _ _ _ _ _ _ _ _ _ _ _); (dsimp only [GrPost])) | (k_unfold; (try dsimp only)) | walk1 | (dsimp only; walk1) | (leave1; (try dsimp only)) | fail "no step")))
    with_reducible rename (Fr _ _ _ _) => F3
    with_reducible rename (News _ _ _ _) => N3
    have hj : sz - wd - i = (sz - wd - i - 1) + 1 := by omega
    have hlt : sz - wd - i - 1 < rs.length := by omega
    refine kda_set (s := ⟨_, _, _, _, _⟩) F3 N3 (UpdF.head fun p hp => ?_) hD (by rw [key_eq hnum hwd hlm hdig (j := sz - wd - i) (by omega)]; exact intKind_is _ _ _ _) (by rw [sizeLine_eq]; omega) ?_
    · rcases List.mem_append.mp hp with hp | hp
      · exact hoff p hp
      · exact hdj p hp _ (.head _)
    intro h5 o5 F5 N5 D5
    rw [val_eq hnum hlm hdig (j := sz - wd - i - 1) (by omega) hlt] at D5
    clear F3 N3
    try dsimp only
    (repeat' ((fail_if_success ((first | (with_reducible show wpAny _ _ (binaryOp Operator.FloorDiv _ _) _ _ _) | (with_reducible show wpAny _ _ (setItem _ _ _) _ _ _) | (with_reducible show wpAny _ _ (eval (PySem.Expr.IfExp _ _ _ _) _) _ _ _) | (with_reducible show Exists _) | (with_reducible show wpAny _ _ (compareOp _ _ (Value.ref _)) _ _ _) | (with_reducible show wpAny _ _ (subscriptTail _ _ (Value.ref _) _) _ _ _) | (with_reducible show wpAny _ _ (call (Value.ref _) _) _ _ _) | (with_reducible show GrEnd _ _ _ _ _ _ _ _ _ _ _) | (with_reducible show wpAny _ _ (exec (Stmt.While _ _ _ _) _) _ _ _) | (with_reducible show wpAny _ _ (pyIter _) _ _ _)))); (first | ((with_reducible show GrPost _ _ _ _ _ _ _ _ _ _ _ _ _); (dsimp only [GrPost])) | (k_unfold; (try dsimp only)) | walk1 | (dsimp only; walk1) | (leave1; (try dsimp only)) | fail "no step")))
    refine ⟨⟨o5, _⟩, _, _, _, _, rfl, F5, N5, fun p hp => List.mem_append_left _ hp, fun p hp => .tail _ (List.mem_append_right _ hp), ?_, (fun _ h => nomatch h), ?_, D5, ?_, Nat.le_trans (stored_len _ _) (by omega)⟩
    · intro p hp q hq
      rcases List.mem_cons.mp hq with rfl | hq
      · exact hdj p hp (_, o) (.head _)
      · exact hdj p hp q (.tail _ hq)
    · intro z h1 _ _
      simp [h1, kstB]
    · have hd0 : rs.drop (sz - wd - (i + 1)) = rs[sz - wd - i - 1] :: rs.drop (sz - wd - i) := by
        rw [show sz - wd - (i + 1) = sz - wd - i - 1 by omega, List.drop_eq_getElem_cons hlt, ← hj]
      rw [hd0]
      exact dictOk_step hlm (by rw [List.length_drop]; omega) (hdig.drop _) hok
  · rintro ⟨o, kvs⟩ u h tk ⟨hD, hok, hkl⟩ F2 N2
    (try dsimp only at hD); (try dsimp only at hok); (try dsimp only at hkl); (try dsimp only at F2); (try dsimp only at N2)
    try dsimp only
    (repeat' ((fail_if_success ((first | (with_reducible show wpAny _ _ (binaryOp Operator.FloorDiv _ _) _ _ _) | (with_reducible show wpAny _ _ (setItem _ _ _) _ _ _) | (with_reducible show wpAny _ _ (eval (PySem.Expr.IfExp _ _ _ _) _) _ _ _) | (with_reducible show Exists _) | (with_reducible show wpAny _ _ (compareOp _ _ (Value.ref _)) _ _ _) | (with_reducible show wpAny _ _ (subscriptTail _ _ (Value.ref _) _) _ _ _) | (with_reducible show wpAny _ _ (call (Value.ref _) _) _ _ _) | (with_reducible show GrEnd _ _ _ _ _ _ _ _ _ _ _) | (with_reducible show wpAny _ _ (exec (Stmt.While _ _ _ _) _) _ _ _) | (with_reducible show wpAny _ _ (pyIter _) _ _ _)))); (first | ((with_reducible show GrPost _ _ _ _ _ _ _ _ _ _ _ _ _); (dsimp only [GrPost])) | (k_unfold; (try dsimp only)) | walk1 | (dsimp only; walk1) | (leave1; (try dsimp only)) | fail "no step")))
    with_reducible rename (IsRange _ _ 0 _ _ _ _ _) => R4
    with_reducible rename (Fr _ _ _ _) => F4
    with_reducible rename (News _ _ _ _) => N4
    rw [Nat.sub_self, List.drop_zero] at hok
    refine gr_range (σ := NSt) (n := st) (fun c => (_, c.o) :: news) (fun c => [("number", .int c.number c.t)]) ["front"] (fun i c => c.o.IsDictOf (intKind PySem.Challenge.rw_ph0011_02.row.prog w) c.kvs ∧ c.kvs.length ≤ sz + i ∧ c.number = (encR lo c.rs : Nat) ∧ Dig mm c.rs ∧ wd ≤ c.rs.length ∧ DictOk lo mm wd c.rs c.kvs ∧ iterR wd mm (st - i) c.rs = iterR wd mm st rs) ⟨o, kvs, number, t1, rs⟩ rfl R4 (small_one (by omega) (by omega) (by omega) (by omega)) (by rw [rangeSize_nat]; omega) F4 N4 ?_ ⟨hD, (show kvs.length ≤ sz + 0 by omega), hnum, hdig, (show wd ≤ rs.length by omega), hok, rfl⟩ ?_ ?_
    · kst_all
    · rintro ⟨o, kvs, number, tn, rs⟩ i t u h tk own hi hdj _ ⟨hD, hkl, hnum, hdig, hwl, hok, hit⟩ F2 N2
      (try dsimp only at hD); (try dsimp only at hkl); (try dsimp only at hnum); (try dsimp only at hdig); (try dsimp only at hwl); (try dsimp only at hok); (try dsimp only at hit); (try dsimp only at F2); (try dsimp only at N2)
      try dsimp only
      (repeat' ((fail_if_success ((first | (with_reducible show wpAny _ _ (binaryOp Operator.FloorDiv _ _) _ _ _) | (with_reducible show wpAny _ _ (setItem _ _ _) _ _ _) | (with_reducible show wpAny _ _ (eval (PySem.Expr.IfExp _ _ _ _) _) _ _ _) | (with_reducible show Exists _) | (with_reducible show wpAny _ _ (compareOp _ _ (Value.ref _)) _ _ _) | (with_reducible show wpAny _ _ (subscriptTail _ _ (Value.ref _) _) _ _ _) | (with_reducible show wpAny _ _ (call (Value.ref _) _) _ _ _) | (with_reducible show GrEnd _ _ _ _ _ _ _ _ _ _ _) | (with_reducible show wpAny _ _ (exec (Stmt.While _ _ _ _) _) _ _ _) | (with_reducible show wpAny _ _ (pyIter _) _ _ _)))); (first | ((with_reducible show GrPost _ _ _ _ _ _ _ _ _ _ _ _ _); (dsimp only [GrPost])) | (k_unfold; (try dsimp only)) | walk1 | (dsimp only; walk1) | (leave1; (try dsimp only)) | fail "no step")))
      with_reducible rename (Fr _ _ _ _) => F3
      with_reducible rename (News _ _ _ _) => N3
      have hkey := key_eq0 hnum hwd hlm hdig
      have hoff2 : ∀ p ∈ news ++ own, p.1 ≠ _ := fun p hp => (List.mem_append.mp hp).elim (hoff p) (fun h => hdj p h _ (.head _))
      refine int_mono (s := ⟨_, _, _, _, _⟩) F3 N3 ((lo + nextR wd mm rs : Nat) : Int) ?_ ?_
      · (first | ((with_reducible show GrPost _ _ _ _ _ _ _ _ _ _ _ _ _); (dsimp only [GrPost])) | (k_unfold; (try dsimp only)) | walk1 | (dsimp only; walk1) | (leave1; (try dsimp only)) | fail "no step")
        (repeat' ((fail_if_success ((first | (with_reducible show wpAny _ _ (binaryOp Operator.FloorDiv _ _) _ _ _) | (with_reducible show wpAny _ _ (setItem _ _ _) _ _ _) | (with_reducible show wpAny _ _ (eval (PySem.Expr.IfExp _ _ _ _) _) _ _ _) | (with_reducible show Exists _) | (with_reducible show wpAny _ _ (compareOp _ _ (Value.ref _)) _ _ _) | (with_reducible show wpAny _ _ (subscriptTail _ _ (Value.ref _) _) _ _ _) | (with_reducible show wpAny _ _ (call (Value.ref _) _) _ _ _) | (with_reducible show GrEnd _ _ _ _ _ _ _ _ _ _ _) | (with_reducible show wpAny _ _ (exec (Stmt.While _ _ _ _) _) _ _ _) | (with_reducible show wpAny _ _ (pyIter _) _ _ _)))); (first | ((with_reducible show GrPost _ _ _ _ _ _ _ _ _ _ _ _ _); (dsimp only [GrPost])) | (k_unfold; (try dsimp only)) | walk1 | (dsimp only; walk1) | (leave1; (try dsimp only)) | fail "no step")))
        rcases dictOk_at hwl hdig hok with ⟨hsc, hva⟩ | ⟨dg, tv, hsc, hdg, hva⟩
        · refine kda_in (s := ⟨_, _, _, _, _⟩) N3 (.head _) hD lo1 (by rw [hkey]; exact intKind_is _ _ _ _) false (by rw [hva]; rfl) ?_
          try dsimp only
          (repeat' ((fail_if_success ((first | (with_reducible show wpAny _ _ (binaryOp Operator.FloorDiv _ _) _ _ _) | (with_reducible show wpAny _ _ (setItem _ _ _) _ _ _) | (with_reducible show wpAny _ _ (eval (PySem.Expr.IfExp _ _ _ _) _) _ _ _) | (with_reducible show Exists _) | (with_reducible show wpAny _ _ (compareOp _ _ (Value.ref _)) _ _ _) | (with_reducible show wpAny _ _ (subscriptTail _ _ (Value.ref _) _) _ _ _) | (with_reducible show wpAny _ _ (call (Value.ref _) _) _ _ _) | (with_reducible show GrEnd _ _ _ _ _ _ _ _ _ _ _) | (with_reducible show wpAny _ _ (exec (Stmt.While _ _ _ _) _) _ _ _) | (with_reducible show wpAny _ _ (pyIter _) _ _ _)))); (first | ((with_reducible show GrPost _ _ _ _ _ _ _ _ _ _ _ _ _); (dsimp only [GrPost])) | (k_unfold; (try dsimp only)) | walk1 | (dsimp only; walk1) | (leave1; (try dsimp only)) | fail "no step")))
          have hnx : nextR wd mm rs = 0 := by unfold nextR; rw [hsc]
          exact ⟨_, _, _, congrArg (Value.int · _) (by rw [hnx, hlow]; rfl), rfl, F3, N3⟩
        · refine kda_in (s := ⟨_, _, _, _, _⟩) N3 (.head _) hD lo1 (by rw [hkey]; exact intKind_is _ _ _ _) true (by rw [hva]; rfl) ?_
          try dsimp only
          (repeat' ((fail_if_success ((first | (with_reducible show wpAny _ _ (binaryOp Operator.FloorDiv _ _) _ _ _) | (with_reducible show wpAny _ _ (setItem _ _ _) _ _ _) | (with_reducible show wpAny _ _ (eval (PySem.Expr.IfExp _ _ _ _) _) _ _ _) | (with_reducible show Exists _) | (with_reducible show wpAny _ _ (compareOp _ _ (Value.ref _)) _ _ _) | (with_reducible show wpAny _ _ (subscriptTail _ _ (Value.ref _) _) _ _ _) | (with_reducible show wpAny _ _ (call (Value.ref _) _) _ _ _) | (with_reducible show GrEnd _ _ _ _ _ _ _ _ _ _ _) | (with_reducible show wpAny _ _ (exec (Stmt.While _ _ _ _) _) _ _ _) | (with_reducible show wpAny _ _ (pyIter _) _ _ _)))); (first | ((with_reducible show GrPost _ _ _ _ _ _ _ _ _ _ _ _ _); (dsimp only [GrPost])) | (k_unfold; (try dsimp only)) | walk1 | (dsimp only; walk1) | (leave1; (try dsimp only)) | fail "no step")))
          refine kda_item (s := ⟨_, _, _, _, _⟩) N3 (.head _) hD (by rw [hkey]; exact intKind_is _ _ _ _) hva ?_
          try dsimp only
          (repeat' ((fail_if_success ((first | (with_reducible show wpAny _ _ (binaryOp Operator.FloorDiv _ _) _ _ _) | (with_reducible show wpAny _ _ (setItem _ _ _) _ _ _) | (with_reducible show wpAny _ _ (eval (PySem.Expr.IfExp _ _ _ _) _) _ _ _) | (with_reducible show Exists _) | (with_reducible show wpAny _ _ (compareOp _ _ (Value.ref _)) _ _ _) | (with_reducible show wpAny _ _ (subscriptTail _ _ (Value.ref _) _) _ _ _) | (with_reducible show wpAny _ _ (call (Value.ref _) _) _ _ _) | (with_reducible show GrEnd _ _ _ _ _ _ _ _ _ _ _) | (with_reducible show wpAny _ _ (exec (Stmt.While _ _ _ _) _) _ _ _) | (with_reducible show wpAny _ _ (pyIter _) _ _ _)))); (first | ((with_reducible show GrPost _ _ _ _ _ _ _ _ _ _ _ _ _); (dsimp only [GrPost])) | (k_unfold; (try dsimp only)) | walk1 | (dsimp only; walk1) | (leave1; (try dsimp only)) | fail "no step")))
          with_reducible rename (Fr _ _ _ _) => F31
          with_reducible rename (News _ _ _ _) => N31
          refine nextT _ _ _ _ _ _ _ _ low many _ _ _ (dp + 1) (un + 3) gd _ _ _ _ [] (envX cn cs L a ccd cl :: outer) _ _ _ _ _ _ _ _ B' F31 X' N31 T' rfl (by omega) (by simp only [recursionLimit]; omega) (by simp only [cLine]; omega) ?_
          rintro v news' h9 tk9 F9 N9 ⟨rfl, t9, rfl⟩
          try dsimp only
          (repeat' ((fail_if_success ((first | (with_reducible show wpAny _ _ (binaryOp Operator.FloorDiv _ _) _ _ _) | (with_reducible show wpAny _ _ (setItem _ _ _) _ _ _) | (with_reducible show wpAny _ _ (eval (PySem.Expr.IfExp _ _ _ _) _) _ _ _) | (with_reducible show Exists _) | (with_reducible show wpAny _ _ (compareOp _ _ (Value.ref _)) _ _ _) | (with_reducible show wpAny _ _ (subscriptTail _ _ (Value.ref _) _) _ _ _) | (with_reducible show wpAny _ _ (call (Value.ref _) _) _ _ _) | (with_reducible show GrEnd _ _ _ _ _ _ _ _ _ _ _) | (with_reducible show wpAny _ _ (exec (Stmt.While _ _ _ _) _) _ _ _) | (with_reducible show wpAny _ _ (pyIter _) _ _ _)))); (first | ((with_reducible show GrPost _ _ _ _ _ _ _ _ _ _ _ _ _); (dsimp only [GrPost])) | (k_unfold; (try dsimp only)) | walk1 | (dsimp only; walk1) | (leave1; (try dsimp only)) | fail "no step")))
          have hnx : nextR wd mm rs = (dg + 1) % mm := by unfold nextR; rw [hsc]
          exact ⟨_, _, _, congrArg (Value.int · _) (by rw [hnx]; exact next_eq hlow hmany), rfl, F9, N9⟩
      · intro tq hq kq Fq Nq
        clear F3 N3
        try dsimp only
        (repeat' ((fail_if_success ((first | (with_reducible show wpAny _ _ (binaryOp Operator.FloorDiv _ _) _ _ _) | (with_reducible show wpAny _ _ (setItem _ _ _) _ _ _) | (with_reducible show wpAny _ _ (eval (PySem.Expr.IfExp _ _ _ _) _) _ _ _) | (with_reducible show Exists _) | (with_reducible show wpAny _ _ (compareOp _ _ (Value.ref _)) _ _ _) | (with_reducible show wpAny _ _ (subscriptTail _ _ (Value.ref _) _) _ _ _) | (with_reducible show wpAny _ _ (call (Value.ref _) _) _ _ _) | (with_reducible show GrEnd _ _ _ _ _ _ _ _ _ _ _) | (with_reducible show wpAny _ _ (exec (Stmt.While _ _ _ _) _) _ _ _) | (with_reducible show wpAny _ _ (pyIter _) _ _ _)))); (first | ((with_reducible show GrPost _ _ _ _ _ _ _ _ _ _ _ _ _); (dsimp only [GrPost])) | (k_unfold; (try dsimp only)) | walk1 | (dsimp only; walk1) | (leave1; (try dsimp only)) | fail "no step")))
        with_reducible rename (Fr _ _ _ _) => F4
        with_reducible rename (News _ _ _ _) => N4
        refine kda_set (s := ⟨_, _, _, _, _⟩) F4 N4 (UpdF.head hoff2) hD (by rw [hkey]; exact intKind_is _ _ _ _) (by rw [sizeLine_eq]; omega) ?_
        intro h5 o5 F5 N5 D5
        clear F4 N4
        try dsimp only
        (repeat' ((fail_if_success ((first | (with_reducible show wpAny _ _ (binaryOp Operator.FloorDiv _ _) _ _ _) | (with_reducible show wpAny _ _ (setItem _ _ _) _ _ _) | (with_reducible show wpAny _ _ (eval (PySem.Expr.IfExp _ _ _ _) _) _ _ _) | (with_reducible show Exists _) | (with_reducible show wpAny _ _ (compareOp _ _ (Value.ref _)) _ _ _) | (with_reducible show wpAny _ _ (subscriptTail _ _ (Value.ref _) _) _ _ _) | (with_reducible show wpAny _ _ (call (Value.ref _) _) _ _ _) | (with_reducible show GrEnd _ _ _ _ _ _ _ _ _ _ _) | (with_reducible show wpAny _ _ (exec (Stmt.While _ _ _ _) _) _ _ _) | (with_reducible show wpAny _ _ (pyIter _) _ _ _)))); (first | ((with_reducible show GrPost _ _ _ _ _ _ _ _ _ _ _ _ _); (dsimp only [GrPost])) | (k_unfold; (try dsimp only)) | walk1 | (dsimp only; walk1) | (leave1; (try dsimp only)) | fail "no step")))
        with_reducible rename (News _ _ _ _) => N6
        refine kda_item (s := ⟨_, _, _, _, _⟩) N6 (.head _) D5 (by rw [hkey]; exact intKind_is _ _ _ _) (valueAt_self _ _) ?_
        try dsimp only
        (repeat' ((fail_if_success ((first | (with_reducible show wpAny _ _ (binaryOp Operator.FloorDiv _ _) _ _ _) | (with_reducible show wpAny _ _ (setItem _ _ _) _ _ _) | (with_reducible show wpAny _ _ (eval (PySem.Expr.IfExp _ _ _ _) _) _ _ _) | (with_reducible show Exists _) | (with_reducible show wpAny _ _ (compareOp _ _ (Value.ref _)) _ _ _) | (with_reducible show wpAny _ _ (subscriptTail _ _ (Value.ref _) _) _ _ _) | (with_reducible show wpAny _ _ (call (Value.ref _) _) _ _ _) | (with_reducible show GrEnd _ _ _ _ _ _ _ _ _ _ _) | (with_reducible show wpAny _ _ (exec (Stmt.While _ _ _ _) _) _ _ _) | (with_reducible show wpAny _ _ (pyIter _) _ _ _)))); (first | ((with_reducible show GrPost _ _ _ _ _ _ _ _ _ _ _ _ _); (dsimp only [GrPost])) | (k_unfold; (try dsimp only)) | walk1 | (dsimp only; walk1) | (leave1; (try dsimp only)) | fail "no step")))
        with_reducible rename (Fr _ _ _ _) => F7
        with_reducible rename (News _ _ _ _) => N7
        refine ⟨⟨o5, stored kvs ((encR lo (rs.take wd) : Nat) : Int) (.int ((lo + nextR wd mm rs : Nat) : Int) tq), 16 * number + ((lo + nextR wd mm rs : Nat) : Int), ?tt, nextR wd mm rs :: rs⟩, _, _, _, _, rfl, F7, N7, fun p hp => List.mem_append_left _ hp, fun p hp => .tail _ (List.mem_append_right _ hp), dj_head hdj, ?g1, ?_, D5, Nat.le_trans (stored_len _ _) (by show kvs.length + 1 ≤ sz + (i + 1); omega), ?_, ?_, ?_, ?_, ?_⟩
        case g1 => kst_all
        · intro z h1 h2 h3
          have h4 : z ≠ PySem.Str.ofString "number" := h2 _ (.head _)
          have h5 : z ≠ PySem.Str.ofString "front" := by
            intro e
            rw [e] at h3
            simp at h3
          simp [h1, h4, h5, kstB]
        · exact enc_step hnum
        · exact Dig.step (w := wd) (by omega) hdig
        · show wd ≤ (nextR wd mm rs :: rs).length
          simp; omega
        · show DictOk lo mm wd (nextR wd mm rs :: rs) _
          exact dictOk_step hlm hwl hdig hok
        · show iterR wd mm (st - (i + 1)) (stepR wd mm rs) = _
          rw [← hit, show st - i = (st - (i + 1)) + 1 by omega]
          rfl
    · rintro ⟨o, kvs, number, tn, rs⟩ u h tk ⟨hD, hkl, hnum, hdig, hwl, hok, hit⟩ F2 N2
      (try dsimp only at hD); (try dsimp only at hkl); (try dsimp only at hnum); (try dsimp only at hdig); (try dsimp only at hwl); (try dsimp only at hok); (try dsimp only at hit); (try dsimp only at F2); (try dsimp only at N2)
      try dsimp only
      (repeat' ((fail_if_success ((first | (with_reducible show wpAny _ _ (binaryOp Operator.FloorDiv _ _) _ _ _) | (with_reducible show wpAny _ _ (setItem _ _ _) _ _ _) | (with_reducible show wpAny _ _ (eval (PySem.Expr.IfExp _ _ _ _) _) _ _ _) | (with_reducible show Exists _) | (with_reducible show wpAny _ _ (compareOp _ _ (Value.ref _)) _ _ _) | (with_reducible show wpAny _ _ (subscriptTail _ _ (Value.ref _) _) _ _ _) | (with_reducible show wpAny _ _ (call (Value.ref _) _) _ _ _) | (with_reducible show GrEnd _ _ _ _ _ _ _ _ _ _ _) | (with_reducible show wpAny _ _ (exec (Stmt.While _ _ _ _) _) _ _ _) | (with_reducible show wpAny _ _ (pyIter _) _ _ _)))); (first | ((with_reducible show GrPost _ _ _ _ _ _ _ _ _ _ _ _ _); (dsimp only [GrPost])) | (k_unfold; (try dsimp only)) | walk1 | (dsimp only; walk1) | (leave1; (try dsimp only)) | fail "no step")))
      with_reducible rename (Fr h₀ _ _ _) => kF
      with_reducible rename (News h₀ _ _ _) => kN
      refine hret _ news _ _ kF (fun p hp => kN p (.tail _ hp)) ⟨rfl, tn, ?_⟩
      rw [Nat.sub_self] at hit
      rw [hnum, ← hit]
      rfl
end Mine
end
section
open PySem PySem.W PyProof.Rows PySem.Spec PySem.Calls
set_option Elab.async false
set_option maxRecDepth 100000
namespace Mine
/-- the letters of a word that is told from its end -/
noncomputable def txt (lo : Nat) (rs : List Nat) : PySem.Str := ⟨(rs.reverse.map fun d => 65 + (lo + d)).toArray⟩
theorem txt_len (lo : Nat) (rs : List Nat) : (txt lo rs).length = rs.length := by simp [txt, PySem.Str.length]
theorem apDig_enc {lo m : Nat} (h1 : 1 ≤ lo) (hl : lo + m ≤ 16) : ∀ {rs : List Nat}, Dig m rs → apDig (encR lo rs) = rs.reverse.map fun d => UInt8.ofNat (65 + (lo + d))
  | [], _ => by rw [encR, apDig_zero]; rfl
  | d :: r, h => by
    have hd := h d (.head _)
    rw [encR, apDig_pos (by omega), show (16 * encR lo r + (lo + d)) / 16 = encR lo r by omega, show (16 * encR lo r + (lo + d)) % 16 = lo + d by omega, apDig_enc h1 hl (fun x hx => h x (.tail _ hx))]
    simp
theorem ap_txt {lo m : Nat} {rs : List Nat} (h1 : 1 ≤ lo) (hl : lo + m ≤ 16) (h : Dig m rs) : (⟨(CD.codes (apB (encR lo rs : Nat))).toArray⟩ : PySem.Str) = txt lo rs := by
  unfold apB txt CD.codes
  rw [Int.natAbs_natCast, apDig_enc h1 hl h]
  congr 2
  rw [List.map_map]
  refine List.map_congr_left fun d hd => ?_
  have := h d (List.mem_reverse.mp hd)
  show (UInt8.ofNat (65 + (lo + d))).toNat = _
  rw [UInt8.toNat_ofNat']
  omega
theorem ap_small {lo m : Nat} {rs : List Nat} (h1 : 1 ≤ lo) (hl : lo + m ≤ 16) (h : Dig m rs) : ∀ p < (apB (encR lo rs : Nat)).size, ((apB (encR lo rs : Nat)).getD p 0).toNat < 128 := by
  intro p hp
  unfold apB at hp ⊢
  rw [Int.natAbs_natCast, apDig_enc h1 hl h] at hp ⊢
  simp only [List.size_toArray, List.length_map] at hp
  simp only [Array.getD_eq_getD_getElem?, List.getElem?_toArray, List.getElem?_map]
  rw [List.getElem?_eq_getElem hp]
  have := h _ (List.mem_reverse.mp (List.getElem_mem hp))
  show (UInt8.ofNat (65 + (lo + _))).toNat < 128
  rw [UInt8.toNat_ofNat']
  omega
theorem ap_ne {lo m : Nat} {rs : List Nat} (h1 : 1 ≤ lo) (hl : lo + m ≤ 16) (h : Dig m rs) (hr : rs ≠ []) : apB (encR lo rs : Nat) ≠ #[] := by
  intro e
  unfold apB at e
  rw [Int.natAbs_natCast, apDig_enc h1 hl h] at e
  have := congrArg Array.size e
  simp at this
  exact hr this
theorem enc_lt {lo m : Nat} (hl : lo + m ≤ 16) : ∀ {rs : List Nat} {k : Nat}, Dig m rs → rs.length ≤ k → encR lo rs < 16 ^ k
  | [], k, _, _ => by rw [encR]; exact Nat.pow_pos (by decide)
  | d :: r, 0, _, hk => by simp at hk
  | d :: r, k + 1, h, hk => by
    have hd := h d (.head _)
    have := enc_lt hl (k := k) (fun x hx => h x (.tail _ hx)) (by simpa using hk)
    rw [encR, Nat.pow_succ]; omega
/-- places -/
theorem scan_none {f : List Nat} : ∀ {rs : List Nat}, (∀ j < rs.length, (rs.drop (j + 1)).take f.length ≠ f) → scan f rs = none
  | [], _ => rfl
  | a :: r, h => by
    unfold scan
    rw [if_neg (by simpa using h 0 (by simp)), scan_none fun j hj => by simpa using h (j + 1) (by simpa using hj)]
theorem scan_some {f : List Nat} : ∀ {rs : List Nat} {j : Nat} (hj : j < rs.length), (rs.drop (j + 1)).take f.length = f → (∀ i < j, (rs.drop (i + 1)).take f.length ≠ f) → scan f rs = some rs[j]
  | a :: r, 0, hj, h, _ => by
    unfold scan
    rw [if_pos (by simpa using h)]; rfl
  | a :: r, j + 1, hj, h, hn => by
    unfold scan
    rw [if_neg (by simpa using hn 0 (by omega)), scan_some (rs := r) (j := j) (by simpa using hj) (by simpa using h) fun i hi => by simpa using hn (i + 1) (by omega)]
    rfl
/-- a word inside a text that may go on -/
theorem map_inj {lo : Nat} {a b : List Nat} : (a.map fun d => 65 + (lo + d)) = (b.map fun d => 65 + (lo + d)) ↔ a = b := by
  constructor
  · intro e
    induction a generalizing b with
    | nil => cases b with
      | nil => rfl
      | cons => simp at e
    | cons x a ih => cases b with
      | nil => simp at e
      | cons y b =>
        simp only [List.map_cons, List.cons.injEq] at e
        rw [ih e.2]; congr 1; omega
  · rintro rfl; rfl
theorem hitAt2_iff {lo w p : Nat} {rs : List Nat} {chars : PySem.Str} {c : Nat} (hw : w ≤ rs.length) (hc : chars = ⟨(txt lo rs).cps ++ #[c]⟩) (hp : p ≤ rs.length) :
    HitAt2 (txt lo (rs.take w)) chars p ↔ w ≤ p ∧ (rs.drop (rs.length - p)).take w = rs.take w := by
  have hl : (txt lo (rs.take w)).length = w := by rw [txt_len, List.length_take]; omega
  have hcl : chars.length = rs.length + 1 := by
    rw [hc]
    show ((txt lo rs).cps ++ #[c]).size = _
    have := txt_len lo rs
    unfold PySem.Str.length at this
    rw [Array.size_append, this]; rfl
  unfold HitAt2 Occ
  rw [hl, hcl, StrLaws.subAt_eq, hl]
  have hd : w ≤ p → (chars.cps.toList.drop (p - w)).take w = (((rs.drop (rs.length - p)).take w).reverse.map fun d => 65 + (lo + d)) := fun h => by
    rw [hc]
    simp only [txt, Array.toList_append]
    rw [List.drop_append_of_le_length (by simp; omega), List.take_append_of_le_length (by simp; omega), ← List.map_drop, ← List.map_take]
    congr 1
    rw [List.reverse_take, List.reverse_drop]
    simp only [List.length_drop, List.length_reverse]
    rw [List.drop_take]
    congr 1
    · omega
    · congr 1; omega
  constructor
  · rintro ⟨h1, h2, h3, h4⟩
    refine ⟨h1, ?_⟩
    rw [hd h1] at h4
    have h5 := beq_iff_eq.mp h4
    simp only [txt] at h5
    rw [map_inj] at h5
    exact List.reverse_inj.mp h5
  · rintro ⟨h1, h2⟩
    refine ⟨h1, by omega, by omega, ?_⟩
    rw [hd h1, beq_iff_eq, h2]
    simp [txt]
theorem hit_end {lo w : Nat} {rs : List Nat} {chars : PySem.Str} {c : Nat} (hw : w ≤ rs.length) (hc : chars = ⟨(txt lo rs).cps ++ #[c]⟩) : HitAt2 (txt lo (rs.take w)) chars rs.length := by
  rw [hitAt2_iff hw hc (Nat.le_refl _), Nat.sub_self]
  exact ⟨hw, rfl⟩
theorem last_scan {lo w : Nat} {rs : List Nat} {chars : PySem.Str} {c : Nat} {hs : List (Nat × Addr)} (hw : w ≤ rs.length) (hw1 : 1 ≤ w) (hc : chars = ⟨(txt lo rs).cps ++ #[c]⟩) (h : LastAt (txt lo (rs.take w)) chars rs.length hs) :
    (hs = [] ∧ scan (rs.take w) rs = none) ∨ ∃ hs0 q, hs = hs0 ++ [q] ∧ ∃ (hq : q.1 < rs.length), scan (rs.take w) rs = some (rs[rs.length - 1 - q.1]'(by omega)) := by
  have hl : (rs.take w).length = w := by rw [List.length_take]; omega
  unfold LastAt at h
  cases e : hs.getLast? with
  | none =>
    rw [e] at h
    refine .inl ⟨List.getLast?_eq_none_iff.mp e, scan_none fun j hj e2 => ?_⟩
    rw [hl] at e2
    have hlen := congrArg List.length e2
    rw [hl, List.length_take, List.length_drop] at hlen
    refine h (rs.length - (j + 1)) (by omega) ?_
    rw [hitAt2_iff hw hc (by omega)]
    refine ⟨by omega, ?_⟩
    rw [show rs.length - (rs.length - (j + 1)) = j + 1 by omega]
    exact e2
  | some q =>
    rw [e] at h
    obtain ⟨h1, h2, h3⟩ := h
    obtain ⟨hs0, rfl⟩ := List.getLast?_eq_some_iff.mp e
    refine .inr ⟨hs0, q, rfl, h1, ?_⟩
    rw [hitAt2_iff hw hc (by omega)] at h2
    refine scan_some (by omega) ?_ fun i hi e2 => ?_
    · rw [hl, show rs.length - 1 - q.1 + 1 = rs.length - q.1 by omega]
      exact h2.2
    · rw [hl] at e2
      have hlen := congrArg List.length e2
      rw [hl, List.length_take, List.length_drop] at hlen
      refine h3 (rs.length - (i + 1)) (by omega) (by omega) ?_
      rw [hitAt2_iff hw hc (by omega)]
      refine ⟨by omega, ?_⟩
      rw [show rs.length - (rs.length - (i + 1)) = i + 1 by omega]
      exact e2
end Mine
end
section
open PySem PySem.W PyProof.Rows PySem.Spec PySem.Calls PySem.Builtin PySem.Builtin.Str
set_option Elab.async false
set_option maxRecDepth 100000
namespace Mine
theorem slice_nat (x : PySem.Str) {a b : Nat} (hab : a ≤ b) (hb : b ≤ x.length) : Txt.slice x (some (a : Int)) (some (b : Int)) = ⟨((x.cps.toList.drop a).take (b - a)).toArray⟩ := by
  unfold Txt.slice
  split
  · rename_i h
    simp only [beq_self_eq_true, Bool.true_and, beq_iff_eq] at h
    rw [StrLaws.strSliceIndices_plain hab hb, List.length_map, List.length_range] at h
    have ha : a = 0 := by omega
    have hb' : b = x.length := by omega
    subst ha hb'
    rw [List.drop_zero, List.take_of_length_le (by simp [PySem.Str.length])]
  · rw [StrLaws.sliced_plain x hab hb]
theorem slice_txt {lo : Nat} {rs : List Nat} {a b : Nat} (hab : a ≤ b) (hb : b ≤ rs.length) : Txt.slice (txt lo rs) (some (a : Int)) (some (b : Int)) = txt lo ((rs.drop (rs.length - b)).take (b - a)) := by
  rw [slice_nat _ hab (by rw [txt_len]; exact hb)]
  unfold txt
  congr 2
  show (List.drop a (rs.reverse.map _)).take (b - a) = _
  rw [← List.map_drop, ← List.map_take]
  congr 1
  rw [List.reverse_take, List.reverse_drop]
  simp only [List.length_drop]
  rw [List.drop_take]
  congr 1
  · omega
  · congr 1; omega
theorem slice_txt_neg {lo : Nat} {rs : List Nat} {j : Nat} {i : Int} (hi : i = -(j : Int)) (h1 : 1 ≤ j) (hj : j ≤ rs.length) : Txt.slice (txt lo rs) (some i) none = txt lo (rs.take j) := by
  have h := slice_txt (lo := lo) (rs := rs) (a := rs.length - j) (b := rs.length) (by omega) (Nat.le_refl _)
  rw [Nat.sub_self, List.drop_zero, show rs.length - (rs.length - j) = j by omega] at h
  rw [← h]
  unfold Txt.slice
  rw [StrLaws.sliceIdx_none_hi, StrLaws.sliceIdx_neg_lo _ _ (by omega) (by rw [txt_len]; omega), txt_len]
  rw [show i + (rs.length : Int) = ((rs.length - j : Nat) : Int) by omega]
theorem slice_txt_to {lo : Nat} {rs : List Nat} {b : Nat} (hb : b ≤ rs.length) : Txt.slice (txt lo rs) none (some (b : Int)) = txt lo (rs.drop (rs.length - b)) := by
  have h := slice_txt (lo := lo) (rs := rs) (a := 0) (b := b) (by omega) hb
  rw [List.take_of_length_le (by simp; omega)] at h
  rw [← h]
  unfold Txt.slice
  rw [StrLaws.sliceIdx_none_lo]
  rfl
theorem slice_txt_from {lo : Nat} {rs : List Nat} {a : Nat} (ha : a ≤ rs.length) : Txt.slice (txt lo rs) (some (a : Int)) none = txt lo (rs.take (rs.length - a)) := by
  have h := slice_txt (lo := lo) (rs := rs) (a := a) (b := rs.length) ha (Nat.le_refl _)
  rw [Nat.sub_self, List.drop_zero] at h
  rw [← h]
  unfold Txt.slice
  rw [StrLaws.sliceIdx_none_hi, txt_len]
theorem txt_cat {lo : Nat} {rs qs : List Nat} : txt lo rs ++ txt lo qs = txt lo (qs ++ rs) := by
  show PySem.Str.append _ _ = _
  unfold PySem.Str.append txt
  simp
theorem txt_inj {lo : Nat} {a b : List Nat} : txt lo a = txt lo b ↔ a = b := by
  unfold txt
  rw [PySem.Str.mk.injEq]
  constructor
  · intro h
    have h2 := congrArg Array.toList h
    simp only at h2
    exact List.reverse_inj.mp (map_inj.mp h2)
  · rintro rfl; rfl
end Mine
end
section
open PySem PySem.W PySem.W.X PyProof.Rows PySem.Spec PySem.Calls
set_option Elab.async false
set_option maxRecDepth 100000
namespace Mine
theorem mv_in {h₀ h : Heap} {L : Addr} {g y z a b c d : Addr × Obj} {r : List (Addr × Obj)} (N : News h₀ L h (g :: y :: z :: a :: b :: c :: d :: r)) : News h₀ L h (y :: z :: (g :: a :: b :: c :: d :: r)) := fun p hp => N p (by
  simp only [List.mem_cons] at hp ⊢
  rcases hp with h | h | h | h | h | h | h | h <;> simp [h])
theorem mv_out {h₀ h : Heap} {L : Addr} {g y z a b c d : Addr × Obj} {ex r : List (Addr × Obj)} (N : News h₀ L h (y :: z :: (ex ++ (g :: a :: b :: c :: d :: r)))) : News h₀ L h (y :: z :: g :: a :: b :: c :: d :: (ex ++ r)) := fun p hp => N p (by
  simp only [List.mem_cons, List.mem_append] at hp ⊢
  rcases hp with h | h | h | h | h | h | h | h | h <;> simp [h])
theorem mv_out4 {h₀ h : Heap} {L : Addr} {g y z a b c d : Addr × Obj} {ex r : List (Addr × Obj)} (N : News h₀ L h (y :: z :: g :: (ex ++ (a :: b :: c :: d :: r)))) : News h₀ L h (y :: z :: g :: a :: b :: c :: d :: (ex ++ r)) := fun p hp => N p (by
  simp only [List.mem_cons, List.mem_append] at hp ⊢
  rcases hp with h | h | h | h | h | h | h | h | h <;> simp [h])
theorem tv_turn {L gl : Nat} {ps qs : Array Value} {oG oL o4 o2 o1 a b : Obj} {led own rest : List (Addr × Obj)} {R : Prop} (V : TV ps qs ((L + 1 + 1 + 1, oL) :: (L + 1 + 1 + 1 + 1, o4) :: (L + 1 + 1, o2) :: (L + 1, o1) :: led)) (hd : Dj own ((30, a) :: (37, b) :: rest)) (l1 : 30 < gl ∧ 37 < gl ∧ R) :
    TV ps qs ((gl, oG) :: (L + 1 + 1 + 1, oL) :: (L + 1 + 1 + 1 + 1, o4) :: (L + 1 + 1, o2) :: (L + 1, o1) :: (led ++ own)) :=
  V.subC (fun p hp _ => by simp only [List.mem_cons, List.mem_append] at hp ⊢; rcases hp with h | h | h | h | h <;> simp [h]) fun p hp => by
    simp only [List.mem_cons, List.mem_append] at hp
    rcases hp with h | h | h | h | h | h | h
    · subst h; exact ⟨by show gl ≠ 30; omega, by show gl ≠ 37; omega⟩
    · exact V.off p (by simp [h])
    · exact V.off p (by simp [h])
    · exact V.off p (by simp [h])
    · exact V.off p (by simp [h])
    · exact V.off p (by simp [h])
    · exact ⟨hd p h (30, a) (.head _), hd p h (37, b) (.tail _ (.head _))⟩
theorem FinderIn.subL {a b : List (Addr × Obj)} {ff : Addr} {x : PySem.Str} {gl : Addr} {cS cL : Value} (h : FinderIn (· ∈ a) ff x gl cS cL) (hs : ∀ p ∈ a, p.2.cls ≠ .type "list" → p ∈ b) : FinderIn (· ∈ b) ff x gl cS cL := by
  obtain ⟨df, fs, dt, cu, cg, tx, t0, ct, h1, t1, H⟩ := h
  refine ⟨df, fs, dt, cu, cg, tx, t0, ct, h1, t1, ⟨hs _ H.fn ?_, hs _ H.dict ?_, hs _ H.search ?_, hs _ H.dflt ?_, hs _ H.front ?_, hs _ H.given ?_⟩⟩
  · show Value.type "function" ≠ Value.type "list"; decide
  · show Value.type "dict" ≠ Value.type "list"; decide
  · show Value.type "function" ≠ Value.type "list"; decide
  · show Value.type "tuple" ≠ Value.type "list"; decide
  · show Value.type "cell" ≠ Value.type "list"; decide
  · show Value.type "cell" ≠ Value.type "list"; decide
theorem mem_noG {gl : Addr} {items : Array Value} {nn : Nat} {a b c d : Addr × Obj} {ex r : List (Addr × Obj)} : ∀ p ∈ ex ++ ((gl, listOf items nn) :: a :: b :: c :: d :: r), p.2.cls ≠ .type "list" → p ∈ a :: b :: c :: d :: (ex ++ r) := fun p hp hc => by
  simp only [List.mem_cons, List.mem_append] at hp ⊢
  rcases hp with h | h | h | h | h | h | h
  · simp [h]
  · subst h; exact absurd rfl hc
  · simp [h]
  · simp [h]
  · simp [h]
  · simp [h]
  · simp [h]
theorem tv_noG {ps qs : Array Value} {gl : Addr} {items : Array Value} {nn : Nat} {a b c d : Addr × Obj} {ex r : List (Addr × Obj)} (V : TV ps qs (ex ++ ((gl, listOf items nn) :: a :: b :: c :: d :: r))) : TV ps qs (a :: b :: c :: d :: (ex ++ r)) :=
  V.subC (fun p hp hc => mem_noG p hp (by rw [hc]; decide)) fun p hp => V.off p (by
    simp only [List.mem_cons, List.mem_append] at hp ⊢
    rcases hp with h | h | h | h | h | h <;> simp [h])
theorem off_g {L gl : Nat} {oG oL o4 o2 o1 : Obj} {ex r rest : List (Addr × Obj)} (D : Dj ex ((gl, oG) :: rest)) (l1 : 30 < gl ∧ 37 < gl ∧ L + 1 + 1 + 1 < gl ∧ L + 1 + 1 + 1 + 1 < gl ∧ L + 1 + 1 < gl ∧ L + 1 < gl ∧ AllLt gl r) :
    ∀ p ∈ (L + 1 + 1 + 1, oL) :: (L + 1 + 1 + 1 + 1, o4) :: (L + 1 + 1, o2) :: (L + 1, o1) :: (ex ++ r), p.1 ≠ gl := fun p hp => by
  obtain ⟨_, _, q3, q4, q2, q1, qr⟩ := l1
  simp only [List.mem_cons, List.mem_append] at hp
  rcases hp with h | h | h | h | h | h
  · subst h; exact Nat.ne_of_lt q3
  · subst h; exact Nat.ne_of_lt q4
  · subst h; exact Nat.ne_of_lt q2
  · subst h; exact Nat.ne_of_lt q1
  · exact D p h (gl, oG) (.head _)
  · exact Nat.ne_of_lt (kst_ltOf qr p h)
end Mine
end
section
open PySem PySem.W PySem.W.X PyProof.Rows PySem.Spec PySem.Calls
set_option Elab.async false
set_option maxRecDepth 100000
namespace Mine
structure WSt where
  oL : Obj
  rs : List Nat
  tl : Tok
  ps : Array Value
  qs : Array Value
  led : List (Addr × Obj)
structure WInv (L lo mm wd sz st : Nat) (rs : List Nat) (o4 o2 o1 : Obj) (i : Nat) (c : WSt) : Prop where
  tv : TV c.ps c.qs ((L + 1 + 1 + 1, c.oL) :: (L + 1 + 1 + 1 + 1, o4) :: (L + 1 + 1, o2) :: (L + 1, o1) :: c.led)
  dat : c.oL.data = .cell (some (.str (txt lo c.rs) c.tl))
  dig : Dig mm c.rs
  len : c.rs.length = sz + i
  it : iterR wd mm (st - i) c.rs = iterR wd mm st rs
  off : ∀ p ∈ c.led, p.1 ≠ L + 1 + 1 + 1
theorem tv0 {L : Nat} {a b c d : Obj} (h : @LT.lt Nat _ 30 L ∧ @LT.lt Nat _ 37 L) : TV #[] #[] [(L + 1 + 1 + 1, a), (L + 1 + 1 + 1 + 1, b), (L + 1 + 1, c), (L + 1, d)] :=
  ⟨.inl rfl, .inl rfl, fun p hp => by
    simp only [List.mem_cons, List.not_mem_nil, or_false] at hp
    obtain ⟨h1, h2⟩ := h
    have k : ∀ i : Nat, L + i ≠ 30 ∧ L + i ≠ 37 := fun i => ⟨by omega, by omega⟩
    rcases hp with rfl | rfl | rfl | rfl
    · exact k 3
    · exact k 4
    · exact k 2
    · exact k 1⟩
theorem led_law {h₀ h : Heap} {L : Addr} {x1 x2 x3 x4 x5 x6 x7 c4 c3 c2 c1 y z : Addr × Obj} (N : News h₀ L h [x1, x2, x3, x4, x5, x6, x7, c4, c3, c2, c1, y, z]) : News h₀ L h [y, z, c3, c4, c2, c1] := fun p hp => N p (by
  simp only [List.mem_cons, List.not_mem_nil, or_false] at hp ⊢
  rcases hp with h | h | h | h | h | h <;> simp [h])
section
variable {prog : Program} {w : World} {A : Around} {E : Value → Shared → Prop} {s : Shared} {env : Env} {h₀ : Heap} {x : PySem.Str} {body : List Stmt} {Q : Flow → Shared → Prop}
theorem gr_law2 {r : Addr} {a₀ b₀ : Int} {t₀ u₀ v₀ : Tok} {m₀ : PySem.Str → Option Value} {L lo mm wd sz st : Nat} {rs0 : List Nat} {tl0 : Tok} {o4 oL0 o2 o1 : Obj} (stored : List PySem.Str)
    (hh : A.handled = none) (hr : IsRange s.heap r a₀ b₀ 1 t₀ u₀ v₀) (hsmall : Builtin.Range.small a₀ b₀ 1 = true) (hn : Builtin.Range.rangeSize a₀ b₀ 1 = (st : Int)) (F : Fr h₀ env.locals s.heap m₀) (N : News h₀ env.locals s.heap [(30, tabObj #[]), (37, tabObj #[]), (L + 1 + 1 + 1, oL0), (L + 1 + 1 + 1 + 1, o4), (L + 1 + 1, o2), (L + 1, o1)])
    (h0 : @LT.lt Nat _ 30 L ∧ @LT.lt Nat _ 37 L) (hd : oL0.data = .cell (some (.str (txt lo rs0) tl0))) (hdig : Dig mm rs0) (hlen : rs0.length = sz)
    (turn : ∀ (oL : Obj) (rs : List Nat) (tl : Tok) (ps qs : Array Value) (led : List (Addr × Obj)) (i : Nat) t (u : PySem.Str → Option Value) h tk own, i < st → Dj own ((30, tabObj ps) :: (37, tabObj qs) :: (L + 1 + 1 + 1, oL) :: (L + 1 + 1 + 1 + 1, o4) :: (L + 1 + 1, o2) :: (L + 1, o1) :: led) → (∀ p ∈ own, p.2.cls ≠ .type "code") →
      TV ps qs ((L + 1 + 1 + 1, oL) :: (L + 1 + 1 + 1 + 1, o4) :: (L + 1 + 1, o2) :: (L + 1, o1) :: led) → oL.data = .cell (some (.str (txt lo rs) tl)) → Dig mm rs → rs.length = sz + i → iterR wd mm (st - i) rs = iterR wd mm st rs0 → (∀ p ∈ led, p.1 ≠ L + 1 + 1 + 1) →
      Fr h₀ env.locals h (fun y => if y = x then some (.int (a₀ + (i : Int)) t) else if stored.contains y then u y else m₀ y) → News h₀ env.locals h ((30, tabObj ps) :: (37, tabObj qs) :: (L + 1 + 1 + 1, oL) :: (L + 1 + 1 + 1 + 1, o4) :: (L + 1 + 1, o2) :: (L + 1, o1) :: (led ++ own)) →
      wpAny (model prog w) A (execs body env) (GrPost h₀ env.locals (fun c : WSt => (30, tabObj c.ps) :: (37, tabObj c.qs) :: (L + 1 + 1 + 1, c.oL) :: (L + 1 + 1 + 1 + 1, o4) :: (L + 1 + 1, o2) :: (L + 1, o1) :: c.led) (fun _ => []) stored x m₀ (WInv L lo mm wd sz st rs0 o4 o2 o1 (i + 1)) own Q { s with heap := h, toks := tk }) E { s with heap := h, toks := tk })
    (done : ∀ (oL : Obj) (tl : Tok) (ps qs : Array Value) (led : List (Addr × Obj)) (u : PySem.Str → Option Value) h tk, oL.data = .cell (some (.str (txt lo (iterR wd mm st rs0)) tl)) → Dig mm (iterR wd mm st rs0) → (iterR wd mm st rs0).length = sz + st →
      Fr h₀ env.locals h (fun y => if y = x then u y else if stored.contains y then u y else m₀ y) → News h₀ env.locals h ((30, tabObj ps) :: (37, tabObj qs) :: (L + 1 + 1 + 1, oL) :: (L + 1 + 1 + 1 + 1, o4) :: (L + 1 + 1, o2) :: (L + 1, o1) :: led) → Q .next { s with heap := h, toks := tk }) :
    wpAny (model prog w) A (pyIter (.ref r)) (fun it s₂ => LoopAtV prog w A h₀ env x body Q E it s₂) E s := by
  refine gr_range (σ := WSt) (n := st) (fun c => (30, tabObj c.ps) :: (37, tabObj c.qs) :: (L + 1 + 1 + 1, c.oL) :: (L + 1 + 1 + 1 + 1, o4) :: (L + 1 + 1, o2) :: (L + 1, o1) :: c.led) (fun _ => []) stored (WInv L lo mm wd sz st rs0 o4 o2 o1) ⟨oL0, rs0, tl0, #[], #[], []⟩ hh hr hsmall hn F N (fun _ h => nomatch h) ⟨tv0 h0, hd, hdig, hlen, rfl, (fun _ h => nomatch h)⟩ ?_ ?_
  · rintro ⟨oL, rs, tl, ps, qs, led⟩ i t u h tk own hi hdj hcode ⟨k1, k2, k3, k4, k5, k6⟩ F' N'
    exact turn oL rs tl ps qs led i t u h tk own hi hdj hcode k1 k2 k3 k4 k5 k6 F' N'
  · rintro ⟨oL, rs, tl, ps, qs, led⟩ u h tk ⟨k1, k2, k3, k4, k5, k6⟩ F' N'
    rw [Nat.sub_self] at k5
    have e : rs = iterR wd mm st rs0 := k5
    subst e
    exact done oL tl ps qs led u h tk k2 k3 k4 F' N'
end

theorem CodesIn.subD {a b : List (Addr × Obj)} {q : PySem.Str} {xs : List Addr} (h : CodesIn (· ∈ a) q xs) (hs : ∀ p ∈ a, CodeP p.2 q → p ∈ b) : CodesIn (· ∈ b) q xs := fun x hx => by
  obtain ⟨o, h1, h2⟩ := h x hx
  exact ⟨o, hs _ h1 h2, h2⟩
theorem TV.subD {ps qs : Array Value} {a b : List (Addr × Obj)} (h : TV ps qs a) (hs : ∀ p ∈ a, ∀ q, CodeP p.2 q → p ∈ b) (ho : ∀ p ∈ b, p.1 ≠ 30 ∧ p.1 ≠ 37) : TV ps qs b :=
  ⟨h.hit.imp id fun ⟨c1, c2, c3, c4, e, k⟩ => ⟨c1, c2, c3, c4, e, k.subD fun p hp => hs p hp _⟩, h.fnd.imp id fun ⟨c1, c2, e, k, k'⟩ => ⟨c1, c2, e, k.subD fun p hp => hs p hp _, k'.subD fun p hp => hs p hp _⟩, ho⟩
section
variable {L gl : Nat} {oL oL' o4 o2 o1 oG oG' : Obj} {ps qs ps2 qs2 : Array Value} {led own ex1 ex2 : List (Addr × Obj)}
theorem off_turn (h0 : @LT.lt Nat _ 30 L ∧ @LT.lt Nat _ 37 L) (hdj : Dj own ((30, tabObj ps) :: (37, tabObj qs) :: (L + 1 + 1 + 1, oL) :: (L + 1 + 1 + 1 + 1, o4) :: (L + 1 + 1, o2) :: (L + 1, o1) :: led))
    (D5 : Dj ex1 ((gl, oG) :: (L + 1 + 1 + 1, oL) :: (L + 1 + 1 + 1 + 1, o4) :: (L + 1 + 1, o2) :: (L + 1, o1) :: (led ++ own))) (D8 : Dj ex2 ((gl, oG') :: (L + 1 + 1 + 1, oL) :: (L + 1 + 1 + 1 + 1, o4) :: (L + 1 + 1, o2) :: (L + 1, o1) :: (ex1 ++ (led ++ own))))
    (hoff : ∀ p ∈ led, p.1 ≠ L + 1 + 1 + 1) : ∀ p ∈ (30, tabObj ps2) :: (37, tabObj qs2) :: (L + 1 + 1 + 1 + 1, o4) :: (L + 1 + 1, o2) :: (L + 1, o1) :: (ex2 ++ (ex1 ++ (led ++ own))), p.1 ≠ L + 1 + 1 + 1 := fun p hp => by
  obtain ⟨h30, h37⟩ := h0
  simp only [List.mem_cons, List.mem_append] at hp
  rcases hp with h | h | h | h | h | h | h | h | h
  · subst h; show 30 ≠ L + 1 + 1 + 1; omega
  · subst h; show 37 ≠ L + 1 + 1 + 1; omega
  · subst h; show L + 1 + 1 + 1 + 1 ≠ L + 1 + 1 + 1; omega
  · subst h; show L + 1 + 1 ≠ L + 1 + 1 + 1; omega
  · subst h; show L + 1 ≠ L + 1 + 1 + 1; omega
  · exact D8 p h (L + 1 + 1 + 1, oL) (.tail _ (.head _))
  · exact D5 p h (L + 1 + 1 + 1, oL) (.tail _ (.head _))
  · exact hoff p h
  · exact hdj p h (L + 1 + 1 + 1, oL) (.tail _ (.tail _ (.head _)))
theorem led_turn {h₀ h : Heap} {Lc : Addr} {rl y z g a b c d : Addr × Obj} {r : List (Addr × Obj)} (N : News h₀ Lc h (rl :: y :: z :: g :: a :: b :: c :: d :: r)) : News h₀ Lc h (a :: y :: z :: b :: c :: d :: r) := fun p hp => N p (by
  simp only [List.mem_cons] at hp ⊢
  rcases hp with h | h | h | h | h | h | h <;> simp [h])
theorem gr_end2 {h₀ h' : Heap} {Lc : Addr} {lo mm wd sz st i : Nat} {rs0 rs rs' : List Nat} {tl tl' : Tok} {stored : List PySem.Str} {x : PySem.Str} {m₀ m' : PySem.Str → Option Value} {s₁ : Shared} {tk : Nat}
    (F : Fr h₀ Lc h' m') (N : News h₀ Lc h' ((L + 1 + 1 + 1, oL') :: (30, tabObj ps2) :: (37, tabObj qs2) :: (L + 1 + 1 + 1 + 1, o4) :: (L + 1 + 1, o2) :: (L + 1, o1) :: (ex2 ++ (ex1 ++ (led ++ own)))))
    (h0 : @LT.lt Nat _ 30 L ∧ @LT.lt Nat _ 37 L) (hdj : Dj own ((30, tabObj ps) :: (37, tabObj qs) :: (L + 1 + 1 + 1, oL) :: (L + 1 + 1 + 1 + 1, o4) :: (L + 1 + 1, o2) :: (L + 1, o1) :: led)) (hcode : ∀ p ∈ own, p.2.cls ≠ .type "code")
    (D5 : Dj ex1 ((gl, oG) :: (L + 1 + 1 + 1, oL) :: (L + 1 + 1 + 1 + 1, o4) :: (L + 1 + 1, o2) :: (L + 1, o1) :: (led ++ own))) (D8 : Dj ex2 ((gl, oG') :: (L + 1 + 1 + 1, oL) :: (L + 1 + 1 + 1 + 1, o4) :: (L + 1 + 1, o2) :: (L + 1, o1) :: (ex1 ++ (led ++ own))))
    (V8 : TV ps2 qs2 (ex2 ++ ((L + 1 + 1 + 1, oL) :: (L + 1 + 1 + 1 + 1, o4) :: (L + 1 + 1, o2) :: (L + 1, o1) :: (ex1 ++ (led ++ own))))) (dL : oL.data = .cell (some (.str (txt lo rs) tl))) (dL' : oL'.data = .cell (some (.str (txt lo rs') tl')))
    (hrs : rs' = stepR wd mm rs) (hdig : Dig mm rs) (hm : 0 < mm) (hlen : rs.length = sz + i) (hi : i < st) (hit : iterR wd mm (st - i) rs = iterR wd mm st rs0) (hoff : ∀ p ∈ led, p.1 ≠ L + 1 + 1 + 1)
    (hk : ∀ z, z ≠ x → stored.contains z = false → m' z = m₀ z) :
    GrEnd h₀ Lc (fun c : WSt => (30, tabObj c.ps) :: (37, tabObj c.qs) :: (L + 1 + 1 + 1, c.oL) :: (L + 1 + 1 + 1 + 1, o4) :: (L + 1 + 1, o2) :: (L + 1, o1) :: c.led) (fun _ => []) stored x m₀ (WInv L lo mm wd sz st rs0 o4 o2 o1 (i + 1)) own s₁ { s₁ with heap := h', toks := tk } := by
  have offs := off_turn (ps2 := ps2) (qs2 := qs2) h0 hdj D5 D8 hoff
  refine ⟨⟨oL', rs', tl', ps2, qs2, ex2 ++ (ex1 ++ led)⟩, h', tk, m', _, rfl, F, N, fun p hp => ?_, fun p hp => ?_, ?_, (fun _ h => nomatch h), fun z h1 _ h3 => hk z h1 h3, ⟨?_, dL', ?_, ?_, ?_, ?_⟩⟩
  · simp only [List.mem_cons, List.mem_append] at hp ⊢
    rcases hp with h | h | h | h | h | h | h | h | h <;> simp [h]
  · simp only [List.mem_cons, List.mem_append]
    simp [hp]
  · intro p hp q hq
    simp only [List.mem_cons, List.mem_append] at hq
    rcases hq with h | h | h | h | h | h | h | h | h
    · subst h; exact hdj p hp (30, tabObj ps) (.head _)
    · subst h; exact hdj p hp (37, tabObj qs) (.tail _ (.head _))
    · subst h; exact hdj p hp (L + 1 + 1 + 1, oL) (.tail _ (.tail _ (.head _)))
    · exact hdj p hp q (by simp [h])
    · exact hdj p hp q (by simp [h])
    · exact hdj p hp q (by simp [h])
    · exact (D8 q h p (by simp [hp])).symm
    · exact (D5 q h p (by simp [hp])).symm
    · exact hdj p hp q (by simp [h])
  · refine V8.subD (fun p hp q hc => ?_) fun p hp => ?_
    · simp only [List.mem_cons, List.mem_append] at hp ⊢
      rcases hp with h | h | h | h | h | h | h | h
      · simp [h]
      · subst h
        obtain ⟨_, vs, t, e, _⟩ := hc
        have e' : oL.data = .fields vs := e
        rw [dL] at e'; cases e'
      · simp [h]
      · simp [h]
      · simp [h]
      · simp [h]
      · simp [h]
      · exact absurd hc.1 (hcode p h)
    · simp only [List.mem_cons, List.mem_append] at hp
      rcases hp with h | h | h | h | h | h | h
      · subst h; exact V8.off (L + 1 + 1 + 1, oL) (by simp)
      · exact V8.off p (by simp [h])
      · exact V8.off p (by simp [h])
      · exact V8.off p (by simp [h])
      · exact V8.off p (by simp [h])
      · exact V8.off p (by simp [h])
      · exact V8.off p (by simp [h])
  · rw [hrs]; exact Dig.step hm hdig
  · show rs'.length = sz + (i + 1)
    rw [hrs]; show (_ :: rs).length = _
    simp [hlen]; omega
  · show iterR wd mm (st - (i + 1)) rs' = _
    rw [hrs, ← hit, show st - i = (st - (i + 1)) + 1 by omega]
    rfl
  · intro p hp
    have hp' : p ∈ ex2 ++ (ex1 ++ led) := hp
    exact offs p (by simp only [List.mem_cons, List.mem_append] at hp' ⊢; rcases hp' with h | h | h <;> simp [h])
end
end Mine
end
section
open PySem PySem.W PyProof.Rows PySem.Spec PySem.Calls PySem.Builtin PySem.Builtin.Str
set_option Elab.async false
set_option maxRecDepth 100000
namespace Mine
theorem find16 : ∀ k : Fin 16, Txt.find (PySem.Str.ofString "ABCDEFGHIJKLMNOP") ⟨#[65 + k.val]⟩ = (k.val : Int) := by decide +kernel
theorem item_txt {lo : Nat} {rs : List Nat} {q : Nat} (hq : q < rs.length) : Txt.item (txt lo rs) (q : Int) = ⟨#[65 + (lo + rs[rs.length - 1 - q]'(by omega))]⟩ := by
  have h : (txt lo rs).cps[q]? = some (65 + (lo + rs[rs.length - 1 - q]'(by omega))) := by
    unfold txt
    simp only [List.getElem?_toArray, List.getElem?_map]
    rw [List.getElem?_reverse hq, List.getElem?_eq_getElem (by omega)]
    rfl
  have hl := txt_len lo rs
  have hs : seqIndex? (q : Int) (txt lo rs).length = some q := by
    unfold seqIndex?
    rw [hl]
    have h1 : ¬ ((q : Int) < 0) := by omega
    have h2 : (decide (0 ≤ (q : Int)) && decide ((q : Int) < (rs.length : Int))) = true := by
      rw [Bool.and_eq_true, decide_eq_true_eq, decide_eq_true_eq]; omega
    simp only [h1, if_false, h2, if_true, Int.toNat_natCast]
  unfold Txt.item Txt.charAt
  rw [hs]
  show (⟨#[((txt lo rs).cps[q]?).getD 0]⟩ : PySem.Str) = _
  rw [h]
  rfl
theorem find_txt {lo m : Nat} {rs : List Nat} {q : Nat} (hl : lo + m ≤ 16) (h : Dig m rs) (hq : q < rs.length) : Txt.find (PySem.Str.ofString "ABCDEFGHIJKLMNOP") (Txt.item (txt lo rs) (q : Int)) = ((lo + rs[rs.length - 1 - q]'(by omega) : Nat) : Int) := by
  rw [item_txt hq]
  have hd := h _ (List.getElem_mem (show rs.length - 1 - q < rs.length by omega))
  exact find16 ⟨lo + rs[rs.length - 1 - q]'(by omega), by omega⟩
end Mine
end
section
open PySem PySem.W PyProof.Rows PySem.Spec PySem.Calls
set_option Elab.async false
set_option maxRecDepth 100000
namespace Mine
noncomputable def CaseMW (mm wd : Nat) : Prop := (mm = 3 ∧ wd = 1) ∨ (mm = 2 ∧ wd = 2) ∨ (mm = 4 ∧ wd = 1) ∨ (mm = 2 ∧ wd = 3)
/-- the k-th window, in a text told from its end -/
noncomputable def win (wd rg : Nat) (T : List Nat) (k : Nat) : List Nat := (T.drop (rg - 1 - k)).take (wd + 1)
theorem iterR_len {wd mm : Nat} : ∀ {n : Nat} {rs : List Nat}, (iterR wd mm n rs).length = rs.length + n
  | 0, rs => rfl
  | n + 1, rs => by rw [iterR, iterR_len]; show (_ :: rs).length + n = _; simp; omega
theorem iterR_drop {wd mm : Nat} : ∀ {n : Nat} {rs : List Nat}, (iterR wd mm n rs).drop n = rs
  | 0, rs => rfl
  | n + 1, rs => by
    rw [iterR, ← List.drop_drop, iterR_drop]
    rfl
theorem iterR_add {wd mm : Nat} : ∀ {a b : Nat} {rs : List Nat}, iterR wd mm (a + b) rs = iterR wd mm b (iterR wd mm a rs)
  | 0, b, rs => by rw [Nat.zero_add]; rfl
  | a + 1, b, rs => by rw [show a + 1 + b = (a + b) + 1 by omega, iterR, iterR, iterR_add]
theorem iterR_dig {wd mm : Nat} (hm : 0 < mm) : ∀ {n : Nat} {rs : List Nat}, Dig mm rs → Dig mm (iterR wd mm n rs)
  | 0, rs, h => h
  | n + 1, rs, h => iterR_dig (rs := stepR wd mm rs) hm (Dig.step hm h)
namespace CK3
noncomputable def dg (E k : Nat) : Nat := Nat.mod (Nat.div E (Nat.pow 8 k)) 8
noncomputable def up (E c v : Nat) : Nat := Nat.sub (Nat.add E (Nat.mul v (Nat.pow 8 c))) (Nat.mul (dg E c) (Nat.pow 8 c))
theorem dg_def (E k : Nat) : dg E k = E / 8 ^ k % 8 := rfl
theorem up_def (E c v : Nat) : up E c v = E + v * 8 ^ c - dg E c * 8 ^ c := rfl
theorem dg_lt (E k : Nat) : dg E k < 8 := Nat.mod_lt _ (by decide)
theorem dg_low {a lo k j : Nat} : ((a * (8 ^ k * (8 * 8 ^ j)) + lo) / 8 ^ k) % 8 = (lo / 8 ^ k) % 8 := by
  have hp : 0 < 8 ^ k := Nat.pow_pos (by decide)
  rw [show a * (8 ^ k * (8 * 8 ^ j)) + lo = lo + (a * 8 ^ j * 8) * 8 ^ k by
    rw [Nat.add_comm, Nat.mul_comm (8 ^ k), ← Nat.mul_assoc, ← Nat.mul_assoc a, Nat.mul_right_comm a]]
  rw [Nat.add_mul_div_right _ _ hp, Nat.add_mul_mod_self_right]
theorem dg_up {E c v k : Nat} (hv : v < 8) : dg (up E c v) k = if k = c then v else dg E k := by
  have hp : 0 < 8 ^ c := Nat.pow_pos (by decide)
  have h1 := Nat.div_add_mod' E (8 ^ c)
  have hlo := Nat.mod_lt E hp
  have he : dg E c = E / 8 ^ c % 8 := rfl
  have h2 := Nat.div_add_mod' (E / 8 ^ c) 8
  obtain ⟨hi, hhi⟩ : ∃ hi, hi = E / 8 ^ c / 8 := ⟨_, rfl⟩
  obtain ⟨e, hee⟩ : ∃ e, e = dg E c := ⟨_, rfl⟩
  obtain ⟨lo, hlo'⟩ : ∃ lo, lo = E % 8 ^ c := ⟨_, rfl⟩
  have hq : E / 8 ^ c = hi * 8 + e := by rw [hee, he, hhi]; omega
  have hE : E = (hi * 8 + e) * 8 ^ c + lo := by rw [← hq, hlo']; omega
  have hU : up E c v = (hi * 8 + v) * 8 ^ c + lo := by
    rw [up_def, ← hee]
    have a1 : (hi * 8 + e) * 8 ^ c = hi * 8 * 8 ^ c + e * 8 ^ c := Nat.add_mul _ _ _
    have a2 : (hi * 8 + v) * 8 ^ c = hi * 8 * 8 ^ c + v * 8 ^ c := Nat.add_mul _ _ _
    omega
  have hll : lo < 8 ^ c := by rw [hlo']; exact hlo
  have top : ∀ a, (a * 8 ^ c + lo) / 8 ^ c = a := fun a => by
    rw [Nat.add_comm, Nat.add_mul_div_right _ _ hp, Nat.div_eq_of_lt hll, Nat.zero_add]
  by_cases hk : k = c
  · subst hk
    rw [if_pos rfl, dg_def, hU, top]; omega
  · rw [if_neg hk, dg_def, dg_def, hU]
    conv => rhs; rw [hE]
    rcases Nat.lt_or_ge k c with h | h
    · obtain ⟨j, rfl⟩ : ∃ j, c = k + (j + 1) := ⟨c - k - 1, by omega⟩
      rw [Nat.pow_add, Nat.pow_succ, Nat.mul_comm (8 ^ j) 8, dg_low, dg_low]
    · obtain ⟨j, rfl⟩ : ∃ j, k = c + (j + 1) := ⟨k - c - 1, by omega⟩
      rw [Nat.pow_add, Nat.pow_succ, Nat.mul_comm (8 ^ j) 8, ← Nat.div_div_eq_div_mul, ← Nat.div_div_eq_div_mul, top, ← Nat.div_div_eq_div_mul, ← Nat.div_div_eq_div_mul, top]
      congr 2
      omega
noncomputable def code (m : Nat) : List Nat → Nat
  | [] => 0
  | d :: r => d + m * code m r
theorem code_lt {m : Nat} : ∀ {f : List Nat}, Dig m f → code m f < m ^ f.length
  | [], _ => by simp [code]
  | d :: r, h => by
    have hd := h d (.head _)
    have ih := code_lt fun x hx => h x (.tail _ hx)
    rw [code, List.length_cons, Nat.pow_succ]
    have : m * code m r + m ≤ m ^ r.length * m := by
      rw [Nat.mul_comm (m ^ r.length), ← Nat.mul_succ]
      exact Nat.mul_le_mul_left _ ih
    omega
theorem code_inj {m : Nat} : ∀ {f g : List Nat}, f.length = g.length → Dig m f → Dig m g → code m f = code m g → f = g
  | [], [], _, _, _, _ => rfl
  | a :: f, b :: g, hl, hf, hg, e => by
    have ha := hf a (.head _)
    have hb := hg b (.head _)
    rw [code, code] at e
    have e1 : a = b := by
      have := congrArg (· % m) e
      simp only [Nat.add_mul_mod_self_left, Nat.mod_eq_of_lt ha, Nat.mod_eq_of_lt hb] at this
      exact this
    subst e1
    have hm : 0 < m := by omega
    rw [code_inj (by simpa using hl) (fun x hx => hf x (.tail _ hx)) (fun x hx => hg x (.tail _ hx)) (Nat.eq_of_mul_eq_mul_left hm (by omega))]
theorem code_take {m : Nat} : ∀ {w : Nat} {r : List Nat}, Dig m r → code m r % m ^ w = code m (r.take w)
  | 0, r, _ => by simp [code, Nat.mod_one]
  | w + 1, [], _ => by simp [code]
  | w + 1, d :: r, h => by
    have hd := h d (.head _)
    have ih := code_take (w := w) fun x hx => h x (.tail _ hx)
    rw [List.take_succ_cons, code, code, ← ih, Nat.pow_succ, Nat.mul_comm (m ^ w), Nat.mod_mul]
    rw [Nat.add_mul_mod_self_left, Nat.mod_eq_of_lt hd, Nat.add_mul_div_left _ _ (by omega), Nat.div_eq_of_lt hd, Nat.zero_add]
noncomputable def val : Option Nat → Nat
  | none => 0
  | some d => d + 1
noncomputable def Inv (wd m E : Nat) (rs : List Nat) : Prop := ∀ f : List Nat, f.length = wd → Dig m f → dg E (code m f) = val (scan f rs)
theorem inv_step {wd m E d : Nat} {rs : List Nat} (hm : m ≤ 6) (hw : wd ≤ rs.length) (hr : Dig m rs) (hd : d < m) (h : Inv wd m E rs) : Inv wd m (up E (code m (rs.take wd)) (d + 1)) (d :: rs) := fun f hf hfd => by
  rw [dg_up (by omega)]
  unfold scan
  by_cases e : rs.take f.length = f
  · rw [if_pos e, if_pos (by rw [← hf, e])]; rfl
  · rw [if_neg e, if_neg, h f hf hfd]
    intro e2
    rw [hf] at e
    exact e (code_inj (by rw [List.length_take]; omega) (hr.take wd) hfd e2.symm)
theorem next_val {wd m : Nat} {rs : List Nat} : val (scan (rs.take wd) rs) % m = nextR wd m rs := by
  unfold nextR
  cases scan (rs.take wd) rs with
  | none => simp [val]
  | some d => rfl
noncomputable def forceN (k : Nat) (f : Nat → Bool) : Bool := match k with
  | 0 => f 0
  | n + 1 => f (n + 1)
theorem forceN_eq (k : Nat) (f : Nat → Bool) : forceN k f = f k := by unfold forceN; split <;> rfl
noncomputable def go2 (m q : Nat) : Nat → Nat → Nat → Nat → Nat → Bool
  | 0, _, c, _, c0 => Nat.beq c c0
  | n + 1, E, c, M, c0 => forceN (Nat.mod (dg E c) m) fun d => forceN (Nat.add d (Nat.mul m c)) fun wn =>
    match dg M wn with
    | 0 => forceN (up E c (Nat.succ d)) fun E' => forceN (Nat.add d (Nat.mul m (Nat.mod c q))) fun c' => forceN (Nat.add M (Nat.pow 8 wn)) fun M' => go2 m q n E' c' M' c0
    | _ + 1 => false
noncomputable def go1 (m q rg : Nat) : Nat → Nat → Nat → Bool
  | 0, E, c => go2 m q rg E c 0 c
  | n + 1, E, c => forceN (Nat.mod (dg E c) m) fun d => forceN (up E c (Nat.succ d)) fun E' => forceN (Nat.add d (Nat.mul m (Nat.mod c q))) fun c' => go1 m q rg n E' c'
noncomputable def words (m : Nat) : Nat → List (List Nat)
  | 0 => [[]]
  | k + 1 => (words m k).flatMap fun r => (List.range m).map fun d => d :: r
theorem mem_words {m : Nat} : ∀ {rs : List Nat}, Dig m rs → rs ∈ words m rs.length
  | [], _ => by simp [words]
  | d :: r, h => by
    rw [List.length_cons, words, List.mem_flatMap]
    exact ⟨r, mem_words fun x hx => h x (.tail _ hx), List.mem_map.mpr ⟨d, List.mem_range.mpr (h d (.head _)), rfl⟩⟩
theorem c_step {wd m d : Nat} {rs : List Nat} (hw1 : 1 ≤ wd) (hr : Dig m rs) : d + m * (code m (rs.take wd) % m ^ (wd - 1)) = code m ((d :: rs).take wd) := by
  obtain ⟨k, rfl⟩ : ∃ k, wd = k + 1 := ⟨wd - 1, by omega⟩
  rw [List.take_succ_cons, code, Nat.add_sub_cancel, code_take (hr.take _), List.take_take, Nat.min_eq_left (Nat.le_succ k)]
theorem go1_spec {wd m rg : Nat} (hm : 0 < m) (hm6 : m ≤ 6) (hw1 : 1 ≤ wd) : ∀ {n E c : Nat} {rs : List Nat}, Inv wd m E rs → c = code m (rs.take wd) → wd ≤ rs.length → Dig m rs → go1 m (m ^ (wd - 1)) rg n E c = true →
    ∃ E', Inv wd m E' (iterR wd m n rs) ∧ go2 m (m ^ (wd - 1)) rg E' (code m ((iterR wd m n rs).take wd)) 0 (code m ((iterR wd m n rs).take wd)) = true
  | 0, E, c, rs, hI, hc, _, _, h => ⟨E, hI, by subst hc; exact h⟩
  | n + 1, E, c, rs, hI, hc, hw, hd, h => by
    subst hc
    rw [go1, forceN_eq, forceN_eq, forceN_eq] at h
    have hn : Nat.mod (dg E (code m (rs.take wd))) m = nextR wd m rs := by
      rw [hI (rs.take wd) (by rw [List.length_take]; omega) (hd.take wd)]
      exact next_val
    rw [hn] at h
    have hc' : Nat.add (nextR wd m rs) (Nat.mul m (Nat.mod (code m (rs.take wd)) (m ^ (wd - 1)))) = code m ((stepR wd m rs).take wd) := c_step hw1 hd
    rw [hc'] at h
    exact go1_spec (rs := stepR wd m rs) hm hm6 hw1 (inv_step hm6 hw hd (nextR_lt hm) hI) rfl (Nat.le_succ_of_le hw) (Dig.step hm hd) h
theorem go2_spec {wd m c0 : Nat} (hm : 0 < m) (hm6 : m ≤ 6) (hw1 : 1 ≤ wd) : ∀ {n k E c M : Nat} {rs : List Nat}, Inv wd m E rs → c = code m (rs.take wd) → k + wd ≤ rs.length → Dig m rs →
    (∀ w, dg M w = 0 → ∀ j, j < k → code m ((rs.drop j).take (wd + 1)) ≠ w) → (∀ i j, i < j → j < k → (rs.drop i).take (wd + 1) ≠ (rs.drop j).take (wd + 1)) → go2 m (m ^ (wd - 1)) n E c M c0 = true →
    (∀ i j, i < j → j < k + n → ((iterR wd m n rs).drop i).take (wd + 1) ≠ ((iterR wd m n rs).drop j).take (wd + 1)) ∧ code m ((iterR wd m n rs).take wd) = c0
  | 0, k, E, c, M, rs, _, hc, _, _, _, hdist, h => ⟨fun i j hij hj => hdist i j hij hj, by subst hc; exact Nat.eq_of_beq_eq_true h⟩
  | n + 1, k, E, c, M, rs, hI, hc, hw, hd, hM, hdist, h => by
    subst hc
    rw [go2, forceN_eq, forceN_eq] at h
    have hn : Nat.mod (dg E (code m (rs.take wd))) m = nextR wd m rs := by
      rw [hI (rs.take wd) (by rw [List.length_take]; omega) (hd.take wd)]
      exact next_val
    rw [hn] at h
    have hwn : Nat.add (nextR wd m rs) (Nat.mul m (code m (rs.take wd))) = code m ((stepR wd m rs).take (wd + 1)) := rfl
    rw [hwn] at h
    obtain ⟨wn, hwn2⟩ : ∃ wn, wn = code m ((stepR wd m rs).take (wd + 1)) := ⟨_, rfl⟩
    rw [← hwn2] at h
    cases hz : dg M wn with
    | succ x => rw [hz] at h; cases h
    | zero =>
      rw [hz] at h
      (try dsimp only at h)
      rw [forceN_eq, forceN_eq, forceN_eq] at h
      have hc' : Nat.add (nextR wd m rs) (Nat.mul m (Nat.mod (code m (rs.take wd)) (m ^ (wd - 1)))) = code m ((stepR wd m rs).take wd) := c_step hw1 hd
      have hM' : Nat.add M (Nat.pow 8 wn) = up M wn 1 := by
        rw [up_def, hz]
        show M + 8 ^ wn = M + 1 * 8 ^ wn - 0 * 8 ^ wn
        omega
      rw [hc', hM'] at h
      have hfar : ∀ j, j < k → (stepR wd m rs).take (wd + 1) ≠ (rs.drop j).take (wd + 1) := fun j hj e => hM wn hz j hj (by rw [hwn2, e])
      have r := go2_spec (n := n) (k := k + 1) (rs := stepR wd m rs) hm hm6 hw1 (inv_step hm6 (by omega) hd (nextR_lt hm) hI) rfl (by show k + 1 + wd ≤ rs.length + 1; omega) (Dig.step hm hd) (fun w hw0 j hj => ?_) (fun i j hij hj => ?_) h
      · refine ⟨fun i j hij hj => r.1 i j hij (by omega), r.2⟩
      · rw [dg_up (by decide)] at hw0
        by_cases e : w = wn
        · rw [if_pos e] at hw0; cases hw0
        · rw [if_neg e] at hw0
          cases j with
          | zero =>
            show code m ((stepR wd m rs).take (wd + 1)) ≠ w
            rw [← hwn2]
            exact fun e2 => e e2.symm
          | succ j => exact hM w hw0 j (by omega)
      · cases j with
        | zero => omega
        | succ j =>
          cases i with
          | zero => exact hfar j (by omega)
          | succ i => exact hdist i j (by omega) (by omega)
noncomputable def initE (wd m : Nat) : List Nat → Nat
  | [] => 0
  | d :: r => match Nat.ble wd r.length with
    | true => up (initE wd m r) (code m (r.take wd)) (Nat.succ d)
    | false => 0
theorem dg_zero (k : Nat) : dg 0 k = 0 := by rw [dg_def, Nat.zero_div]
theorem init_inv {wd m : Nat} (hm6 : m ≤ 6) : ∀ {rs : List Nat}, Dig m rs → Inv wd m (initE wd m rs) rs
  | [], _ => fun f hf _ => by rw [scan_short hf (Nat.zero_le _)]; exact dg_zero _
  | d :: r, h => by
    unfold initE
    cases hb : Nat.ble wd r.length with
    | true => exact inv_step hm6 (Nat.le_of_ble_eq_true hb) (fun x hx => h x (.tail _ hx)) (h d (.head _)) (init_inv hm6 fun x hx => h x (.tail _ hx))
    | false =>
      intro f hf _
      have : ¬ wd ≤ r.length := fun e => by rw [Nat.ble_eq_true_of_le e] at hb; cases hb
      rw [scan_short hf (by simp; omega)]
      exact dg_zero _
noncomputable def chk (wd m rg s1 : Nat) (rs : List Nat) : Bool := go1 m (Nat.pow m (Nat.sub wd 1)) rg s1 (initE wd m rs) (code m (rs.take wd))
noncomputable def all (wd mm sz : Nat) : Bool := (words mm sz).all (chk wd mm (mm ^ (wd + 1)) (mm ^ (wd + 1) * (wd + 1) - mm ^ (wd + 1)))
theorem a1 : all 1 3 1 = true := by decide +kernel
theorem a2 : all 1 3 2 = true := by decide +kernel
theorem a3 : all 1 3 3 = true := by decide +kernel
theorem a4 : all 1 3 4 = true := by decide +kernel
theorem b2 : all 2 2 2 = true := by decide +kernel
theorem b3 : all 2 2 3 = true := by decide +kernel
theorem b4 : all 2 2 4 = true := by decide +kernel
theorem b5 : all 2 2 5 = true := by decide +kernel
theorem c1 : all 1 4 1 = true := by decide +kernel
theorem c2 : all 1 4 2 = true := by decide +kernel
theorem c3 : all 1 4 3 = true := by decide +kernel
theorem c4 : all 1 4 4 = true := by decide +kernel
theorem d3 : all 3 2 3 = true := by decide +kernel
theorem d4 : all 3 2 4 = true := by decide +kernel
theorem d5 : all 3 2 5 = true := by decide +kernel
theorem d6 : all 3 2 6 = true := by decide +kernel
theorem all_ok {mm wd sz : Nat} (hc : CaseMW mm wd) (h1 : wd ≤ sz) (h2 : sz ≤ wd + 3) : all wd mm sz = true := by
  rcases hc with ⟨rfl, rfl⟩ | ⟨rfl, rfl⟩ | ⟨rfl, rfl⟩ | ⟨rfl, rfl⟩
  · have : sz = 1 ∨ sz = 2 ∨ sz = 3 ∨ sz = 4 := by omega
    rcases this with rfl | rfl | rfl | rfl
    · exact a1
    · exact a2
    · exact a3
    · exact a4
  · have : sz = 2 ∨ sz = 3 ∨ sz = 4 ∨ sz = 5 := by omega
    rcases this with rfl | rfl | rfl | rfl
    · exact b2
    · exact b3
    · exact b4
    · exact b5
  · have : sz = 1 ∨ sz = 2 ∨ sz = 3 ∨ sz = 4 := by omega
    rcases this with rfl | rfl | rfl | rfl
    · exact c1
    · exact c2
    · exact c3
    · exact c4
  · have : sz = 3 ∨ sz = 4 ∨ sz = 5 ∨ sz = 6 := by omega
    rcases this with rfl | rfl | rfl | rfl
    · exact d3
    · exact d4
    · exact d5
    · exact d6
end CK3
theorem plain2 {mm wd sz rg st : Nat} {rs T : List Nat} (hc : CaseMW mm wd) (h1 : wd ≤ sz) (h2 : sz ≤ wd + 3) (hd : Dig mm rs) (hl : rs.length = sz) (hrg : rg = mm ^ (wd + 1)) (hst : st = rg * (wd + 1)) (hT : T = (iterR wd mm st rs).take (rg + wd)) :
    (∀ a b, a < b → b < rg → win wd rg T a ≠ win wd rg T b) ∧ T.drop rg = T.take wd := by
  have hmw : 0 < mm ∧ mm ≤ 6 ∧ 1 ≤ wd := by rcases hc with ⟨rfl, rfl⟩ | ⟨rfl, rfl⟩ | ⟨rfl, rfl⟩ | ⟨rfl, rfl⟩ <;> decide
  obtain ⟨hm, hm6, hw1⟩ := hmw
  have h := List.all_eq_true.mp (CK3.all_ok hc h1 h2) rs (hl ▸ CK3.mem_words hd)
  rw [← hrg, ← hst] at h
  have hrgst : rg ≤ st := by rw [hst]; exact Nat.le_mul_of_pos_right _ (Nat.succ_pos _)
  obtain ⟨E', hI', h'⟩ := CK3.go1_spec hm hm6 hw1 (CK3.init_inv hm6 hd) rfl (by omega) hd h
  have hd1 := iterR_dig (wd := wd) (n := st - rg) hm hd
  have r := CK3.go2_spec (k := 0) hm hm6 hw1 hI' rfl (by rw [iterR_len]; omega) hd1 (fun _ _ j hj => absurd hj (Nat.not_lt_zero _)) (fun _ j _ hj => absurd hj (Nat.not_lt_zero _)) h'
  have hR : iterR wd mm rg (iterR wd mm (st - rg) rs) = iterR wd mm st rs := by rw [← iterR_add, Nat.sub_add_cancel hrgst]
  rw [hR] at r
  obtain ⟨R, hRd⟩ : ∃ R, R = iterR wd mm st rs := ⟨_, rfl⟩
  have hRl : R.length = sz + st := by rw [hRd, iterR_len, hl]
  have hdr : R.drop rg = iterR wd mm (st - rg) rs := by rw [hRd, ← hR, iterR_drop]
  rw [← hRd] at r hT
  rw [← hdr] at r
  have hdR : Dig mm R := by rw [hRd]; exact iterR_dig hm hd
  have hfr : R.take wd = (R.drop rg).take wd := CK3.code_inj (by rw [List.length_take, List.length_take, List.length_drop]; omega) (hdR.take wd) ((hdR.drop rg).take wd) r.2
  have hwin : ∀ a, a < rg → win wd rg T a = (R.drop (rg - 1 - a)).take (wd + 1) := fun a ha => by
    unfold win
    rw [hT, List.drop_take, List.take_take, Nat.min_eq_left (by omega)]
  refine ⟨fun a b hab hb e => ?_, ?_⟩
  · rw [hwin a (by omega), hwin b hb] at e
    exact r.1 (rg - 1 - b) (rg - 1 - a) (by omega) (by omega) e.symm
  · rw [hT, List.drop_take, List.take_take, Nat.min_eq_left (by omega), show rg + wd - rg = wd by omega]
    exact hfr.symm
end Mine
end
section
open PySem PySem.W PyProof.Rows PySem.Spec PySem.Calls
set_option Elab.async false
set_option maxRecDepth 100000
namespace Mine
section
variable {prog : Program} {w : World} {K : Type} [DecidableEq K] {knd : KeyKind prog w K}
/-- the keys that stand ahead of place i -/
noncomputable def ahead (val : Nat → K) (i : Nat) (k : K) : Bool := (List.range i).any fun j => decide (val j = k)
theorem ahead_succ (val : Nat → K) (i : Nat) (k : K) : ahead val (i + 1) k = (ahead val i k || decide (k = val i)) := by
  unfold ahead
  rw [List.range_succ, List.any_append]
  congr 1
  simp only [List.any_cons, List.any_nil, Bool.or_false]
  by_cases h : val i = k
  · subst h; simp
  · rw [decide_eq_false h, decide_eq_false fun e => h e.symm]
theorem ahead_new {val : Nat → K} {i n : Nat} (hnew : ∀ a b, a < b → b < n → val a ≠ val b) (hi : i < n) : ahead val i (val i) = false := by
  unfold ahead
  rw [List.any_eq_false]
  intro j hj
  have := hnew j i (List.mem_range.mp hj) hi
  simpa using this
theorem setOf_eq {h : Heap} {a : Addr} {S S' : K → Bool} {n n' : Nat} (hS : h.SetOf knd a S n) (e : ∀ k, S k = S' k) (en : n = n') : h.SetOf knd a S' n' := by
  have e' : S = S' := funext e
  subst e' en
  exact hS
theorem loop_new {A : Around} {R : Result → Shared → Prop} {I : Addr} {fp wr : List Addr} {G : Array GenState → Array GenState → Prop} {n : Nat} {P : Nat → Value → Prop} {St : Nat → Shared → Prop} (W : WalksS prog w A.in1 I fp wr G n P St) (S : Addr) (hSf : S ∉ fp)
    (val : Nat → K) (hval : ∀ i v, P i v → knd.is (val i) v = true ∧ v.scannable = true) (hnew : ∀ a b, a < b → b < n → val a ≠ val b) (hb : n + 1 < scanBound) :
    ∀ (k i : Nat) (s : Shared), n - i = k → i ≤ n → St i s → s.heap.SetOf knd S (ahead val i) i →
      (∀ s', Moved (S :: wr) G s s' → s'.heap.SetOf knd S (ahead val n) n → R (.ok (.ret .none)) s') →
      codeAny (model prog w) A (.builtin "set.update.loop" ⟨[.ref S, .ref I], []⟩) R s := by
  have hSw : S ∉ wr := fun h => hSf (W.sub _ h)
  have hsub : ∀ b ∈ wr, b ∈ S :: wr := fun b hb => List.mem_cons_of_mem _ hb
  intro k
  induction k with
  | zero =>
    intro i s hk hi hst hS hR
    obtain rfl : i = n := by omega
    refine codeAny_builtin F.entry_set_update_loop ?_
    rw [Around.under_plainId F.plain_set_update_loop _]
    show wpAny _ A.in1 (pyNext (.ref I) >>= _) _ _ s
    refine wpAny_bind (W.done s _ _ hst fun s' hm => ?_)
    exact wpAny_pure (hR s' (hm.mono hsub) (by
      obtain ⟨o, es, ep, t, ho, rest⟩ := hS
      exact ⟨o, es, ep, t, hm.heap S _ hSw ho, rest⟩))
  | succ k ih =>
    intro i s hk hi hst hS hR
    have hlt : i < n := by omega
    refine codeAny_builtin F.entry_set_update_loop ?_
    rw [Around.under_plainId F.plain_set_update_loop _]
    show wpAny _ A.in1 (pyNext (.ref I) >>= _) _ _ s
    refine wpAny_bind (W.item i s _ _ hlt hst fun v s' hP hst' hm => ?_)
    obtain ⟨hkey, hsc⟩ := hval i v hP
    have hS' : s'.heap.SetOf knd S (ahead val i) i := by
      obtain ⟨o, es, ep, tb, ho, rest⟩ := hS
      exact ⟨o, es, ep, tb, hm.heap S _ hSw ho, rest⟩
    show wpAny _ A.in1 (holding [v] (setAdd S v) >>= _) _ _ s'
    refine wpAny_bind (wpAny_holding ?_)
    unfold setAdd
    refine wpAny_holding ?_
    refine wpAny_bind (knd.pyHash hkey ?_)
    refine wpAny_setAddHashed_of (s := { s' with toks := s'.toks + 1 }) hkey hsc hS' (by omega) fun h' hsb hS2 => ?_
    rw [ahead_new hnew hlt] at hS2
    have hSi : h'.SetOf knd S (ahead val (i + 1)) (i + 1) := setOf_eq hS2 (fun k' => (ahead_succ val i k').symm) rfl
    refine wpAny_pure ⟨plainId_quiet F.plain_set_update_loop _, ih (i + 1) _ (by omega) hlt (W.frame _ s' _ _ hst' (Nat.le_succ _) fun b hb o e => ?_) hSi fun s'' hm'' hS'' => ?_⟩
    · rw [hsb.2 b (fun h : b = S => hSf (h ▸ hb))]; exact e
    · refine hR s'' (Moved.trans W.gtrans ((hm.mono hsub).then_heap (Nat.le_succ _) fun b o hb e => ?_) hm'') hS''
      rw [hsb.2 b (fun h : b = S => hb (h ▸ List.mem_cons_self))]; exact e
variable {A : Around} {E : Value → Shared → Prop} {s : Shared}
set_option maxHeartbeats 3200000 in
/-- set(..) of a list of keys no two of which are equal -/
theorem call_set_new {l : Addr} {items : Array Value} {val : Nat → K} {Q : Value → Shared → Prop} (hh : A.handled = none) (hl : s.heap.IsList l items) (hv : ∀ i v, items[i]? = some v → knd.is (val i) v = true ∧ v.scannable = true)
    (hnew : ∀ a b, a < b → b < items.size → val a ≠ val b) (hb : items.size + 1 < scanBound)
    (h : ∀ (h' : Heap) (tk : Nat), h'.SetOf knd s.heap.objs.size (ahead val items.size) items.size → (∀ b o, b < s.heap.objs.size → s.heap.get? b = some o → h'.get? b = some o) → Q (.ref s.heap.objs.size) { s with heap := h', toks := tk }) :
    wpAny (model prog w) A (call (.type "set") [.ref l]) Q E s := by
  obtain ⟨c, tl, hmro⟩ := F.called_set.mro
  have hmade := F.called_set.made
  have hsub := F.called_set.sub
  refine wpAny_call (codeAny_of_tree ?_)
  show wpAny _ _ (callAny (.type "set") _) _ _ _
  refine wpAny_pure ⟨Code.quiet_builtin _ (by decide +kernel), codeAny_builtin F.entry_type_call ?_⟩
  rw [Around.under_plain (weight_type_call_type "set" [.ref l] []) rfl]
  have h1 := F.called_set.notType
  have h2 := F.called_set.canCreate
  have hct := F.typeCall_set_1 (.ref l)
  repeat (any_goals (first | assumption | wp_step))
  refine codeAny_mono (code_set_new_1 (.ref l) (E := E) (Q₁ := fun obj s₁ => ∃ led : Bool, obj = .ref s.heap.objs.size ∧ s₁ = { s with heap := s.heap.push { cls := .type "set", dict := none, data := .set #[] 0 (.fresh 0 0 led) } }) fun led => ⟨led, rfl, rfl⟩) fun r s₁ hr => ?_
  cases r with
  | error e => exact hr
  | ok fl =>
    cases fl with
    | ret obj =>
      obtain ⟨led, rfl, rfl⟩ := hr
      have hS : (s.heap.push { cls := .type "set", dict := none, data := .set #[] 0 (.fresh 0 0 led) }).get? s.heap.objs.size = some { cls := .type "set", dict := none, data := .set #[] 0 (.fresh 0 0 led) } := Heap.get?_push_size _ rfl
      have hT : Shared.TypeIs { s with heap := s.heap.push { cls := .type "set", dict := none, data := .set #[] 0 (.fresh 0 0 led) } } (.ref s.heap.objs.size) "set" := ⟨_, hS, rfl⟩
      have hli := F.called_set.init.lookup
      have hbi := F.called_set.init.bind (.ref s.heap.objs.size)
      repeat (any_goals (first | assumption | wp_step))
      refine codeAny_mono (codeAny_call_builtin (R := wants (fun r s₂ => r = .none ∧ ∃ h' tk, s₂ = { s with heap := h', toks := tk } ∧ h'.SetOf knd s.heap.objs.size (ahead val items.size) items.size ∧
          (∀ b o, b < s.heap.objs.size → s.heap.get? b = some o → h'.get? b = some o)) E) F.called_set.init.plain F.entry_set_init (check_set_init_1 hT ?_)) fun r₂ s₂ hr₂ => ?_
      · obtain ⟨ol, hol, hcl, nl, hdl⟩ := hl
        obtain ⟨ocls, odict, odata, oslots⟩ := ol
        simp only at hcl hdl
        subst hcl; subst hdl
        have hol' : (s.heap.push { cls := .type "set", dict := none, data := .set #[] 0 (.fresh 0 0 led) }).get? l = some { cls := .type "list", dict := odict, data := .seq items nl, slots := oslots } := Heap.get?_push_of_some _ hol
        have hsls := F.sub_list_set
        have hslf := F.sub_list_frozenset
        have hne : (Value.type "list" == Value.type "dict") = false := by decide
        have hl1 : (s.heap.push { cls := .type "set", dict := none, data := .set #[] 0 (.fresh 0 0 led) }).IsList l items := ⟨_, hol', rfl, nl, rfl⟩
        unfold Builtin.«set.__init__» noKeywords Builtin.Frozenset.updateFrom
        generalize hPI : pyIter = PI
        wp_walk
        subst hPI
        refine wpAny_pyIter_list hl1 ?_
        refine wpAny_bind (wpAny_runValue ?_)
        have hlS : l < s.heap.objs.size := Heap.lt_size hol
        have hh3 : A.in1.in1.in1.handled = none := by simp [hh]
        have hneI : l ≠ (s.heap.push { cls := .type "set", dict := none, data := .set #[] 0 (.fresh 0 0 led) }).objs.size := by
          rw [Heap.size_push]; exact Nat.ne_of_lt (Nat.lt_succ_of_lt hlS)
        have hSf : s.heap.objs.size ∉ [(s.heap.push { cls := .type "set", dict := none, data := .set #[] 0 (.fresh 0 0 led) }).objs.size, l] := by
          rw [Heap.size_push]; simp only [List.mem_cons, List.not_mem_nil, or_false, not_or]
          exact ⟨Nat.ne_of_lt (Nat.lt_succ_self _), Nat.ne_of_gt hlS⟩
        refine loop_new (knd := knd) ((Walks.list hh3 _ l hneI items).toS) s.heap.objs.size hSf val hv hnew hb (items.size - 0) 0 _ (by omega) (Nat.zero_le _) ⟨⟨_, Heap.get?_push_size _ rfl, rfl, rfl⟩, (hl1.push _)⟩ ?hS0 ?hR
        case hS0 =>
          have hget : ((s.heap.push { cls := .type "set", dict := none, data := .set #[] 0 (.fresh 0 0 led) }).push { cls := .type "list_iterator", data := .fields #[.ref l, .int 0 0] }).get? s.heap.objs.size
              = some { cls := .type "set", dict := none, data := .set #[] 0 (.fresh 0 0 led) } := Heap.get?_push_of_some _ hS
          exact setOf_eq ((setObjOf_fresh (knd := knd) led).setOf hget (by unfold scanBound; omega)) (fun _ => rfl) rfl
        case hR =>
          intro s' hm hS'
          obtain ⟨h', g', d', tk', os'⟩ := s'
          have eg : g' = s.gens := hm.gens
          have ed : d' = s.drawn := hm.drawn
          have eo : os' = s.os := hm.os
          subst eg ed eo
          show wpAny _ _ _ _ _ _
          refine wpAny_pure ?_
          show wpAny _ _ (ret Value.none) _ _ _
          refine wpAny_pure ⟨rfl, h', tk', rfl, hS', fun b o hb e => ?_⟩
          have hb1 : b ≠ s.heap.objs.size := Nat.ne_of_lt hb
          have hb2 : b ≠ (s.heap.push { cls := .type "set", dict := none, data := .set #[] 0 (.fresh 0 0 led) }).objs.size := by
            rw [Heap.size_push]; exact Nat.ne_of_lt (Nat.lt_succ_of_lt hb)
          exact hm.heap b o (by simp only [List.mem_cons, List.not_mem_nil, or_false, not_or]; exact ⟨hb1, hb2⟩) (Heap.get?_push_of_some _ (Heap.get?_push_of_some _ e))
      · cases r₂ with
        | error e => exact hr₂
        | ok fl₂ =>
          cases fl₂ with
          | ret r =>
            obtain ⟨rfl, h', tk, rfl, hS', hk'⟩ := hr₂
            repeat (any_goals (first | assumption | wp_step))
            exact h _ _ hS' hk'
          | _ => exact hr₂.elim
    | _ => exact hr.elim
end
section
variable {prog : Program} {w : World} {K : Type} [DecidableEq K] {knd : KeyKind prog w K} {A : Around} {E : Value → Shared → Prop} {s : Shared} {h₀ : Heap} {L : Addr} {m : PySem.Str → Option Value} {news : List (Addr × Obj)}
/-- the same, with a ledger; its length is read next -/
theorem set_new_K {l : Addr} {items : Array Value} {val : Nat → K} {Q : Value → Shared → Prop} (hh : A.handled = none) (F : Fr h₀ L s.heap m) (N : News h₀ L s.heap news) (hl : s.heap.IsList l items) (hv : ∀ i v, items[i]? = some v → knd.is (val i) v = true ∧ v.scannable = true)
    (hnew : ∀ a b, a < b → b < items.size → val a ≠ val b) (hb : items.size + 1 < scanBound)
    (h : ∀ (h' : Heap) (tk : Nat) (D : Addr), Fr h₀ L h' m → News h₀ L h' news → h'.SetOf knd D (ahead val items.size) items.size → Q (.ref D) { s with heap := h', toks := tk }) :
    wpAny (model prog w) A (call (.type "set") [.ref l]) Q E s := by
  refine call_set_new (knd := knd) hh hl hv hnew hb fun h' tk hS hk => h h' tk _ ?_ (fun p hp => ?_) hS
  · obtain ⟨oL, a1, a2, hL, a3⟩ := F.ns
    exact ⟨F.ns.at' fun o' e => hk L o' (Heap.lt_size hL) e, fun b o' e => hk b o' (Heap.lt_size (F.keep b o' e)) (F.keep b o' e), F.above⟩
  · exact ⟨hk _ _ (Heap.lt_size (N p hp).1) (N p hp).1, (N p hp).2⟩
theorem len_set_K {D : Addr} {S : K → Bool} {n : Nat} {Q : Value → Shared → Prop} (hS : s.heap.SetOf knd D S n) (hn : n ≤ 1000) (h : Q (.int n (s.toks + 1)) { s with toks := s.toks + 1 + 1 }) : wpAny (model prog w) A (call (.builtin "len") [.ref D]) Q E s := by
  obtain ⟨o, es, ep, t, ho, hex, hd, _, _, _, hf, hsz⟩ := hS
  subst hsz
  exact call_len_set ho hex hd hf (by omega) h
end
end Mine
end
section
open PySem PySem.W PyProof.Rows PySem.Spec PySem.Calls PySem.Builtin
set_option Elab.async false
set_option maxRecDepth 100000
namespace Mine
namespace CE
noncomputable def bytesOf (x : PySem.Str) : Array UInt8 := (x.cps.toList.map fun c => c.toUInt8).toArray
theorem fold_bytes : ∀ (l : List Nat) (acc : Array UInt8), l.foldl (fun acc y => acc ++ (_codecs.asciiCodec.bytesOf y).toArray) acc = acc ++ (l.map fun c => c.toUInt8).toArray
  | [], acc => by simp
  | a :: l, acc => by
    rw [List.foldl_cons, fold_bytes l]
    apply Array.ext'
    simp [_codecs.asciiCodec]
theorem narrow (id : String) (self : Value) (x : PySem.Str) (hx : ∀ c ∈ x.cps.toList, c < 128) (hs : x.length ≤ sizeLine) (h0 : x.length ≠ 0) : _codecs.encodeNarrow id _codecs.asciiCodec none self x = pure (bytesOf x) := by
  have hbad : ∀ c ∈ x.cps.toList, _codecs.asciiCodec.bad c = false := fun c hc => by
    have := hx c hc
    show decide (c ≥ 128) = false
    simp; omega
  have hfind : (x.cps.extract 0 x.cps.size).findIdx? _codecs.asciiCodec.bad = none := by
    rw [Array.extract_size]
    rw [Array.findIdx?_eq_none_iff]
    intro c hc
    exact hbad c (by simpa using hc)
  have hc0 : ∃ c0, x.cps[0]? = some c0 ∧ c0 ∈ x.cps.toList := by
    have : 0 < x.cps.size := Nat.pos_of_ne_zero h0
    exact ⟨x.cps[0], by simp [this], by simp⟩
  obtain ⟨c0, hc0, hm0⟩ := hc0
  have hout : ∀ acc : Array UInt8, ((x.cps.extract 0 x.cps.size).extract 0 x.cps.size).foldl (fun acc y => acc ++ (_codecs.asciiCodec.bytesOf y).toArray) acc = acc ++ bytesOf x := fun acc => by
    rw [Array.extract_size, Array.extract_size, ← Array.foldl_toList, fold_bytes]
    rfl
  obtain ⟨n, hn⟩ : ∃ n, x.length = n + 1 := ⟨x.length - 1, by omega⟩
  unfold _codecs.encodeNarrow
  simp only [Std.Legacy.Range.forIn_eq_forIn_range']
  have e : [:x.length].size = n + 1 := by simp [Std.Legacy.Range.size, hn]
  rw [e, List.range'_succ, List.forIn_cons]
  try dsimp only
  rw [if_neg (by simp)]
  rw [hc0]
  try dsimp only
  rw [hbad c0 hm0, hfind]
  rw [if_pos (by rfl)]
  simp only [Option.getD_none, Nat.zero_add]
  rw [show (x.cps.extract 0 x.cps.size).size = x.cps.size by rw [Array.extract_size], hout, pure_bind]
  try dsimp only
  have hsz : (#[] ++ bytesOf x).size = x.length := by simp [bytesOf, PySem.Str.length]
  cases n with
  | zero =>
    rw [List.range'_zero, List.forIn_nil, pure_bind]
    try dsimp only
    rw [Array.empty_append]
  | succ n =>
    rw [List.range'_succ, List.forIn_cons]
    try dsimp only
    rw [if_neg (by rw [hsz]; omega), show x.cps[x.cps.size]? = none by simp]
    try dsimp only
    rw [pure_bind]
    try dsimp only
    rw [pure_bind]
    try dsimp only
    rw [Array.empty_append]
theorem road_eq {id : String} {self : Value} {x : PySem.Str} : _codecs.encodeRoad id self x (PySem.Str.ofString "ascii") none = (_codecs.encodeNarrow id _codecs.asciiCodec none self x >>= fun b => mkBytes b) := by kernel_rfl
theorem entry_eq {x : PySem.Str} {t t2 : Tok} : «str.encode» ⟨[.str x t, .str (PySem.Str.ofString "ascii") t2], []⟩ = (_codecs.encodeRoad "str.encode" (.str x t) x (PySem.Str.ofString "ascii") none >>= fun v => ret v) := by kernel_rfl
theorem meets {x : PySem.Str} {t t2 : Tok} (hx : ∀ c ∈ x.cps.toList, c < 128) (hs : x.length ≤ sizeLine) (h0 : x.length ≠ 0) :
    Meets («str.encode» ⟨[.str x t, .str (PySem.Str.ofString "ascii") t2], []⟩) (fun _ R s => ∀ t' k, R (.ok (.ret (.bytes (bytesOf x) t'))) { s with toks := k }) := by
  refine .of_wp fun prog w A R s h => ?_
  rw [entry_eq, road_eq, narrow _ _ x hx hs h0]
  exact wpAny_bind (wpAny_bind (wpAny_pure (wpAny_mkBytes (wpAny_pure ⟨_, rfl, h _ _⟩) (by show (x.cps.toList.map _).toArray.size ≤ sizeLine; simpa [PySem.Str.length] using hs))))
theorem method {prog : Program} {w : World} {A : Around} {E : Value → Shared → Prop} {s : Shared} {x : PySem.Str} {t : Tok} {pl : Sem Bool} {Q : Value × List Value → Shared → Prop} (h : Q (.builtin "str.encode", [.str x t]) s) :
    wpAny (model prog w) A (getMethod (.str x t) "encode" pl) Q E s :=
  getMethod_builtin (typeIs_str _ _ _) PySem.F.plainAttrs_str PySem.F.slot_str_encode PySem.F.type_str_encode (fun _ e => nomatch e) h
theorem encode {prog : Program} {w : World} {A : Around} {E : Value → Shared → Prop} {s : Shared} {x : PySem.Str} {t t2 : Tok} {Q : Value → Shared → Prop} (hx : ∀ c ∈ x.cps.toList, c < 128) (hs : x.length ≤ 16777216) (h0 : x.length ≠ 0) (h : ∀ t' k, Q (.bytes (bytesOf x) t') { s with toks := k }) :
    wpAny (model prog w) A (call (.builtin "str.encode") [.str x t, .str (PySem.Str.ofString "ascii") t2]) Q E s :=
  call_meets PySem.F.slot_str_encode (typeIs_str _ _ _) PySem.F.entry_str_encode (PySem.F.args_str_encode_2 _ _) (meets hx (by rw [sizeLine_eq]; exact hs) h0) h
end CE
end Mine
end
section
open PySem PySem.W PyProof.Rows PySem.Spec PySem.Calls
set_option Elab.async false
set_option maxRecDepth 100000
namespace Mine
section
variable {prog : Program} {w : World} {A : Around} {s : Shared} {h₀ : Heap} {L : Addr} {m : Str → Option Value} {env : Env}
theorem restT_inv {ct elt : Expr} {x : Str} {scope : Scope} {cl : List (Str × Addr)} {S : List (Addr × Obj) → Prop} {P : Nat → Value → Prop} {Fin : List Value → List (Addr × Obj) → Prop} (J : Nat → List Value → List (Addr × Obj) → Prop) (n : Nat)
    (turn : ∀ i ys news v I oI C oC D m₂ h tk (E' : Value → Shared → Prop), i < n → J i ys news → P i v → LCg.NsObj oC m₂ → m₂ x = some v → Fr h₀ L h m → News h₀ L h ((I, oI) :: (C, oC) :: (D, LCg.lst ys) :: news) → LCg.Off3 I C D news → ((@Ne Nat I C) ∧ (@Ne Nat I D) ∧ (@Ne Nat C D)) →
      wpAny (model prog w) A (isTrue ct (compEnvC scope cl C env) (eval ct (compEnvC scope cl C env))) (fun ok s' => if ok = true then
        wpAny (model prog w) A (eval elt (compEnvC scope cl C env)) (LCg.CompEnd h₀ L m { s with heap := h, toks := tk } I oI C oC D (LCg.lst ys) S (fun y news' => J (i + 1) (ys ++ [y]) news')) E' s'
        else LCg.CompEnd h₀ L m { s with heap := h, toks := tk } I oI C oC D (LCg.lst ys) S (fun _ news' => J (i + 1) ys news') Value.none s') E' { s with heap := h, toks := tk })
    (done : ∀ ys news, J n ys news → Fin ys news) : ∀ (k i : Nat) (ys : List Value) (news : List (Addr × Obj)), i + k = n → J i ys news → LCt.CompRestT prog w A h₀ L m env ct elt x scope cl s S P Fin k i ys news
  | 0, i, ys, news, e, hj => LCt.CompRestT.zero (done _ _ ((show i = n by omega) ▸ hj))
  | k + 1, i, ys, news, e, hj => LCt.CompRestT.succ fun v I oI C oC D m₂ h tk E' hv hC hx F N off ne => by
    refine wpAny_mono (turn i ys news v I oI C oC D m₂ h tk E' (by omega) hj hv hC hx F N off ne) (fun ok s' p => ?_) fun _ _ e => e
    cases ok with
    | true =>
      simp only [if_true] at p ⊢
      refine wpAny_mono p (fun y s'' q => ?_) fun _ _ e => e
      obtain ⟨h', tk', news', e', F', N', off', hS, hr⟩ := q
      exact ⟨h', tk', news', e', F', N', off', hS, restT_inv J n turn done k (i + 1) _ _ (by omega) hr⟩
    | false =>
      simp only [Bool.false_eq_true, if_false] at p ⊢
      obtain ⟨h', tk', news', e', F', N', off', hS, hr⟩ := p
      exact ⟨h', tk', news', e', F', N', off', hS, restT_inv J n turn done k (i + 1) _ _ (by omega) hr⟩
theorem restU_inv {elt : Expr} {x : Str} {scope : Scope} {cl : List (Str × Addr)} {S : List (Addr × Obj) → Prop} {P : Nat → Value → Prop} {Fin : List Value → List (Addr × Obj) → Prop} (J : Nat → List Value → List (Addr × Obj) → Prop) (n : Nat)
    (turn : ∀ i ys news v I oI C oC D m₂ h tk (E' : Value → Shared → Prop), i < n → J i ys news → P i v → LCg.NsObj oC m₂ → m₂ x = some v → Fr h₀ L h m → News h₀ L h ((I, oI) :: (C, oC) :: (D, LCg.lst ys) :: news) → LCg.Off3 I C D news → ((@Ne Nat I C) ∧ (@Ne Nat I D) ∧ (@Ne Nat C D)) →
      wpAny (model prog w) A (eval elt (compEnvC scope cl C env)) (LCg.CompEnd h₀ L m { s with heap := h, toks := tk } I oI C oC D (LCg.lst ys) S (fun y news' => J (i + 1) (ys ++ [y]) news')) E' { s with heap := h, toks := tk })
    (done : ∀ ys news, J n ys news → Fin ys news) : ∀ (k i : Nat) (ys : List Value) (news : List (Addr × Obj)), i + k = n → J i ys news → LCg.CompRest prog w A h₀ L m env elt x scope cl s S P Fin k i ys news
  | 0, i, ys, news, e, hj => LCg.CompRest.zero (done _ _ ((show i = n by omega) ▸ hj))
  | k + 1, i, ys, news, e, hj => LCg.CompRest.succ fun v I oI C oC D m₂ h tk E' hv hC hx F N off ne => by
    refine wpAny_mono (turn i ys news v I oI C oC D m₂ h tk E' (by omega) hj hv hC hx F N off ne) (fun y s'' q => ?_) fun _ _ e => e
    obtain ⟨h', tk', news', e', F', N', off', hS, hr⟩ := q
    exact ⟨h', tk', news', e', F', N', off', hS, restU_inv J n turn done k (i + 1) _ _ (by omega) hr⟩
end
end Mine
end
section
open PySem PySem.W PyProof.Rows PySem.Spec PySem.Calls PyProof.Rows.LCg
set_option Elab.async false
set_option maxRecDepth 100000
namespace Mine
noncomputable def EnEnd (h₀ : Heap) (L : Addr) (m : PySem.Str → Option Value) (s₁ : Shared) (fixed : List (Addr × Obj)) (P : Value → Prop) (y : Value) (s₂ : Shared) : Prop :=
  ∃ h' tk, s₂ = { s₁ with heap := h', toks := tk } ∧ Fr h₀ L h' m ∧ News h₀ L h' fixed ∧ P y
section
variable {prog : Program} {w : World} {A : Around} {E : Value → Shared → Prop} {s : Shared} {h₀ : Heap} {L : Addr} {m : PySem.Str → Option Value} {env : Env}
theorem enum_block {elt iter : PySem.Expr} {x x₂ : PySem.Str} {px px₂ tp : Pos} {tk} {scope : Scope} {cl : List (PySem.Str × Addr)} {pos : Pos} {s₂ : Shared} {I l : Addr} {its : Array Value} {nn : Nat} {news : List (Addr × Obj)} {RR : Value → Addr → Result → Shared → Prop} (J : Nat → List Value → Prop)
    (hh : A.handled = none) (hsz : its.size ≤ sizeLine) (hcell : ∀ y ∈ scope.names, y.2 ≠ .cell) (hkind : scope.kind = .function) (hx : scope.names.lookup x = some .local) (hx₂ : scope.names.lookup x₂ = some .local) (hxx : x ≠ x₂)
    (hE : IsEnum s₂.heap (I + 1) I 0 .none) (hI : s₂.heap.IsListIter I l 0) (hm : (l, listOf its nn) ∈ news)
    (F : Fr h₀ L s₂.heap m) (N : News h₀ L s₂.heap news) (hnew : ∀ p ∈ news, @LT.lt Nat _ p.1 I) (hI0 : ∀ a, @LE.le Nat _ I a → h₀.get? a = none) (hLI : @LT.lt Nat _ L I) (hj : J 0 [])
    (turn : ∀ i v ys oE oI C oC D m₂ h tk t (E' : Value → Shared → Prop), its[i]? = some v → J i ys → NsObj oC m₂ → m₂ x = some (.int (i : Nat) t) → m₂ x₂ = some v → Fr h₀ L h m → News h₀ L h ((I + 1, oE) :: (I, oI) :: (C, oC) :: (D, lst ys) :: news) →
      wpAny (model prog w) A (eval elt (compEnvC scope cl C env)) (EnEnd h₀ L m { s₂ with heap := h, toks := tk } ((I + 1, oE) :: (I, oI) :: (C, oC) :: (D, lst ys) :: news) (fun y => J (i + 1) (ys ++ [y]))) E' { s₂ with heap := h, toks := tk })
    (hRR : ∀ D C h tk m' ys, Fr h₀ L h m → News h₀ L h ((D, lst ys) :: news) → (∀ p ∈ news, @LT.lt Nat _ p.1 D) → h.Ns C m' → h₀.get? C = none → C ≠ L → D ≠ L → C ≠ D → (∀ p ∈ news, p.1 ≠ C) → J its.size ys → RR (.ref D) C (.ok .next) { s₂ with heap := h, toks := tk }) :
    wpAny (model prog w) A (newList []) (fun acc s₃ => wpAny (model prog w) A (newFunctionEnv scope env.globals cl [] env.qual none .none (some env)) (fun cenv s₄ =>
      codeAny (model prog w) A (.compStart (.ListComp elt [⟨.Tuple [.Name x px, .Name x₂ px₂] tk tp, iter, [], 0⟩] scope pos) 0 (.ref (I + 1)) acc { cenv with scope := relabel scope env }) (RR acc cenv.locals) s₄) E s₃) E s₂ := by
  refine wpAny_newObj_type (wpAny_newFunctionEnv hcell (by intro y hy; simp at hy) (fun h₁ hns₁ hsb₁ => ?_) hkind)
  (try dsimp only at hns₁); (try dsimp only at hsb₁); (try dsimp only at ⊢)
  generalize hH2 : s₂.heap.push { cls := .type "list", dict := none, data := .seq ([] : List Value).toArray } = H2 at hns₁ hsb₁ ⊢
  have hC : H2.objs.size = s₂.heap.objs.size + 1 := by rw [← hH2, Heap.size_push]
  obtain ⟨D, hD⟩ : ∃ D : Nat, D = s₂.heap.objs.size := ⟨_, rfl⟩
  obtain ⟨C, hC2⟩ : ∃ C : Nat, C = H2.objs.size := ⟨_, rfl⟩
  rw [← hC2] at hns₁ hsb₁ hC ⊢
  rw [← hD] at hC ⊢
  have hID : I + 1 < D := by rw [hD]; exact Heap.lt_size hE
  have hlI : @LT.lt Nat _ l I := hnew _ hm
  have hlt : ∀ b o, s₂.heap.get? b = some o → b < D := fun b o e => by rw [hD]; exact Heap.lt_size e
  have old : ∀ b o, s₂.heap.get? b = some o → h₁.get? b = some o := fun b o e => hsb₁.extBut b o (Nat.ne_of_lt (Nat.lt_of_lt_of_le (hlt b o e) (by rw [hC]; exact Nat.le_succ _))) (Heap.get?_push_of_some _ (hH2 ▸ Heap.get?_push_of_some _ e))
  have hacc : h₁.get? D = some (lst []) := hsb₁.extBut _ _ (by rw [hC]; exact Nat.ne_of_lt (Nat.lt_succ_self _)) (Heap.get?_push_of_some _ (by rw [hD, ← hH2]; exact Heap.get?_push_size _ rfl))
  have W := WalksT.enumerate (prog := prog) (w := w) hh (I + 1) I l (Nat.succ_ne_self _) (Nat.ne_of_lt (Nat.lt_succ_of_lt hlI)) (Nat.ne_of_lt hlI) its
  have hls : s₂.heap.IsList l its := ⟨_, (N _ hm).1, rfl, nn, rfl⟩
  have hst₁ : (∃ o', IsEnum h₁ (I + 1) I ((0 : Nat) : Int) o') ∧ h₁.IsListIter I l 0 ∧ h₁.IsList l its := ⟨⟨_, old _ _ hE⟩, hI.at fun o e => old _ o e, hls.at fun o e => old _ o e⟩
  have hDL : D ≠ L := Nat.ne_of_gt (Nat.lt_trans (Nat.lt_trans hLI (Nat.lt_succ_self _)) hID)
  have hDI : @LT.lt Nat _ I D := Nat.lt_trans (Nat.lt_succ_self _) hID
  have hDC : @LT.lt Nat _ D C := by rw [hC]; exact Nat.lt_succ_self _
  have hCL : C ≠ L := Nat.ne_of_gt (Nat.lt_trans hLI (Nat.lt_trans hDI hDC))
  have hD0 : h₀.get? D = none := hI0 _ (Nat.le_of_lt hDI)
  have hC0 : h₀.get? C = none := hI0 _ (Nat.le_of_lt (Nat.lt_trans hDI hDC))
  have hnD : ∀ p ∈ news, @LT.lt Nat _ p.1 D := fun p hp => Nat.lt_trans (hnew p hp) hDI
  have hnC : ∀ p ∈ news, p.1 ≠ C := fun p hp => Nat.ne_of_lt (Nat.lt_trans (hnD p hp) hDC)
  have loop : ∀ s₃ : Shared, s₃ = { s₂ with heap := h₁, toks := s₂.toks + ([] : List (PySem.Str × Value)).length } →
      codeAny (model prog w) A (.compLoop (.ListComp elt [⟨.Tuple [.Name x px, .Name x₂ px₂] tk tp, iter, [], 0⟩] scope pos) 0 (.ref (I + 1)) (.ref D) (compEnvC scope cl C env)) (RR (.ref D) C) s₃ := by
    rintro s₃ rfl
    refine kcp_loop
      (fun k s' => ∃ h' tk i ys m', s' = { s₂ with heap := h', toks := tk } ∧ i ≤ its.size ∧ k = its.size + 1 - i ∧ ys.length = i ∧ ((∃ o', IsEnum h' (I + 1) I (i : Int) o') ∧ h'.IsListIter I l i ∧ h'.IsList l its) ∧ Fr h₀ L h' m ∧ h'.Ns C m' ∧ News h₀ L h' ((D, lst ys) :: news) ∧ J i ys) ?_ (its.size + 1)
      ⟨h₁, _, 0, [], _, rfl, Nat.zero_le _, rfl, rfl, hst₁, F.keeps old, hns₁, fun p hp => ?_, hj⟩
    · rintro k s' ⟨h', tk, i, ys, m', rfl, hi, rfl, hyl, hst', F', hn', N', hj'⟩
      have keepF : ∀ {h h' : Heap} {m}, Fr h₀ L h m → (∀ b o, b ∉ [I + 1, I] → h.get? b = some o → h'.get? b = some o) → Fr h₀ L h' m := fun {h h' m} F hk =>
        ⟨F.ns.at' fun o e => hk L o (by simp only [List.mem_cons, List.not_mem_nil, or_false, not_or]; exact ⟨Nat.ne_of_lt (Nat.lt_succ_of_lt hLI), Nat.ne_of_lt hLI⟩) e, fun b o e => hk b o (fun hb => by
          have h0 := hI0 b (by simp only [List.mem_cons, List.not_mem_nil, or_false] at hb; rcases hb with rfl | rfl; exact Nat.le_succ _; exact Nat.le_refl _)
          rw [h0] at e; cases e) (F.keep b o e), F.above⟩
      have keepN : ∀ {h h' : Heap}, News h₀ L h ((D, lst ys) :: news) → (∀ b o, b ∉ [I + 1, I] → h.get? b = some o → h'.get? b = some o) → News h₀ L h' ((D, lst ys) :: news) := fun {h h'} N hk p hp =>
        ⟨hk _ _ (by
          simp only [List.mem_cons, List.not_mem_nil, or_false, not_or]
          rcases List.mem_cons.mp hp with rfl | hp
          · exact ⟨Nat.ne_of_gt hID, Nat.ne_of_gt hDI⟩
          · exact ⟨Nat.ne_of_lt (Nat.lt_succ_of_lt (hnew p hp)), Nat.ne_of_lt (hnew p hp)⟩) (N p hp).1, (N p hp).2⟩
      have keepC : ∀ {h h' : Heap} {m}, h.Ns C m → (∀ b o, b ∉ [I + 1, I] → h.get? b = some o → h'.get? b = some o) → h'.Ns C m := fun {h h' m} hn hk =>
        hn.at' fun o e => hk C o (by simp only [List.mem_cons, List.not_mem_nil, or_false, not_or]; exact ⟨Nat.ne_of_gt (Nat.lt_trans hID hDC), Nat.ne_of_gt (Nat.lt_trans hDI hDC)⟩) e
      by_cases hlt' : i < its.size
      · refine W.item i _ _ _ hlt' hst' fun T vals h₂ tk₂ hPt hTs hT hMid hk₂ => ?_
        obtain ⟨t, v, hv, rfl⟩ := hPt
        refine W.go _ _ _ i T _ _ _ hMid fun h₃ hst₃ hk₃ => ?_
        have hT₃ : h₃.IsTuple T #[.int i t, v] := by
          obtain ⟨o, e1, e2⟩ := hT
          exact ⟨o, hk₃ _ _ (W.apart i T _ hMid) e1, e2⟩
        refine kcp_assign (env := compEnvC scope cl C env) hh hT₃ (lookup_relabel_local hx) (lookup_relabel_local hx₂) (by simp [compEnvC, relabel, hkind]) (keepC (keepC hn' hk₂) hk₃) fun h₄ tk₄ hn₄ hk₄ => ?_
        have F₄ : Fr h₀ L h₄ m := by
          have F₃ := keepF (keepF F' hk₂) hk₃
          exact ⟨F₃.ns.at' fun o e => hk₄ L o (Ne.symm hCL) e, fun b o e => hk₄ b o (fun q => by
            have q' : b = C := q
            rw [q', hC0] at e; cases e) (F₃.keep b o e), F₃.above⟩
        have N₄ : News h₀ L h₄ ((D, lst ys) :: news) := fun p hp => by
          have z := keepN (keepN N' hk₂) hk₃ p hp
          refine ⟨hk₄ _ _ ?_ z.1, z.2⟩
          rcases List.mem_cons.mp hp with rfl | hp
          · exact Nat.ne_of_lt hDC
          · exact hnC p hp
        have st₄ : (∃ o', IsEnum h₄ (I + 1) I ((i + 1 : Nat) : Int) o') ∧ h₄.IsListIter I l (i + 1) ∧ h₄.IsList l its := by
          obtain ⟨⟨o', a1⟩, a2, a3⟩ := hst₃
          exact ⟨⟨o', hk₄ _ _ (Nat.ne_of_lt (Nat.lt_trans hID hDC)) a1⟩, a2.at fun o e => hk₄ _ o (Nat.ne_of_lt (Nat.lt_trans hDI hDC)) e, a3.at fun o e => hk₄ _ o (Nat.ne_of_lt (Nat.lt_trans hlI (Nat.lt_trans hDI hDC))) e⟩
        obtain ⟨⟨o', a1⟩, ⟨oi, a2, a2'⟩, a3⟩ := id st₄
        obtain ⟨oC, heC, hoC⟩ := ns_obj hn₄
        have N₅ : News h₀ L h₄ ((I + 1, _) :: (I, oi) :: (C, oC) :: (D, lst ys) :: news) := fun p hp => by
          rcases List.mem_cons.mp hp with rfl | hp
          · exact ⟨a1, Nat.ne_of_gt (Nat.lt_succ_of_lt hLI), hI0 _ (Nat.le_succ _)⟩
          · rcases List.mem_cons.mp hp with rfl | hp
            · exact ⟨a2, Nat.ne_of_gt hLI, hI0 _ (Nat.le_refl _)⟩
            · rcases List.mem_cons.mp hp with rfl | hp
              · exact ⟨heC, hCL, hC0⟩
              · exact N₄ p hp
        refine wpAny_mono (turn i v ys _ oi C oC D _ h₄ _ t _ hv hj' hoC (by simp [hxx]) (by simp) F₄ N₅) (fun y s₅ h₅ => ?_) fun _ _ e => e
        obtain ⟨h₅, tk₅, rfl, F₅, N₆, hJ₅⟩ := h₅
        have zE := (N₆ _ (.head _)).1
        have zI := (N₆ _ (.tail _ (.head _))).1
        have zC := (N₆ _ (.tail _ (.tail _ (.head _)))).1
        have zD := (N₆ _ (.tail _ (.tail _ (.tail _ (.head _))))).1
        have zl := (N₆ _ (.tail _ (.tail _ (.tail _ (.tail _ hm))))).1
        refine append_at (hsz := by show ys.toArray.size ≤ sizeLine; rw [List.size_toArray, hyl]; exact Nat.le_trans hi hsz) zD fun h₆ hs₆ hD₆ => ?_
        refine ⟨its.size + 1 - (i + 1), by omega, h₆, tk₅, i + 1, ys ++ [y], _, rfl, hlt', rfl, by rw [List.length_append, List.length_singleton, hyl], ⟨⟨o', hs₆.extBut _ _ (Nat.ne_of_lt hID) zE⟩, ⟨oi, hs₆.extBut _ _ (Nat.ne_of_lt hDI) zI, a2'⟩, ⟨_, hs₆.extBut _ _ (Nat.ne_of_lt (Nat.lt_trans hlI hDI)) zl, rfl, nn, rfl⟩⟩, F₅.change hs₆ hDL hD0, (hoC.ns zC).sameBut hs₆ (Nat.ne_of_gt hDC), fun p hp => ?_, hJ₅⟩
        rcases List.mem_cons.mp hp with rfl | hp
        · exact ⟨hD₆.trans (congrArg some (lst_snoc ys y)), hDL, hD0⟩
        · exact ⟨hs₆.extBut _ _ (Nat.ne_of_lt (hnD p hp)) (N₆ _ (.tail _ (.tail _ (.tail _ (.tail _ hp))))).1, (N₆ _ (.tail _ (.tail _ (.tail _ (.tail _ hp))))).2⟩
      · obtain rfl : i = its.size := Nat.le_antisymm hi (Nat.not_lt.mp hlt')
        refine W.done _ _ _ hst' fun h₂ tk₂ hk₂ => ?_
        exact hRR _ _ h₂ tk₂ _ ys (keepF F' hk₂) (keepN N' hk₂) hnD (keepC hn' hk₂) hC0 hCL hDL (Nat.ne_of_gt hDC) hnC hj'
    · rcases List.mem_cons.mp hp with rfl | hp
      · exact ⟨hacc, hDL, hD0⟩
      · exact ⟨old _ _ (N p hp).1, (N p hp).2⟩
  exact codeAny_compStart_list (loop _ rfl) (W.self 0 _ _ _ hst₁ (loop _ rfl))
noncomputable def EnumSrc (prog : Program) (w : World) (A : Around) (h₀ : Heap) (L : Addr) (m : PySem.Str → Option Value) (env : Env) (elt : PySem.Expr) (x x₂ : PySem.Str) (scope : Scope) (cl : List (PySem.Str × Addr)) (y : PySem.Str) (Q : Flow → Shared → Prop) (xv : Value) (s₁ : Shared) : Prop :=
  ∃ (I l : Nat) (its : Array Value) (nn : Nat) (news : List (Addr × Obj)) (J : Nat → List Value → Prop), xv = .ref (I + 1) ∧ A.handled = none ∧ Fr h₀ L s₁.heap m ∧ News h₀ L s₁.heap news ∧ (l, listOf its nn) ∈ news ∧ (∀ p ∈ news, @LT.lt Nat _ p.1 I) ∧ (∀ a, @LE.le Nat _ I a → h₀.get? a = none) ∧ @LT.lt Nat _ L I ∧
    IsEnum s₁.heap (I + 1) I 0 .none ∧ s₁.heap.IsListIter I l 0 ∧ its.size ≤ sizeLine ∧ J 0 [] ∧
    (∀ i v ys oE oI C oC D m₂ h tk t (E' : Value → Shared → Prop), its[i]? = some v → J i ys → NsObj oC m₂ → m₂ x = some (.int (i : Nat) t) → m₂ x₂ = some v → Fr h₀ L h m → News h₀ L h ((I + 1, oE) :: (I, oI) :: (C, oC) :: (D, lst ys) :: news) →
      wpAny (model prog w) A (eval elt (compEnvC scope cl C env)) (EnEnd h₀ L m { s₁ with heap := h, toks := tk } ((I + 1, oE) :: (I, oI) :: (C, oC) :: (D, lst ys) :: news) (fun y => J (i + 1) (ys ++ [y]))) E' { s₁ with heap := h, toks := tk }) ∧
    (∀ D h tk ys, J its.size ys → Fr h₀ L h (fun z => if z = y then some (.ref D) else m z) → News h₀ L h ((D, lst ys) :: news) → (∀ p ∈ news, @LT.lt Nat _ p.1 D) → Q .next { s₁ with heap := h, toks := tk })
theorem assign_enum {elt iter : PySem.Expr} {x x₂ y : PySem.Str} {px px₂ tp py : Pos} {tk} {scope : Scope} {cl : List (PySem.Str × Addr)} {pos spos : Pos} {Q : Flow → Shared → Prop} (_F₀ : Fr h₀ L s.heap m) (hLe : env.locals = L)
    (hsw : swapsWith (.ListComp elt [⟨.Tuple [.Name x px, .Name x₂ px₂] tk tp, iter, [], 0⟩] scope pos) (some (.Name y py)) spos.line env = pure true)
    (hclos : closureFor scope env = pure cl) (hcell : ∀ z ∈ scope.names, z.2 ≠ .cell) (hkind : scope.kind = .function)
    (hnames : ∀ z ∈ scope.names, z.2 = .local → scope.names.lookup z.1 = some .local) (hx : scope.names.lookup x = some .local) (hx₂ : scope.names.lookup x₂ = some .local) (hxx : x ≠ x₂)
    (hy : env.kindOf y = some .local) (hp : (env.scope.kind == .class || (env.scope.kind == .module && env.locals != env.globals)) = false)
    (h : wpAny (model prog w) A (eval iter env) (EnumSrc prog w A h₀ L m env elt x x₂ scope cl y Q) E s)
    (hs : ∀ x, foldedSetIterable iter env x = pure x := by intro _; rfl) :
    wpAny (model prog w) A (exec (.Assign [.Name y py] (.ListComp elt [⟨.Tuple [.Name x px, .Name x₂ px₂] tk tp, iter, [], 0⟩] scope pos) spos) env) Q E s := by
  subst hLe
  rw [exec_Assign_Name_used _ _ _ _ hsw]
  refine wpAny_bind (wpAny_standAt (wpAny_bind ?_))
  show wpAny _ A (do let _ ← comprehension (.ListComp elt [⟨.Tuple [.Name x px, .Name x₂ px₂] tk tp, iter, [], 0⟩] scope pos) scope env _ (newList []) false (eval iter env) (some (assign (.Name y py) env))) _ _ s
  refine wpAny_bind (wpAny_mono (wpAny_comprehension_free (use := some (assign (.Name y py) env)) (Q := fun _ s' => Q .next s') rfl hs hclos hkind hnames
    (wpAny_mono h (fun xv s₁ h₁ => ?_) fun _ _ e => e)) (fun _ s' hq => wpAny_pure (wpAny_pure hq)) fun _ _ e => e)
  obtain ⟨I, l, its, nn, news, J, rfl, hh, F, N, hm, hnew, hI0, hLI, hE, hI, hsz, hj, turn, done⟩ := h₁
  refine wpAny_pyIter_enum hE ?_
  refine enum_block J hh hsz hcell hkind hx hx₂ hxx hE hI hm F N hnew hI0 hLI hj turn ?_
  intro D C h' tk m' ys F' N' hlo hn hC₀ hCL hDL hCD offC hj'
  show wpAny _ A (assign (.Name y py) env (.ref D)) _ _ _
  refine wpAny_assign_Name (wpAny_storeName_local hy F'.ns (fun h₂ hn₂ hs₂ => ?_) hp)
  have hL₀ : h₀.get? env.locals = none := Heap.get?_none_of_le F'.above
  have F₂ : Fr h₀ env.locals h₂ (fun z => if z = y then some (.ref D) else m z) := ⟨hn₂, fun b o e => hs₂.extBut b o (fun q => by rw [q, hL₀] at e; cases e) (F'.keep b o e), F'.above⟩
  refine ⟨m', hn.sameBut hs₂ hCL, fun h'' hs'' => done D h'' _ ys hj' (F₂.change hs'' hCL hC₀) (fun p hp => ?_) hlo⟩
  have z : h₂.get? p.1 = some p.2 := hs₂.extBut _ _ (N' p hp).2.1 (N' p hp).1
  refine ⟨hs''.extBut _ _ ?_ z, (N' p hp).2⟩
  rcases List.mem_cons.mp hp with rfl | hp
  · exact Ne.symm hCD
  · exact offC p hp
theorem enum_call {elt : PySem.Expr} {x x₂ y : PySem.Str} {scope : Scope} {cl : List (PySem.Str × Addr)} {Q : Flow → Shared → Prop} {l : Addr} {its : Array Value} {nn : Nat} {news : List (Addr × Obj)} (J : Nat → List Value → Prop) (hh : A.handled = none) (F : Fr h₀ L s.heap m) (N : News h₀ L s.heap news) (hm : (l, listOf its nn) ∈ news) (hsz : its.size ≤ sizeLine) (hj : J 0 [])
    (turn : ∀ I i v ys oE oI C oC D m₂ g h tk t (E' : Value → Shared → Prop), its[i]? = some v → J i ys → NsObj oC m₂ → m₂ x = some (.int (i : Nat) t) → m₂ x₂ = some v → Fr h₀ L h m → News h₀ L h ((I + 1, oE) :: (I, oI) :: (C, oC) :: (D, lst ys) :: news) →
      wpAny (model prog w) A (eval elt (compEnvC scope cl C env)) (EnEnd h₀ L m { { s with heap := g } with heap := h, toks := tk } ((I + 1, oE) :: (I, oI) :: (C, oC) :: (D, lst ys) :: news) (fun y => J (i + 1) (ys ++ [y]))) E' { { s with heap := g } with heap := h, toks := tk })
    (done : ∀ D g h tk ys, J its.size ys → Fr h₀ L h (fun z => if z = y then some (.ref D) else m z) → News h₀ L h ((D, lst ys) :: news) → (∀ p ∈ news, @LT.lt Nat _ p.1 D) → Q .next { { s with heap := g } with heap := h, toks := tk }) :
    wpAny (model prog w) A (call (.type "enumerate") [.ref l]) (EnumSrc prog w A h₀ L m env elt x x₂ scope cl y Q) E s := by
  have hls : s.heap.IsList l its := ⟨_, (N _ hm).1, rfl, nn, rfl⟩
  refine call_enumerate_list hls fun h' hE hI hz hk => ?_
  have lo : ∀ b o, s.heap.get? b = some o → @LT.lt Nat _ b s.heap.objs.size := fun b o e => Heap.lt_size e
  refine ⟨s.heap.objs.size, l, its, nn, news, J, rfl, hh, F.keeps hk, N.grown hk, hm, fun p hp => lo _ _ (N p hp).1, fun a ha => ?_, F.ns.lt, hE, hI, hsz, hj, fun i v ys oE oI C oC D m₂ h tk t E' a1 a2 a3 a4 a5 a6 a7 => turn _ i v ys oE oI C oC D m₂ _ h tk t E' a1 a2 a3 a4 a5 a6 a7, fun D h tk ys a1 a2 a3 a4 => done D _ h tk ys a1 a2 a3 a4⟩
  cases e : h₀.get? a with
  | none => rfl
  | some o => exact absurd (lo _ _ (F.keep _ _ e)) (Nat.not_lt.mpr ha)
theorem sumL {l : Addr} {vs : List Value} {ns : List Int} {news : List (Addr × Obj)} {Q : Value → Shared → Prop} (hh : A.handled = none) (F : Fr h₀ L s.heap m) (N : News h₀ L s.heap news) (hl : s.heap.IsList l vs.toArray) (hi : IntsAre vs ns)
    (h : ∀ h' tk t', Fr h₀ L h' m → News h₀ L h' news → Q (.int ns.sum t') { s with heap := h', toks := tk }) :
    wpAny (model prog w) A (call (.builtin "sum") [.ref l]) Q E s := by
  obtain ⟨xs, hx⟩ := hi.allInts.items
  have hn : numsOf vs.toArray.toList = ns := by rw [show vs.toArray.toList = vs from rfl, hi.numsOf]
  rw [hx] at hl hn
  rw [nums_intItems] at hn
  obtain ⟨o, ho, hc, n, hd⟩ := id hl
  have hne : l ≠ s.heap.objs.size := Nat.ne_of_lt (Heap.lt_size ho)
  have hsz : (intItems xs).size = xs.size := by simp [intItems]
  have W := (Walks.list (prog := prog) (w := w) (A := A.in1) hh s.heap.objs.size l hne (intItems xs)).toS
  rw [hsz] at W
  refine call_sum_walkAnyS (wpAny_pyIter_list hl ?_)
  refine ⟨s.heap.objs.size, _, _, _, _, _, _, numAt xs, rfl, W, ⟨⟨_, Heap.get?_push_size _ rfl, rfl, rfl⟩, hl.at fun o e => Heap.get?_push_of_some _ e⟩, fun b hb => ?_, fun i v hP => intItems_at hP, fun s' t' hm => ?_⟩
  · rcases List.mem_cons.mp hb with rfl | hb
    · exact Heap.lt_size (Heap.get?_push_size _ rfl)
    · obtain rfl := List.mem_singleton.mp hb
      exact Heap.lt_size (Heap.get?_push_of_some _ ho)
  · obtain ⟨h', g', d', tk', os'⟩ := s'
    have e1 : g' = s.gens := hm.gens
    have e2 : d' = s.drawn := hm.drawn
    have e3 : os' = s.os := hm.os
    subst e1 e2 e3
    have hk : ∀ b o, s.heap.get? b = some o → h'.get? b = some o := fun b o e => hm.heap b o (fun hb => absurd (Heap.lt_size e) ((List.mem_singleton.mp hb) ▸ Nat.lt_irrefl _)) (Heap.get?_push_of_some _ e)
    have := h h' tk' t' (F.keeps hk) (N.grown hk)
    rw [preSum_eq, List.take_of_length_le (by simp), hn]
    exact this
theorem ints_all : ∀ {ys : List Value}, (∀ v ∈ ys, ∃ n t, v = Value.int n t) → ∃ ms, IntsAre ys ms
  | [], _ => ⟨[], .nil⟩
  | y :: ys, h => by
    obtain ⟨n, t, rfl⟩ := h y (.head _)
    obtain ⟨ms, hm⟩ := ints_all fun v hv => h v (.tail _ hv)
    exact ⟨n :: ms, .cons n t hm⟩
theorem ints_pick {vs : List Value} {ns : List Int} (hi : IntsAre vs ns) (lo hi' st : Option Int) : ∃ ms, IntsAre (slicePick vs.toArray lo hi' st).toList ms := by
  refine ints_all fun v hv => ?_
  unfold slicePick at hv
  simp only [List.mem_filterMap] at hv
  obtain ⟨i, _, e⟩ := hv
  obtain ⟨n, t, rfl, _⟩ := hi.at i v (by simpa using e)
  exact ⟨n, t, rfl⟩
end
end Mine
end
section
open PySem PySem.W PyProof.Rows PySem.Spec PySem.Calls PyProof.Rows.LCg
set_option Elab.async false
set_option maxRecDepth 100000
namespace Mine
section
variable {prog : Program} {w : World} {M : Model} {A : Around} {E : Value → Shared → Prop} {s : Shared} {h₀ : Heap} {L : Addr} {m : PySem.Str → Option Value} {env : Env}
theorem restU_fix {elt : PySem.Expr} {x : PySem.Str} {scope : Scope} {cl : List (PySem.Str × Addr)} {S : List (Addr × Obj) → Prop} {P : Nat → Value → Prop} {Fin : List Value → List (Addr × Obj) → Prop} {news : List (Addr × Obj)} (J : Nat → List Value → Prop) (n : Nat) (hj : J 0 [])
    (turn : ∀ i ys v I oI C oC D m₂ h tk (E' : Value → Shared → Prop), i < n → J i ys → P i v → NsObj oC m₂ → m₂ x = some v → Fr h₀ L h m → News h₀ L h ((I, oI) :: (C, oC) :: (D, lst ys) :: news) → Off3 I C D news → ((@Ne Nat I C) ∧ (@Ne Nat I D) ∧ (@Ne Nat C D)) →
      wpAny (model prog w) A (eval elt (compEnvC scope cl C env)) (CompEnd h₀ L m { s with heap := h, toks := tk } I oI C oC D (lst ys) S (fun y news' => news' = news ∧ J (i + 1) (ys ++ [y]))) E' { s with heap := h, toks := tk })
    (done : ∀ ys, J n ys → Fin ys news) : CompRest prog w A h₀ L m env elt x scope cl s S P Fin n 0 [] news :=
  restU_inv (fun i ys led => led = news ∧ J i ys) n (fun i ys led v I oI C oC D m₂ h tk E' hi hj hv hC hx F N off ne => by
    obtain ⟨rfl, hj⟩ := hj
    exact turn i ys v I oI C oC D m₂ h tk E' hi hj hv hC hx F N off ne) (fun ys led hj => by
    obtain ⟨rfl, hj⟩ := hj
    exact done ys hj) n 0 [] news (Nat.zero_add n) ⟨rfl, hj⟩
theorem restT_fix {ct elt : PySem.Expr} {x : PySem.Str} {scope : Scope} {cl : List (PySem.Str × Addr)} {S : List (Addr × Obj) → Prop} {P : Nat → Value → Prop} {Fin : List Value → List (Addr × Obj) → Prop} {news : List (Addr × Obj)} (J : Nat → List Value → Prop) (n : Nat) (hj : J 0 [])
    (turn : ∀ i ys v I oI C oC D m₂ h tk (E' : Value → Shared → Prop), i < n → J i ys → P i v → NsObj oC m₂ → m₂ x = some v → Fr h₀ L h m → News h₀ L h ((I, oI) :: (C, oC) :: (D, lst ys) :: news) → Off3 I C D news → ((@Ne Nat I C) ∧ (@Ne Nat I D) ∧ (@Ne Nat C D)) →
      wpAny (model prog w) A (isTrue ct (compEnvC scope cl C env) (eval ct (compEnvC scope cl C env))) (fun ok s' => if ok = true then
        wpAny (model prog w) A (eval elt (compEnvC scope cl C env)) (CompEnd h₀ L m { s with heap := h, toks := tk } I oI C oC D (lst ys) S (fun y news' => news' = news ∧ J (i + 1) (ys ++ [y]))) E' s'
        else CompEnd h₀ L m { s with heap := h, toks := tk } I oI C oC D (lst ys) S (fun _ news' => news' = news ∧ J (i + 1) ys) Value.none s') E' { s with heap := h, toks := tk })
    (done : ∀ ys, J n ys → Fin ys news) : LCt.CompRestT prog w A h₀ L m env ct elt x scope cl s S P Fin n 0 [] news :=
  restT_inv (fun i ys led => led = news ∧ J i ys) n (fun i ys led v I oI C oC D m₂ h tk E' hi hj hv hC hx F N off ne => by
    obtain ⟨rfl, hj⟩ := hj
    exact turn i ys v I oI C oC D m₂ h tk E' hi hj hv hC hx F N off ne) (fun ys led hj => by
    obtain ⟨rfl, hj⟩ := hj
    exact done ys hj) n 0 [] news (Nat.zero_add n) ⟨rfl, hj⟩
end
end Mine
end
section
open PySem PySem.W PySem.W.X PyProof.Rows PySem.Spec PySem.Calls
set_option maxRecDepth 100000
namespace Mine

theorem four {ys : List Value} {ms : List Int} (h : IntsAre ys ms) (hl : ys.length = 4) : ∃ c0 c1 c2 c3 t0 t1 t2 t3, ys = [.int c0 t0, .int c1 t1, .int c2 t2, .int c3 t3] := by
  cases h with
  | nil => simp at hl
  | cons c0 t0 h => cases h with
    | nil => simp at hl
    | cons c1 t1 h => cases h with
      | nil => simp at hl
      | cons c2 t2 h => cases h with
        | nil => simp at hl
        | cons c3 t3 h => cases h with
          | nil => exact ⟨c0, c1, c2, c3, t0, t1, t2, t3, rfl⟩
          | cons c4 t4 h => simp at hl
theorem pick4 {a b c d : Int} {t1 t2 t3 t4 : Tok} {i : Nat} {v : Value} (h : [Value.int a t1, .int b t2, .int c t3, .int d t4].toArray[i]? = some v) : ∃ n t, v = .int n t := by
  match i, h with
  | 0, h => exact ⟨_, _, (Option.some.inj h).symm⟩
  | 1, h => exact ⟨_, _, (Option.some.inj h).symm⟩
  | 2, h => exact ⟨_, _, (Option.some.inj h).symm⟩
  | 3, h => exact ⟨_, _, (Option.some.inj h).symm⟩
  | i + 4, h => simp at h
theorem wp_postE {α : Type} {M : Model} {A : Around} {t : Sem α} {Q : α → Shared → Prop} {E : Value → Shared → Prop} {s : Shared} (h : ∀ E₁ : Value → Shared → Prop, E₁ = E → wpAny M A t Q E₁ s) : wpAny M A t Q E s := h E rfl
theorem wp_post {α : Type} {M : Model} {A : Around} {t : Sem α} {Q : α → Shared → Prop} {E : Value → Shared → Prop} {s : Shared} (h : ∀ Q₁ : α → Shared → Prop, Q₁ = Q → wpAny M A t Q₁ E s) : wpAny M A t Q E s := h Q rfl


theorem newsDup {h₀ h : Heap} {L : Addr} {l : List (Addr × Obj)} (N : News h₀ L h l) (p : Addr × Obj) (hp : p ∈ l) : News h₀ L h (p :: l) := fun q hq => by
  rcases List.mem_cons.mp hq with rfl | hq
  · exact N _ hp
  · exact N _ hq
noncomputable def tup2 (x y : Value) : Obj := ⟨.type "tuple", none, .seq #[x, y] 0, #[]⟩
theorem menu4 {k : Int} (h0 : 0 ≤ k) (h4 : k < 4) {a b c d : Addr} {t1 t2 t3 t4 t5 t6 t7 t8 : Tok} {h₀ h : Heap} {L : Addr} {led : List (Addr × Obj)} {R : Addr → Prop} (_N : News h₀ L h led) (ha : (a, tup2 (.int 3 t1) (.int 1 t2)) ∈ led) (hb : (b, tup2 (.int 2 t3) (.int 2 t4)) ∈ led) (hc : (c, tup2 (.int 4 t5) (.int 1 t6)) ∈ led) (hd : (d, tup2 (.int 2 t7) (.int 3 t8)) ∈ led) (ra : R a) (rb : R b) (rc : R c) (rd : R d) :
    ∃ T mm wd tm tw, (#[.ref a, .ref b, .ref c, .ref d] : Array Value)[k.toNat]? = some (.ref T) ∧ (T, tup2 (.int (mm : Nat) tm) (.int (wd : Nat) tw)) ∈ led ∧ R T ∧ CaseMW mm wd := by
  have h : k = 0 ∨ k = 1 ∨ k = 2 ∨ k = 3 := by omega
  rcases h with rfl | rfl | rfl | rfl
  · exact ⟨a, 3, 1, t1, t2, rfl, ha, ra, .inl ⟨rfl, rfl⟩⟩
  · exact ⟨b, 2, 2, t3, t4, rfl, hb, rb, .inr (.inl ⟨rfl, rfl⟩)⟩
  · exact ⟨c, 4, 1, t5, t6, rfl, hc, rc, .inr (.inr (.inl ⟨rfl, rfl⟩))⟩
  · exact ⟨d, 2, 3, t7, t8, rfl, hd, rd, .inr (.inr (.inr ⟨rfl, rfl⟩))⟩



theorem refs_at {hs : List (Nat × Addr)} {ha : Addr} {k i : Nat} {led : List (Addr × Obj)} {v : Value} (hok : HsOk k hs led) (hp : HitPost (k : Int) (.ref ha) led) (hv : (([] : List Value) ++ refsOf hs ++ [Value.ref ha]).toArray[i]? = some v) :
    ∃ (n : Nat) (av : Addr), v = .ref av ∧ HitPost (n : Int) (.ref av) led ∧ ((i < hs.length ∧ n < k) ∨ (i = hs.length ∧ n = k)) := by
  rw [List.nil_append, List.getElem?_toArray] at hv
  by_cases hi : i < hs.length
  · rw [List.getElem?_append_left (by simpa using hi), List.getElem?_map, List.getElem?_eq_getElem hi] at hv
    have e := Option.some.inj hv
    subst e
    have hq := hok hs[i] (List.getElem_mem hi)
    exact ⟨_, _, rfl, hq.2, .inl ⟨hi, hq.1⟩⟩
  · rw [List.getElem?_append_right (by simpa using hi)] at hv
    have hi2 : i = hs.length := by
      rcases Nat.lt_or_ge hs.length i with h | h
      · rw [List.getElem?_eq_none (by simp; omega)] at hv; cases hv
      · omega
    subst hi2
    simp at hv
    exact ⟨k, ha, hv.symm, hp, .inr ⟨rfl, rfl⟩⟩
theorem take_yes {hs : List (Nat × Addr)} {ha av : Addr} {i : Nat} {ys : List Value} (hi : i < hs.length) (hv : (([] : List Value) ++ refsOf hs ++ [Value.ref ha]).toArray[i]? = some (.ref av)) (hy : ys = (refsOf hs).take i) : ys ++ [.ref av] = (refsOf hs).take (i + 1) := by
  rw [List.nil_append, List.getElem?_toArray, List.getElem?_append_left (by simpa using hi)] at hv
  rw [hy, List.take_add_one, hv]; rfl
theorem take_no {hs : List (Nat × Addr)} {i : Nat} {ys : List Value} (hi : i = hs.length) (hy : ys = (refsOf hs).take i) : ys = (refsOf hs).take (i + 1) := by
  rw [hy, List.take_of_length_le (by simp; omega), List.take_of_length_le (by simp; omega)]
theorem full_mem {x y z g a b c d : Addr × Obj} {ex r : List (Addr × Obj)} (p : Addr × Obj) (hp : p ∈ ex ++ (a :: b :: c :: d :: r)) : p ∈ x :: y :: z :: g :: a :: b :: c :: d :: (ex ++ r) := by
  simp only [List.mem_cons, List.mem_append] at hp ⊢
  rcases hp with h | h | h | h | h | h <;> simp [h]
theorem codes_up {h₀ h : Heap} {L : Addr} {led l : List (Addr × Obj)} {q : PySem.Str} {xs : List Addr} (_N : News h₀ L h led) (H : CodesIn (· ∈ l) q xs) (hs : ∀ p ∈ l, p ∈ led) : CodesIn (· ∈ led) q xs := H.mono hs
theorem hit_up {h₀ h : Heap} {L : Addr} {led l : List (Addr × Obj)} {a n c1 c2 c3 c4 d f1 f2 f3 c t ct1 ct2 ct3 h1 h2 h3 t1 t2 t3} (_N : News h₀ L h led) (H : HitAt (· ∈ l) a n c1 c2 c3 c4 d f1 f2 f3 c t ct1 ct2 ct3 h1 h2 h3 t1 t2 t3) (hs : ∀ p ∈ l, p ∈ led) : HitAt (· ∈ led) a n c1 c2 c3 c4 d f1 f2 f3 c t ct1 ct2 ct3 h1 h2 h3 t1 t2 t3 := H.mono hs
theorem ap_size {lo m : Nat} {rs : List Nat} (hl : lo + m ≤ 16) (h : Dig m rs) (hk : rs.length ≤ 6) : (apB (encR lo rs : Nat)).size ≤ 16777216 := by
  have := apSize (num := 0) (val := apB (encR lo rs : Nat)) (n := encR lo rs) (by rw [apDig_zero]; simp [apB]) (Nat.lt_of_lt_of_le (enc_lt hl h (k := 6) (by omega)) (by decide))
  omega
theorem last_item (hs : List (Nat × Addr)) : (Value.none :: refsOf hs).toArray[(-1 + (((Value.none :: refsOf hs).toArray.size : Nat) : Int)).toNat]? = some (lastRef hs) := by
  have e : (-1 + (((Value.none :: refsOf hs).toArray.size : Nat) : Int)).toNat = hs.length := by simp; omega
  rw [e, List.getElem?_toArray]
  unfold lastRef
  cases h : hs.getLast? with
  | none => rw [List.getLast?_eq_none_iff] at h; subst h; rfl
  | some q =>
    obtain ⟨hs0, rfl⟩ := List.getLast?_eq_some_iff.mp h
    simp



theorem drop_led {h₀ h : Heap} {L : Addr} {y z a b c d : Addr × Obj} {r : List (Addr × Obj)} (N : News h₀ L h (y :: z :: a :: b :: c :: d :: r)) : News h₀ L h [y, z, a, b, c, d] := fun p hp => N p (by
  simp only [List.mem_cons, List.not_mem_nil, or_false] at hp ⊢
  rcases hp with h | h | h | h | h | h <;> simp [h])
theorem strs_snoc {f : Nat → PySem.Str} {i : Nat} {ys : List Value} {t : Tok} (hl : ys.length = i) (h : ∀ j, j < i → ∃ t, ys[j]? = some (.str (f j) t)) : ∀ j, j < i + 1 → ∃ t', (ys ++ [.str (f i) t])[j]? = some (.str (f j) t') := fun j hj => by
  by_cases hji : j < i
  · obtain ⟨t', ht⟩ := h j hji
    exact ⟨t', by rw [List.getElem?_append_left (by omega)]; exact ht⟩
  · obtain rfl : j = i := by omega
    refine ⟨t, ?_⟩
    rw [List.getElem?_append_right (by omega), hl, Nat.sub_self]
    rfl
theorem strs_key {prog : Program} {w : World} {f : Nat → PySem.Str} {n : Nat} {ys : List Value} (hl : ys.length = n) (h : ∀ j, j < n → ∃ t, ys[j]? = some (.str (f j) t)) : ∀ i v, ys.toArray[i]? = some v → (PySem.strKind prog w).is (f i) v = true ∧ v.scannable = true := fun i v hv => by
  rw [List.getElem?_toArray] at hv
  obtain ⟨t, ht⟩ := h i (by have := (List.getElem?_eq_some_iff.mp hv).1; omega)
  rw [ht] at hv
  cases hv
  exact ⟨strKind_is _ _ _ _, rfl⟩
theorem bytes_txt {lo m : Nat} {rs : List Nat} (h1 : 1 ≤ lo) (hl : lo + m ≤ 16) (h : Dig m rs) : CE.bytesOf (txt lo rs) = apB (encR lo rs : Nat) := by
  unfold CE.bytesOf apB txt
  rw [Int.natAbs_natCast, apDig_enc h1 hl h]
  simp [List.map_map, Function.comp_def]
theorem txt_ascii {lo m : Nat} {rs : List Nat} (hl : lo + m ≤ 16) (h : Dig m rs) : ∀ c ∈ (txt lo rs).cps.toList, c < 128 := fun c hc => by
  simp only [txt, List.mem_map, List.mem_reverse] at hc
  obtain ⟨d, hd, rfl⟩ := hc
  have := h d hd
  omega



set_option maxHeartbeats 8000000 in
theorem lawT : PySem.Challenge.rw_ph0011_02.Holds := hd (by
  clear lawT
  k_with_none
  k_go0
  all_goals try k_fold
  rename (IntsAre _ _) => hIs
  rename (Heap.IsList (ghostOf _ _) _ _) => hScr
  have hLen := hIs.length
  refine wp_post fun Q₁ hQ₁ => ?_
  refine wp_postE fun E₁ hE₁ => ?_
  (repeat' ((fail_if_success ((first | (with_reducible show wpAny _ _ (exec (Stmt.Assign _ (PySem.Expr.ListComp _ _ _ _) _) _) _ _ _) | (with_reducible show wpAny _ _ (call (Value.ref _) _) _ _ _) | (with_reducible show wpAny _ _ (call (Value.type "enumerate") _) _ _ _) | (with_reducible show wpAny _ _ (call (Value.builtin "sum") _) _ _ _) | (with_reducible show wpAny _ _ (subscriptTail _ _ (Value.ref _) (Value.ref _)) _ _ _) | (with_reducible show wpAny _ _ (subscriptTail _ _ (Value.ref _) (Value.int (Int.fmod _ _) _)) _ _ _) | (with_reducible show EnEnd _ _ _ _ _ _ _ _) | (with_reducible show wpAny _ _ (pyIter (Value.ref _)) _ _ _)))); ((first | ((with_reducible show GrPost _ _ _ _ _ _ _ _ _ _ _ _ _); (dsimp only [GrPost])) | (k_unfold; (try dsimp only)) | walk1 | (dsimp only; walk1) | (leave1; (try dsimp only)) | fail "no step"))))
  refine assign_enum (by assumption) rfl (by with_unfolding_all rfl) (by with_unfolding_all rfl) (by decide) rfl (by decide) rfl rfl (by decide) rfl rfl ?_
  (repeat' ((fail_if_success ((first | (with_reducible show wpAny _ _ (exec (Stmt.Assign _ (PySem.Expr.ListComp _ _ _ _) _) _) _ _ _) | (with_reducible show wpAny _ _ (call (Value.ref _) _) _ _ _) | (with_reducible show wpAny _ _ (call (Value.type "enumerate") _) _ _ _) | (with_reducible show wpAny _ _ (call (Value.builtin "sum") _) _ _ _) | (with_reducible show wpAny _ _ (subscriptTail _ _ (Value.ref _) (Value.ref _)) _ _ _) | (with_reducible show wpAny _ _ (subscriptTail _ _ (Value.ref _) (Value.int (Int.fmod _ _) _)) _ _ _) | (with_reducible show EnEnd _ _ _ _ _ _ _ _) | (with_reducible show wpAny _ _ (pyIter (Value.ref _)) _ _ _)))); ((first | ((with_reducible show GrPost _ _ _ _ _ _ _ _ _ _ _ _ _); (dsimp only [GrPost])) | (k_unfold; (try dsimp only)) | walk1 | (dsimp only; walk1) | (leave1; (try dsimp only)) | fail "no step"))))
  refine enum_call (fun i ys => ys.length = i ∧ ∃ ms, IntsAre ys ms) rfl (by assumption) (by assumption) (.head _) (by simp [sizeLine_eq]) ⟨rfl, _, .nil⟩ ?_ ?_
  · rintro I i v ys oE oI C oC D m₂ g h tk t E' hv ⟨hlen, ms, hms⟩ hC hx hx2 F N
    obtain ⟨n, tn, rfl⟩ := pick4 hv
    try dsimp only
    (repeat' ((fail_if_success ((first | (with_reducible show wpAny _ _ (exec (Stmt.Assign _ (PySem.Expr.ListComp _ _ _ _) _) _) _ _ _) | (with_reducible show wpAny _ _ (call (Value.ref _) _) _ _ _) | (with_reducible show wpAny _ _ (call (Value.type "enumerate") _) _ _ _) | (with_reducible show wpAny _ _ (call (Value.builtin "sum") _) _ _ _) | (with_reducible show wpAny _ _ (subscriptTail _ _ (Value.ref _) (Value.ref _)) _ _ _) | (with_reducible show wpAny _ _ (subscriptTail _ _ (Value.ref _) (Value.int (Int.fmod _ _) _)) _ _ _) | (with_reducible show EnEnd _ _ _ _ _ _ _ _) | (with_reducible show wpAny _ _ (pyIter (Value.ref _)) _ _ _)))); ((first | ((with_reducible show GrPost _ _ _ _ _ _ _ _ _ _ _ _ _); (dsimp only [GrPost])) | (k_unfold; (try dsimp only)) | walk1 | (dsimp only; walk1) | (leave1; (try dsimp only)) | fail "no step"))))
    refine kmk_slice3_lit (s := ⟨_, _, _, _, _⟩) F N (hScr.at fun o e => F.keep _ o e) (IsPart.int _ _) IsPart.none (IsPart.int _ _) (by decide) rfl ?_ (by with_unfolding_all rfl) (by intro _; with_unfolding_all rfl) (by rw [sizeLine_eq]; simp; omega)
    intro DS hS FS NS _
    try dsimp only
    (repeat' ((fail_if_success ((first | (with_reducible show wpAny _ _ (exec (Stmt.Assign _ (PySem.Expr.ListComp _ _ _ _) _) _) _ _ _) | (with_reducible show wpAny _ _ (call (Value.ref _) _) _ _ _) | (with_reducible show wpAny _ _ (call (Value.type "enumerate") _) _ _ _) | (with_reducible show wpAny _ _ (call (Value.builtin "sum") _) _ _ _) | (with_reducible show wpAny _ _ (subscriptTail _ _ (Value.ref _) (Value.ref _)) _ _ _) | (with_reducible show wpAny _ _ (subscriptTail _ _ (Value.ref _) (Value.int (Int.fmod _ _) _)) _ _ _) | (with_reducible show EnEnd _ _ _ _ _ _ _ _) | (with_reducible show wpAny _ _ (pyIter (Value.ref _)) _ _ _)))); ((first | ((with_reducible show GrPost _ _ _ _ _ _ _ _ _ _ _ _ _); (dsimp only [GrPost])) | (k_unfold; (try dsimp only)) | walk1 | (dsimp only; walk1) | (leave1; (try dsimp only)) | fail "no step"))))
    obtain ⟨ks, hks⟩ := ints_pick hIs (some ((i : Nat) : Int)) none (some 4)
    refine sumL rfl FS NS ⟨_, (NS _ (.head _)).1, rfl, _, rfl⟩ hks ?_
    intro h9 tk9 t9 F9 N9
    try dsimp only
    (repeat' ((fail_if_success ((first | (with_reducible show wpAny _ _ (exec (Stmt.Assign _ (PySem.Expr.ListComp _ _ _ _) _) _) _ _ _) | (with_reducible show wpAny _ _ (call (Value.ref _) _) _ _ _) | (with_reducible show wpAny _ _ (call (Value.type "enumerate") _) _ _ _) | (with_reducible show wpAny _ _ (call (Value.builtin "sum") _) _ _ _) | (with_reducible show wpAny _ _ (subscriptTail _ _ (Value.ref _) (Value.ref _)) _ _ _) | (with_reducible show wpAny _ _ (subscriptTail _ _ (Value.ref _) (Value.int (Int.fmod _ _) _)) _ _ _) | (with_reducible show EnEnd _ _ _ _ _ _ _ _) | (with_reducible show wpAny _ _ (pyIter (Value.ref _)) _ _ _)))); ((first | ((with_reducible show GrPost _ _ _ _ _ _ _ _ _ _ _ _ _); (dsimp only [GrPost])) | (k_unfold; (try dsimp only)) | walk1 | (dsimp only; walk1) | (leave1; (try dsimp only)) | fail "no step"))))
    exact ⟨_, _, rfl, F9, fun p hp => N9 p (.tail _ hp), by simp [hlen], ms ++ [_], hms.append (.cons _ _ .nil)⟩
  · rintro D g h tk ys ⟨hlen, ms, hms⟩ F N hlt
    obtain ⟨c0, c1, c2, c3, t0, t1, t2, t3, rfl⟩ := four hms hlen
    replace hlt := allLt_of hlt
    simp only [AllLt, and_true] at hlt
    (try dsimp only at F); (try dsimp only at N); (try dsimp only at ⊢)
    (repeat' ((fail_if_success ((first | (with_reducible show wpAny _ _ (exec (Stmt.Assign _ (PySem.Expr.ListComp _ _ _ _) _) _) _ _ _) | (with_reducible show wpAny _ _ (call (Value.ref _) _) _ _ _) | (with_reducible show wpAny _ _ (call (Value.type "enumerate") _) _ _ _) | (with_reducible show wpAny _ _ (call (Value.builtin "sum") _) _ _ _) | (with_reducible show wpAny _ _ (subscriptTail _ _ (Value.ref _) (Value.ref _)) _ _ _) | (with_reducible show wpAny _ _ (subscriptTail _ _ (Value.ref _) (Value.int (Int.fmod _ _) _)) _ _ _) | (with_reducible show EnEnd _ _ _ _ _ _ _ _) | (with_reducible show wpAny _ _ (pyIter (Value.ref _)) _ _ _)))); ((first | ((with_reducible show GrPost _ _ _ _ _ _ _ _ _ _ _ _ _); (dsimp only [GrPost])) | (k_unfold; (try dsimp only)) | walk1 | (dsimp only; walk1) | (leave1; (try dsimp only)) | fail "no step"))))
    rename_i LL0 D3 hh4 l14 D2 hh3 l13 D1 hh2 l12 D0 hh1 l11 lM hhM F1 N1 l1M
    have hk0 := Int.fmod_nonneg_of_pos c0 (b := 4) (by decide)
    have hk1 := Int.fmod_lt_of_pos c0 (b := 4) (by decide)
    obtain ⟨T, mm, wd, tm, tw, hitem, hT, hR, hcase⟩ := menu4 hk0 hk1 (R := fun T => _ < T ∧ _ < T ∧ _ < T ∧ _ < T ∧ 30 < T ∧ 37 < T) N1 (.tail _ (.tail _ (.tail _ (.tail _ (.head _))))) (.tail _ (.tail _ (.tail _ (.head _)))) (.tail _ (.tail _ (.head _))) (.tail _ (.head _)) l14.2.2 l13.2.2.2 l12.2.2.2.2 l11.2.2.2.2.2
    refine kba_turn (value' := PySem.Expr.Name (PySem.Str.ofString "_") ⟨0, 0, 0, 0⟩) (fun _ => rfl) ?_
    refine item_list (s := ⟨_, _, _, _, _⟩) (items := #[.ref D3, .ref D2, .ref D1, .ref D0]) ⟨_, (N1 _ (.head _)).1, rfl, _, rfl⟩ hk0 (by simp; omega) (x := .ref T) hitem ?_
    have hmw : 2 ≤ mm ∧ mm ≤ 4 ∧ 1 ≤ wd ∧ wd ≤ 3 ∧ mm ^ (wd + 1) ≤ 16 := by
      rcases hcase with ⟨rfl, rfl⟩ | ⟨rfl, rfl⟩ | ⟨rfl, rfl⟩ | ⟨rfl, rfl⟩ <;> decide
    obtain ⟨hm2, hm4, hw1, hw3, hring⟩ := hmw
    have hmi2 : (2 : Int) ≤ (mm : Nat) := by omega
    have hmi4 : ((mm : Nat) : Int) ≤ 4 := by omega
    have hwi1 : (1 : Int) ≤ (wd : Nat) := by omega
    have hwi3 : ((wd : Nat) : Int) ≤ 3 := by omega
    have hs0 := Int.fmod_nonneg_of_pos c2 (b := 4) (by decide)
    have hs1 := Int.fmod_lt_of_pos c2 (b := 4) (by decide)
    have N2 := newsDup N1 _ hT
    clear N1
    unfold tup2 at N2
    try dsimp only
    (repeat' ((fail_if_success ((first | (with_reducible show wpAny _ _ (exec (Stmt.Assign _ (PySem.Expr.ListComp _ _ _ _) _) _) _ _ _) | (with_reducible show wpAny _ _ (call (Value.ref _) _) _ _ _) | (with_reducible show wpAny _ _ (call (Value.builtin "bytes.decode") _) _ _ _) | (with_reducible show wpAny _ _ (subscriptTail _ _ (Value.ref _) (Value.ref _)) _ _ _) | (with_reducible show wpAny _ _ (subscriptTail _ _ (Value.ref _) (Value.int (Int.fmod _ _) _)) _ _ _) | (with_reducible show wpAny _ _ (pyIter (Value.ref _)) _ _ _)))); ((first | ((with_reducible show GrPost _ _ _ _ _ _ _ _ _ _ _ _ _); (dsimp only [GrPost])) | (k_unfold; (try dsimp only)) | (walk1 <;> (try dsimp only)) | (dsimp only; walk1) | (leave1; (try dsimp only)) | fail "no step"))))
    with_reducible rename (News _ _ _ _) => N3
    have N4 : News _ _ _ _ := fun p hp => N3 p (.tail _ hp)
    clear N3
    (repeat' ((fail_if_success ((first | (with_reducible show wpAny _ _ (exec (Stmt.Assign _ (PySem.Expr.ListComp _ _ _ _) _) _) _ _ _) | (with_reducible show wpAny _ _ (call (Value.ref _) _) _ _ _) | (with_reducible show wpAny _ _ (call (Value.builtin "bytes.decode") _) _ _ _) | (with_reducible show wpAny _ _ (subscriptTail _ _ (Value.ref _) (Value.ref _)) _ _ _) | (with_reducible show wpAny _ _ (subscriptTail _ _ (Value.ref _) (Value.int (Int.fmod _ _) _)) _ _ _) | (with_reducible show wpAny _ _ (pyIter (Value.ref _)) _ _ _)))); ((first | ((with_reducible show GrPost _ _ _ _ _ _ _ _ _ _ _ _ _); (dsimp only [GrPost])) | (k_unfold; (try dsimp only)) | (walk1 <;> (try dsimp only)) | (dsimp only; walk1) | (leave1; (try dsimp only)) | fail "no step"))))
    · with_reducible rename (_ = (0 : Int)) => hz
      exact absurd hz (Int.pow_ne_zero (by omega))
    · obtain ⟨sz, hsz, hsz1, hsz2⟩ : ∃ sz : Nat, (wd : Int) + c2.fmod 4 = (sz : Int) ∧ wd ≤ sz ∧ sz ≤ 6 := ⟨((wd : Int) + c2.fmod 4).toNat, by omega, by omega, by omega⟩
      obtain ⟨lo, hlo, hlo1, hlo2⟩ : ∃ lo : Nat, 1 + c1.fmod (16 - (mm : Int)) = (lo : Int) ∧ 1 ≤ lo ∧ lo + mm ≤ 16 := by
        have h1 := Int.fmod_nonneg_of_pos c1 (b := 16 - (mm : Int)) (by omega)
        have h2 := Int.fmod_lt_of_pos c1 (b := 16 - (mm : Int)) (by omega)
        exact ⟨(1 + c1.fmod (16 - (mm : Int))).toNat, by omega, by omega, by omega⟩
      have hrg : (mm : Int) ^ ((wd : Int) + 1).toNat = ((mm ^ (wd + 1) : Nat) : Int) := by
        rw [show ((wd : Int) + 1).toNat = wd + 1 by omega]; norm_cast
      with_reducible rename (Fr _ _ _ _) => F1
      with_reducible rename (News _ _ _ _) => N1
      with_reducible rename (Below _ _ _ _) => B'
      with_reducible rename (Frag.In _ _) => X'
      with_reducible rename (Top _ _ _ _ _ _) => T'
      with_reducible rename (_ = Data.cell (some (Value.int _ _))) => dWd
      try dsimp only at F1
      rw [hsz, hlo, hrg] at F1
      rw [hsz, hlo]
      obtain ⟨rg, hrge⟩ : ∃ rg, rg = mm ^ (wd + 1) := ⟨_, rfl⟩
      rw [← hrge] at F1 hring
      refine drawnT _ _ _ _ _ _ _ lo mm sz _ _ _ _ _ _ _ _ 302 7 (some []) _ _ _ _ _ [] _ _ _ _ _ _ _ _ B' F1 X' N1 T' rfl ⟨rfl, hsz2, rfl, by omega, rfl, hm2, hm4⟩ (by decide) (by decide) ?_
      rintro v news' h9 tk9 F9 N9 ⟨rfl, rs, tn, rfl, hrl, hdig⟩
      clear F1 N1
      have hrne : rs ≠ [] := by intro e; rw [e] at hrl; simp at hrl; omega
      try dsimp only
      (repeat' ((fail_if_success ((first | (with_reducible show wpAny _ _ (exec (Stmt.Assign _ (PySem.Expr.ListComp _ _ _ _) _) _) _ _ _) | (with_reducible show wpAny _ _ (call (Value.ref _) _) _ _ _) | (with_reducible show wpAny _ _ (call (Value.builtin "bytes.decode") _) _ _ _) | (with_reducible show wpAny _ _ (subscriptTail _ _ (Value.ref _) (Value.ref _)) _ _ _) | (with_reducible show wpAny _ _ (subscriptTail _ _ (Value.ref _) (Value.int (Int.fmod _ _) _)) _ _ _) | (with_reducible show wpAny _ _ (pyIter (Value.ref _)) _ _ _)))); ((first | ((with_reducible show GrPost _ _ _ _ _ _ _ _ _ _ _ _ _); (dsimp only [GrPost])) | (k_unfold; (try dsimp only)) | (walk1 <;> (try dsimp only)) | (dsimp only; walk1) | (leave1; (try dsimp only)) | fail "no step"))))
      with_reducible rename (Fr _ _ _ _) => F1
      with_reducible rename (News _ _ _ _) => N1
      refine int2ap _ _ _ _ _ _ _ _ _ 302 7 (some []) _ _ _ _ _ [] _ _ _ _ _ _ _ _ B' F1 X' N1 T' rfl ?_ (by decide) (by decide) ?_
      · rw [Int.natAbs_natCast]
        exact enc_lt hlo2 hdig (by omega)
      rintro v news' h8 tk8 F8 N8 ⟨rfl, tb, rfl⟩
      clear F1 N1
      try dsimp only
      (repeat' ((fail_if_success ((first | (with_reducible show wpAny _ _ (exec (Stmt.Assign _ (PySem.Expr.ListComp _ _ _ _) _) _) _ _ _) | (with_reducible show wpAny _ _ (call (Value.ref _) _) _ _ _) | (with_reducible show wpAny _ _ (call (Value.builtin "bytes.decode") _) _ _ _) | (with_reducible show wpAny _ _ (subscriptTail _ _ (Value.ref _) (Value.ref _)) _ _ _) | (with_reducible show wpAny _ _ (subscriptTail _ _ (Value.ref _) (Value.int (Int.fmod _ _) _)) _ _ _) | (with_reducible show wpAny _ _ (pyIter (Value.ref _)) _ _ _)))); ((first | ((with_reducible show GrPost _ _ _ _ _ _ _ _ _ _ _ _ _); (dsimp only [GrPost])) | (k_unfold; (try dsimp only)) | (walk1 <;> (try dsimp only)) | (dsimp only; walk1) | (leave1; (try dsimp only)) | fail "no step"))))
      refine CD.decode (s := ⟨_, _, _, _, _⟩) (ap_ne hlo1 hlo2 hdig hrne) (ap_small hlo1 hlo2 hdig) ?_ ?_
      · have := apSize (num := 0) (val := apB (encR lo rs : Nat)) (n := encR lo rs) (by rw [apDig_zero]; simp [apB]) (Nat.lt_of_lt_of_le (enc_lt hlo2 hdig (k := 6) (by omega)) (by decide))
        omega
      intro tl kl
      rw [ap_txt hlo1 hlo2 hdig]
      try dsimp only
      subst hE₁
      (repeat' ((fail_if_success ((first | (with_reducible show wpAny _ _ (exec (Stmt.Assign _ (PySem.Expr.ListComp _ _ _ _) _) _) _ _ _) | (with_reducible show wpAny _ _ (call (Value.ref _) _) _ _ _) | (with_reducible show wpAny _ _ (call (Value.builtin "bytes.decode") _) _ _ _) | (with_reducible show wpAny _ _ (subscriptTail _ _ (Value.ref _) (Value.ref _)) _ _ _) | (with_reducible show wpAny _ _ (subscriptTail _ _ (Value.ref _) (Value.int (Int.fmod _ _) _)) _ _ _) | (with_reducible show wpAny _ _ (pyIter (Value.ref _)) _ _ _)))); ((first | ((with_reducible show GrPost _ _ _ _ _ _ _ _ _ _ _ _ _); (dsimp only [GrPost])) | (k_unfold; (try dsimp only)) | (walk1 <;> (try dsimp only)) | (dsimp only; walk1) | (leave1; (try dsimp only)) | fail "no step"))))
      (repeat' ((fail_if_success ((first | (with_reducible show wpAny _ _ (exec (Stmt.Assign _ (PySem.Expr.ListComp _ _ _ _) _) _) _ _ _) | (with_reducible show wpAny _ _ (call (Value.ref _) _) _ _ _) | (with_reducible show wpAny _ _ (eval (PySem.Expr.ListComp _ _ _ _) _) _ _ _) | (with_reducible show wpAny _ _ (call (Value.builtin "bytes.decode") _) _ _ _) | (with_reducible show GrEnd _ _ _ _ _ _ _ _ _ _ _) | (with_reducible show LCt.CompSrcT _ _ _ _ _ _ _ _ _ _ _ _ _ _ _) | (with_reducible show LCg.CompSrc _ _ _ _ _ _ _ _ _ _ _ _ _ _) | (with_reducible show LCg.CompEnd _ _ _ _ _ _ _ _ _ _ _ _ _ _) | (with_reducible show wpAny _ _ (compareOp _ _ (Value.ref _)) _ _ _) | (with_reducible show wpAny _ _ (binaryOp _ (Value.ref _) (Value.ref _)) _ _ _) | (with_reducible show wpAny _ _ (subscriptTail _ _ (Value.ref _) (Value.ref _)) _ _ _) | (with_reducible show wpAny _ _ (subscriptTail _ _ (Value.ref _) (Value.int _ _)) _ _ _) | (with_reducible show wpAny _ _ (subscriptTail _ _ (Value.str _ _) _) _ _ _) | (with_reducible show wpAny _ _ (getMethod (Value.ref _) _ _) _ _ _) | (with_reducible show wpAny _ _ (call (Value.builtin "str.find") _) _ _ _) | (with_reducible show wpAny _ _ (pyIter (Value.ref _)) _ _ _)))); ((first | ((with_reducible show GrPost _ _ _ _ _ _ _ _ _ _ _ _ _); (dsimp only [GrPost])) | (k_unfold; (try dsimp only)) | (walk1 <;> (try dsimp only)) | (dsimp only; walk1) | (leave1; (try dsimp only)) | fail "no step"))))
      with_reducible rename (IsRange _ _ _ _ _ _ _ _) => R1
      with_reducible rename (Fr _ _ _ _) => F1
      with_reducible rename (News _ _ _ _) => N1
      with_reducible rename (_ = Data.cell (some (Value.str _ _))) => dLt
      with_reducible rename (_ < _ ∧ _ < _) => l0
      obtain ⟨st, hst⟩ : ∃ st, st = rg * (wd + 1) := ⟨_, rfl⟩
      have hst64 : st ≤ 64 := by rw [hst]; exact Nat.le_trans (Nat.mul_le_mul hring (show wd + 1 ≤ 4 by omega)) (by decide)
      have hsti : ((rg : Nat) : Int) * ((wd : Nat) + 1 : Int) = ((st : Nat) : Int) := by rw [hst]; push_cast; rfl
      rw [hsti] at R1
      have N2 := led_law N1
      clear N1
      try (clear l14 l13 l12 l11 l1M hlt LL0 hitem hR hT hk0 hk1)
      refine gr_law2 (wd := wd) (st := st) ["given", "hit", "figure"] rfl R1 (small_one (by omega) (by omega) (by omega) (by omega)) (by rw [rangeSize_nat]; try omega) F1 N2 l0 dLt hdig hrl ?_ ?_
      · intro oL rs tl ps qs led i t u h tk own hi hdj hcode V2 dLt hdig hrl hit hoff F2 N3
        refine wp_postE fun E₂ _ => ?_
        clear R1 F1 N2
        try dsimp only
        (repeat' ((fail_if_success ((first | (with_reducible show wpAny _ _ (exec (Stmt.Assign _ (PySem.Expr.ListComp _ _ _ _) _) _) _ _ _) | (with_reducible show wpAny _ _ (call (Value.ref _) _) _ _ _) | (with_reducible show wpAny _ _ (eval (PySem.Expr.ListComp _ _ _ _) _) _ _ _) | (with_reducible show wpAny _ _ (call (Value.builtin "bytes.decode") _) _ _ _) | (with_reducible show GrEnd _ _ _ _ _ _ _ _ _ _ _) | (with_reducible show LCt.CompSrcT _ _ _ _ _ _ _ _ _ _ _ _ _ _ _) | (with_reducible show LCg.CompSrc _ _ _ _ _ _ _ _ _ _ _ _ _ _) | (with_reducible show LCg.CompEnd _ _ _ _ _ _ _ _ _ _ _ _ _ _) | (with_reducible show wpAny _ _ (compareOp _ _ (Value.ref _)) _ _ _) | (with_reducible show wpAny _ _ (binaryOp _ (Value.ref _) (Value.ref _)) _ _ _) | (with_reducible show wpAny _ _ (subscriptTail _ _ (Value.ref _) (Value.ref _)) _ _ _) | (with_reducible show wpAny _ _ (subscriptTail _ _ (Value.ref _) (Value.int _ _)) _ _ _) | (with_reducible show wpAny _ _ (subscriptTail _ _ (Value.str _ _) _) _ _ _) | (with_reducible show wpAny _ _ (getMethod (Value.ref _) _ _) _ _ _) | (with_reducible show wpAny _ _ (call (Value.builtin "str.find") _) _ _ _) | (with_reducible show wpAny _ _ (pyIter (Value.ref _)) _ _ _)))); ((first | ((with_reducible show GrPost _ _ _ _ _ _ _ _ _ _ _ _ _); (dsimp only [GrPost])) | (k_unfold; (try dsimp only)) | (walk1 <;> (try dsimp only)) | (dsimp only; walk1) | (leave1; (try dsimp only)) | fail "no step"))))
        have hwl : wd ≤ rs.length := by omega
        have hrl70 : rs.length ≤ 70 := by omega
        with_reducible rename (Fr _ _ _ _) => F3
        with_reducible rename (News _ _ _ _) => N3
        refine slice_strN_sn (hsz := by rw [txt_len, sizeLine_eq]; omega) (s := ⟨_, _, _, _, _⟩) F3 N3 ?_
        intro h3 t3 k3 F4 N4
        rw [slice_txt_neg (j := wd) rfl hw1 hwl]
        clear F3 N3
        try dsimp only
        (repeat' ((fail_if_success ((first | (with_reducible show wpAny _ _ (exec (Stmt.Assign _ (PySem.Expr.ListComp _ _ _ _) _) _) _ _ _) | (with_reducible show wpAny _ _ (call (Value.ref _) _) _ _ _) | (with_reducible show wpAny _ _ (eval (PySem.Expr.ListComp _ _ _ _) _) _ _ _) | (with_reducible show wpAny _ _ (call (Value.builtin "bytes.decode") _) _ _ _) | (with_reducible show GrEnd _ _ _ _ _ _ _ _ _ _ _) | (with_reducible show LCt.CompSrcT _ _ _ _ _ _ _ _ _ _ _ _ _ _ _) | (with_reducible show LCg.CompSrc _ _ _ _ _ _ _ _ _ _ _ _ _ _) | (with_reducible show LCg.CompEnd _ _ _ _ _ _ _ _ _ _ _ _ _ _) | (with_reducible show wpAny _ _ (compareOp _ _ (Value.ref _)) _ _ _) | (with_reducible show wpAny _ _ (binaryOp _ (Value.ref _) (Value.ref _)) _ _ _) | (with_reducible show wpAny _ _ (subscriptTail _ _ (Value.ref _) (Value.ref _)) _ _ _) | (with_reducible show wpAny _ _ (subscriptTail _ _ (Value.ref _) (Value.int _ _)) _ _ _) | (with_reducible show wpAny _ _ (subscriptTail _ _ (Value.str _ _) _) _ _ _) | (with_reducible show wpAny _ _ (getMethod (Value.ref _) _ _) _ _ _) | (with_reducible show wpAny _ _ (call (Value.builtin "str.find") _) _ _ _) | (with_reducible show wpAny _ _ (pyIter (Value.ref _)) _ _ _)))); ((first | ((with_reducible show GrPost _ _ _ _ _ _ _ _ _ _ _ _ _); (dsimp only [GrPost])) | (k_unfold; (try dsimp only)) | (walk1 <;> (try dsimp only)) | (dsimp only; walk1) | (leave1; (try dsimp only)) | fail "no step"))))
        with_reducible rename (Fr _ _ _ _) => F3
        with_reducible rename (News _ _ _ _) => N3
        with_reducible rename (_ ∧ _ ∧ _ ∧ _ ∧ _ ∧ _ ∧ AllLt _ _) => lg
        have V3 := tv_turn (oG := listOf #[] 0) V2 hdj lg
        refine finderT _ _ _ _ _ _ _ _ _ ps qs _ 302 7 (some []) _ _ _ _ _ [] _ _ _ _ _ _ _ _ B' F3 X' (mv_in N3) V3 T' rfl trivial (by decide) (by decide) ?_
        rintro v ps1 qs1 ex1 h5 tk5 F5 N5 V5 D5 ⟨ff, c1, c2, rfl, hfin, hcode1⟩
        clear F3 N3
        have N6 := mv_out N5
        clear N5
        have V6 := tv_noG V5
        have hfin6 := hfin.subL mem_noG
        have hcode6 := hcode1.subC fun p hp hc => mem_noG p hp (by rw [hc]; decide)
        try dsimp only
        (repeat' ((fail_if_success ((first | (with_reducible show wpAny _ _ (exec (Stmt.Assign _ (PySem.Expr.ListComp _ _ _ _) _) _) _ _ _) | (with_reducible show wpAny _ _ (call (Value.ref _) _) _ _ _) | (with_reducible show wpAny _ _ (eval (PySem.Expr.ListComp _ _ _ _) _) _ _ _) | (with_reducible show wpAny _ _ (call (Value.builtin "bytes.decode") _) _ _ _) | (with_reducible show GrEnd _ _ _ _ _ _ _ _ _ _ _) | (with_reducible show LCt.CompSrcT _ _ _ _ _ _ _ _ _ _ _ _ _ _ _) | (with_reducible show LCg.CompSrc _ _ _ _ _ _ _ _ _ _ _ _ _ _) | (with_reducible show LCg.CompEnd _ _ _ _ _ _ _ _ _ _ _ _ _ _) | (with_reducible show wpAny _ _ (compareOp _ _ (Value.ref _)) _ _ _) | (with_reducible show wpAny _ _ (binaryOp _ (Value.ref _) (Value.ref _)) _ _ _) | (with_reducible show wpAny _ _ (subscriptTail _ _ (Value.ref _) (Value.ref _)) _ _ _) | (with_reducible show wpAny _ _ (subscriptTail _ _ (Value.ref _) (Value.int _ _)) _ _ _) | (with_reducible show wpAny _ _ (subscriptTail _ _ (Value.str _ _) _) _ _ _) | (with_reducible show wpAny _ _ (getMethod (Value.ref _) _ _) _ _ _) | (with_reducible show wpAny _ _ (call (Value.builtin "str.find") _) _ _ _) | (with_reducible show wpAny _ _ (pyIter (Value.ref _)) _ _ _)))); ((first | ((with_reducible show GrPost _ _ _ _ _ _ _ _ _ _ _ _ _); (dsimp only [GrPost])) | (k_unfold; (try dsimp only)) | (walk1 <;> (try dsimp only)) | (dsimp only; walk1) | (leave1; (try dsimp only)) | fail "no step"))))
        refine item_str (x := txt lo rs) (s := ⟨_, _, _, _, _⟩) (by decide) (by rw [txt_len]; omega) (by rw [txt_len]; omega) ?_
        intro _
        try dsimp only
        (repeat' ((fail_if_success ((first | (with_reducible show wpAny _ _ (exec (Stmt.Assign _ (PySem.Expr.ListComp _ _ _ _) _) _) _ _ _) | (with_reducible show wpAny _ _ (call (Value.ref _) _) _ _ _) | (with_reducible show wpAny _ _ (eval (PySem.Expr.ListComp _ _ _ _) _) _ _ _) | (with_reducible show wpAny _ _ (call (Value.builtin "bytes.decode") _) _ _ _) | (with_reducible show GrEnd _ _ _ _ _ _ _ _ _ _ _) | (with_reducible show LCt.CompSrcT _ _ _ _ _ _ _ _ _ _ _ _ _ _ _) | (with_reducible show LCg.CompSrc _ _ _ _ _ _ _ _ _ _ _ _ _ _) | (with_reducible show LCg.CompEnd _ _ _ _ _ _ _ _ _ _ _ _ _ _) | (with_reducible show wpAny _ _ (compareOp _ _ (Value.ref _)) _ _ _) | (with_reducible show wpAny _ _ (binaryOp _ (Value.ref _) (Value.ref _)) _ _ _) | (with_reducible show wpAny _ _ (subscriptTail _ _ (Value.ref _) (Value.ref _)) _ _ _) | (with_reducible show wpAny _ _ (subscriptTail _ _ (Value.ref _) (Value.int _ _)) _ _ _) | (with_reducible show wpAny _ _ (subscriptTail _ _ (Value.str _ _) _) _ _ _) | (with_reducible show wpAny _ _ (getMethod (Value.ref _) _ _) _ _ _) | (with_reducible show wpAny _ _ (call (Value.builtin "str.find") _) _ _ _) | (with_reducible show wpAny _ _ (pyIter (Value.ref _)) _ _ _)))); ((first | ((with_reducible show GrPost _ _ _ _ _ _ _ _ _ _ _ _ _); (dsimp only [GrPost])) | (k_unfold; (try dsimp only)) | (walk1 <;> (try dsimp only)) | (dsimp only; walk1) | (leave1; (try dsimp only)) | fail "no step"))))
        refine PyProof.Rows.add_str (s := ⟨_, _, _, _, _⟩) ?_ (hsz := by rw [txt_len, sizeLine_eq]; show rs.length + 1 ≤ _; omega)
        intro tc kc
        obtain ⟨chars, hchars⟩ : ∃ chars, chars = txt lo rs ++ Txt.item (txt lo rs) 0 := ⟨_, rfl⟩
        rw [← hchars]
        try dsimp only
        (repeat' ((fail_if_success ((first | (with_reducible show wpAny _ _ (exec (Stmt.Assign _ (PySem.Expr.ListComp _ _ _ _) _) _) _ _ _) | (with_reducible show wpAny _ _ (call (Value.ref _) _) _ _ _) | (with_reducible show wpAny _ _ (eval (PySem.Expr.ListComp _ _ _ _) _) _ _ _) | (with_reducible show wpAny _ _ (call (Value.builtin "bytes.decode") _) _ _ _) | (with_reducible show GrEnd _ _ _ _ _ _ _ _ _ _ _) | (with_reducible show LCt.CompSrcT _ _ _ _ _ _ _ _ _ _ _ _ _ _ _) | (with_reducible show LCg.CompSrc _ _ _ _ _ _ _ _ _ _ _ _ _ _) | (with_reducible show LCg.CompEnd _ _ _ _ _ _ _ _ _ _ _ _ _ _) | (with_reducible show wpAny _ _ (compareOp _ _ (Value.ref _)) _ _ _) | (with_reducible show wpAny _ _ (binaryOp _ (Value.ref _) (Value.ref _)) _ _ _) | (with_reducible show wpAny _ _ (subscriptTail _ _ (Value.ref _) (Value.ref _)) _ _ _) | (with_reducible show wpAny _ _ (subscriptTail _ _ (Value.ref _) (Value.int _ _)) _ _ _) | (with_reducible show wpAny _ _ (subscriptTail _ _ (Value.str _ _) _) _ _ _) | (with_reducible show wpAny _ _ (getMethod (Value.ref _) _ _) _ _ _) | (with_reducible show wpAny _ _ (call (Value.builtin "str.find") _) _ _ _) | (with_reducible show wpAny _ _ (pyIter (Value.ref _)) _ _ _)))); ((first | ((with_reducible show GrPost _ _ _ _ _ _ _ _ _ _ _ _ _); (dsimp only [GrPost])) | (k_unfold; (try dsimp only)) | (walk1 <;> (try dsimp only)) | (dsimp only; walk1) | (leave1; (try dsimp only)) | fail "no step"))))
        refine PySem.P.len_str (s := ⟨_, _, _, _, _⟩) (by rw [txt_len]; omega) ?_
        rw [txt_len]
        try dsimp only
        (repeat' ((fail_if_success ((first | (with_reducible show wpAny _ _ (exec (Stmt.Assign _ (PySem.Expr.ListComp _ _ _ _) _) _) _ _ _) | (with_reducible show wpAny _ _ (call (Value.ref _) _) _ _ _) | (with_reducible show wpAny _ _ (eval (PySem.Expr.ListComp _ _ _ _) _) _ _ _) | (with_reducible show wpAny _ _ (call (Value.builtin "bytes.decode") _) _ _ _) | (with_reducible show GrEnd _ _ _ _ _ _ _ _ _ _ _) | (with_reducible show LCt.CompSrcT _ _ _ _ _ _ _ _ _ _ _ _ _ _ _) | (with_reducible show LCg.CompSrc _ _ _ _ _ _ _ _ _ _ _ _ _ _) | (with_reducible show LCg.CompEnd _ _ _ _ _ _ _ _ _ _ _ _ _ _) | (with_reducible show wpAny _ _ (compareOp _ _ (Value.ref _)) _ _ _) | (with_reducible show wpAny _ _ (binaryOp _ (Value.ref _) (Value.ref _)) _ _ _) | (with_reducible show wpAny _ _ (subscriptTail _ _ (Value.ref _) (Value.ref _)) _ _ _) | (with_reducible show wpAny _ _ (subscriptTail _ _ (Value.ref _) (Value.int _ _)) _ _ _) | (with_reducible show wpAny _ _ (subscriptTail _ _ (Value.str _ _) _) _ _ _) | (with_reducible show wpAny _ _ (getMethod (Value.ref _) _ _) _ _ _) | (with_reducible show wpAny _ _ (call (Value.builtin "str.find") _) _ _ _) | (with_reducible show wpAny _ _ (pyIter (Value.ref _)) _ _ _)))); ((first | ((with_reducible show GrPost _ _ _ _ _ _ _ _ _ _ _ _ _); (dsimp only [GrPost])) | (k_unfold; (try dsimp only)) | (walk1 <;> (try dsimp only)) | (dsimp only; walk1) | (leave1; (try dsimp only)) | fail "no step"))))
        have hcl : chars.length = rs.length + 1 := by
          rw [hchars]
          show ((txt lo rs).cps ++ #[_]).size = _
          have := txt_len lo rs
          unfold PySem.Str.length at this
          rw [Array.size_append, this]; rfl
        have hend := hit_end (lo := lo) hwl hchars
        with_reducible rename (Fr _ _ _ _) => F7
        with_reducible rename (News _ _ _ _) => N7
        obtain ⟨df, fs, dt, cu, cg, tx, t0', ct, hh1, tt1, HF⟩ := hfin6
        refine revT _ _ _ _ _ _ (txt lo (rs.take wd)) chars rs.length _ c1 _ ff df fs dt cu cg tx t0' ct hh1 tt1 tc _ [] 0 ps1 qs1 _ 302 7 (some []) _ _ _ _ _ [] _ _ _ _ _ _ _ _ B' F7 X' N7 V6 (off_g D5 lg) (Ne.symm (Nat.ne_of_lt lg.1)) (Ne.symm (Nat.ne_of_lt lg.2.1)) T' rfl ⟨HF, hcode6, by omega, by rw [txt_len, List.length_take]; omega, rfl, hcl.symm, hend⟩ (by decide) (by decide) ?_
        rintro v gvs' nn2 ps2 qs2 ex2 h8 tk8 F8 N8 V8 D8 ⟨hs, ha, rfl, hpostE, hsok, hlast, hshort, hvl⟩
        clear F7 N7
        have N9 := mv_out4 N8
        clear N8
        try dsimp only
        (repeat' ((fail_if_success ((first | (with_reducible show wpAny _ _ (exec (Stmt.Assign _ (PySem.Expr.ListComp _ _ _ _) _) _) _ _ _) | (with_reducible show wpAny _ _ (call (Value.ref _) _) _ _ _) | (with_reducible show wpAny _ _ (eval (PySem.Expr.ListComp _ _ _ _) _) _ _ _) | (with_reducible show wpAny _ _ (call (Value.builtin "bytes.decode") _) _ _ _) | (with_reducible show GrEnd _ _ _ _ _ _ _ _ _ _ _) | (with_reducible show LCt.CompSrcT _ _ _ _ _ _ _ _ _ _ _ _ _ _ _) | (with_reducible show LCg.CompSrc _ _ _ _ _ _ _ _ _ _ _ _ _ _) | (with_reducible show LCg.CompEnd _ _ _ _ _ _ _ _ _ _ _ _ _ _) | (with_reducible show wpAny _ _ (compareOp _ _ (Value.ref _)) _ _ _) | (with_reducible show wpAny _ _ (binaryOp _ (Value.ref _) (Value.ref _)) _ _ _) | (with_reducible show wpAny _ _ (subscriptTail _ _ (Value.ref _) (Value.ref _)) _ _ _) | (with_reducible show wpAny _ _ (subscriptTail _ _ (Value.ref _) (Value.int _ _)) _ _ _) | (with_reducible show wpAny _ _ (subscriptTail _ _ (Value.str _ _) _) _ _ _) | (with_reducible show wpAny _ _ (getMethod (Value.ref _) _ _) _ _ _) | (with_reducible show wpAny _ _ (call (Value.builtin "str.find") _) _ _ _) | (with_reducible show wpAny _ _ (pyIter (Value.ref _)) _ _ _)))); ((first | ((with_reducible show GrPost _ _ _ _ _ _ _ _ _ _ _ _ _); (dsimp only [GrPost])) | (k_unfold; (try dsimp only)) | (walk1 <;> (try dsimp only)) | (dsimp only; walk1) | (leave1; (try dsimp only)) | fail "no step"))))
        refine LCt.ListComp_T (F₀ := by assumption) (by with_unfolding_all rfl) (by decide) (by rfl) (by decide) (by rfl) ?_
        (repeat' ((fail_if_success ((first | (with_reducible show wpAny _ _ (exec (Stmt.Assign _ (PySem.Expr.ListComp _ _ _ _) _) _) _ _ _) | (with_reducible show wpAny _ _ (call (Value.ref _) _) _ _ _) | (with_reducible show wpAny _ _ (eval (PySem.Expr.ListComp _ _ _ _) _) _ _ _) | (with_reducible show wpAny _ _ (call (Value.builtin "bytes.decode") _) _ _ _) | (with_reducible show GrEnd _ _ _ _ _ _ _ _ _ _ _) | (with_reducible show LCt.CompSrcT _ _ _ _ _ _ _ _ _ _ _ _ _ _ _) | (with_reducible show LCg.CompSrc _ _ _ _ _ _ _ _ _ _ _ _ _ _) | (with_reducible show LCg.CompEnd _ _ _ _ _ _ _ _ _ _ _ _ _ _) | (with_reducible show wpAny _ _ (compareOp _ _ (Value.ref _)) _ _ _) | (with_reducible show wpAny _ _ (binaryOp _ (Value.ref _) (Value.ref _)) _ _ _) | (with_reducible show wpAny _ _ (subscriptTail _ _ (Value.ref _) (Value.ref _)) _ _ _) | (with_reducible show wpAny _ _ (subscriptTail _ _ (Value.ref _) (Value.int _ _)) _ _ _) | (with_reducible show wpAny _ _ (subscriptTail _ _ (Value.str _ _) _) _ _ _) | (with_reducible show wpAny _ _ (getMethod (Value.ref _) _ _) _ _ _) | (with_reducible show wpAny _ _ (call (Value.builtin "str.find") _) _ _ _) | (with_reducible show wpAny _ _ (pyIter (Value.ref _)) _ _ _)))); ((first | ((with_reducible show GrPost _ _ _ _ _ _ _ _ _ _ _ _ _); (dsimp only [GrPost])) | (k_unfold; (try dsimp only)) | (walk1 <;> (try dsimp only)) | (dsimp only; walk1) | (leave1; (try dsimp only)) | fail "no step"))))
        with_reducible rename (Fr _ _ _ _) => F10
        with_reducible rename (News _ _ _ _) => N10
        have hsl : hs.length ≤ 80 := by omega
        refine LCt.CompSrcT.ledger rfl F10 N10 (.tail _ (.tail _ (.tail _ (.head _)))) (by rw [sizeLine_eq]; simp; omega) ?_
        intro g9
        have hsz9 : (([] : List Value) ++ refsOf hs ++ [Value.ref ha]).toArray.size = hs.length + 1 := by simp
        rw [hsz9]
        refine restT_fix (fun i' ys' => ys' = (refsOf hs).take i') (hs.length + 1) rfl ?_ ?_
        · rintro i' ys' v' I oI C oC D9 m₂ h7 tk7 E' hi' hy' hv' hC hx F11 N11 off ne
          obtain ⟨n', av, rfl, hp', hcase'⟩ := refs_at hsok hpostE hv'
          obtain ⟨av2, x1, x2, x3, x4, e', ⟨d', f1', f2', f3', c', t', ct1, ct2, ct3, q1, q2, q3, r1, r2, r3, HH⟩, hcs4⟩ := hp'
          cases e'
          have HH2 := hit_up N11 HH fun p hp => .tail _ (.tail _ (.tail _ (full_mem p hp)))
          have hcs5 := codes_up N11 hcs4 fun p hp => .tail _ (.tail _ (.tail _ (full_mem p hp)))
          try dsimp only
          (repeat' ((fail_if_success ((first | (with_reducible show wpAny _ _ (exec (Stmt.Assign _ (PySem.Expr.ListComp _ _ _ _) _) _) _ _ _) | (with_reducible show wpAny _ _ (call (Value.ref _) _) _ _ _) | (with_reducible show wpAny _ _ (eval (PySem.Expr.ListComp _ _ _ _) _) _ _ _) | (with_reducible show wpAny _ _ (call (Value.builtin "bytes.decode") _) _ _ _) | (with_reducible show GrEnd _ _ _ _ _ _ _ _ _ _ _) | (with_reducible show LCt.CompSrcT _ _ _ _ _ _ _ _ _ _ _ _ _ _ _) | (with_reducible show LCg.CompSrc _ _ _ _ _ _ _ _ _ _ _ _ _ _) | (with_reducible show LCg.CompEnd _ _ _ _ _ _ _ _ _ _ _ _ _ _) | (with_reducible show wpAny _ _ (compareOp _ _ (Value.ref _)) _ _ _) | (with_reducible show wpAny _ _ (binaryOp _ (Value.ref _) (Value.ref _)) _ _ _) | (with_reducible show wpAny _ _ (subscriptTail _ _ (Value.ref _) (Value.ref _)) _ _ _) | (with_reducible show wpAny _ _ (subscriptTail _ _ (Value.ref _) (Value.int _ _)) _ _ _) | (with_reducible show wpAny _ _ (subscriptTail _ _ (Value.str _ _) _) _ _ _) | (with_reducible show wpAny _ _ (getMethod (Value.ref _) _ _) _ _ _) | (with_reducible show wpAny _ _ (call (Value.builtin "str.find") _) _ _ _) | (with_reducible show wpAny _ _ (pyIter (Value.ref _)) _ _ _)))); ((first | ((with_reducible show GrPost _ _ _ _ _ _ _ _ _ _ _ _ _); (dsimp only [GrPost])) | (k_unfold; (try dsimp only)) | (walk1 <;> (try dsimp only)) | (dsimp only; walk1) | (leave1; (try dsimp only)) | fail "no step"))))
          with_reducible rename (News _ _ _ _) => N12
          refine methEnd N12 HH2 ?_
          try dsimp only
          refine callWith_F0 ⟨_, _, _, _, (N12 _ HH2.ende).1⟩ ?_
          with_reducible rename (Fr _ _ _ _) => F12
          refine endT F12 N12 X' HH2 (hcs5.sub (by simp)) rfl (Nat.le_of_ble_eq_true rfl) (Nat.le_of_ble_eq_true rfl) ?_
          intro h13 tk13 t13 F13 N13
          clear F12 N12
          try dsimp only
          (repeat' ((fail_if_success ((first | (with_reducible show wpAny _ _ (exec (Stmt.Assign _ (PySem.Expr.ListComp _ _ _ _) _) _) _ _ _) | (with_reducible show wpAny _ _ (call (Value.ref _) _) _ _ _) | (with_reducible show wpAny _ _ (eval (PySem.Expr.ListComp _ _ _ _) _) _ _ _) | (with_reducible show wpAny _ _ (call (Value.builtin "bytes.decode") _) _ _ _) | (with_reducible show GrEnd _ _ _ _ _ _ _ _ _ _ _) | (with_reducible show LCt.CompSrcT _ _ _ _ _ _ _ _ _ _ _ _ _ _ _) | (with_reducible show LCg.CompSrc _ _ _ _ _ _ _ _ _ _ _ _ _ _) | (with_reducible show LCg.CompEnd _ _ _ _ _ _ _ _ _ _ _ _ _ _) | (with_reducible show wpAny _ _ (compareOp _ _ (Value.ref _)) _ _ _) | (with_reducible show wpAny _ _ (binaryOp _ (Value.ref _) (Value.ref _)) _ _ _) | (with_reducible show wpAny _ _ (subscriptTail _ _ (Value.ref _) (Value.ref _)) _ _ _) | (with_reducible show wpAny _ _ (subscriptTail _ _ (Value.ref _) (Value.int _ _)) _ _ _) | (with_reducible show wpAny _ _ (subscriptTail _ _ (Value.str _ _) _) _ _ _) | (with_reducible show wpAny _ _ (getMethod (Value.ref _) _ _) _ _ _) | (with_reducible show wpAny _ _ (call (Value.builtin "str.find") _) _ _ _) | (with_reducible show wpAny _ _ (pyIter (Value.ref _)) _ _ _)))); ((first | ((with_reducible show GrPost _ _ _ _ _ _ _ _ _ _ _ _ _); (dsimp only [GrPost])) | (k_unfold; (try dsimp only)) | (walk1 <;> (try dsimp only)) | (dsimp only; walk1) | (leave1; (try dsimp only)) | fail "no step"))))
          refine PySem.P.len_str (s := ⟨_, _, _, _, _⟩) (by rw [txt_len]; omega) ?_
          rw [txt_len]
          try dsimp only
          (repeat' ((fail_if_success ((first | (with_reducible show wpAny _ _ (exec (Stmt.Assign _ (PySem.Expr.ListComp _ _ _ _) _) _) _ _ _) | (with_reducible show wpAny _ _ (call (Value.ref _) _) _ _ _) | (with_reducible show wpAny _ _ (eval (PySem.Expr.ListComp _ _ _ _) _) _ _ _) | (with_reducible show wpAny _ _ (call (Value.builtin "bytes.decode") _) _ _ _) | (with_reducible show GrEnd _ _ _ _ _ _ _ _ _ _ _) | (with_reducible show LCt.CompSrcT _ _ _ _ _ _ _ _ _ _ _ _ _ _ _) | (with_reducible show LCg.CompSrc _ _ _ _ _ _ _ _ _ _ _ _ _ _) | (with_reducible show LCg.CompEnd _ _ _ _ _ _ _ _ _ _ _ _ _ _) | (with_reducible show wpAny _ _ (compareOp _ _ (Value.ref _)) _ _ _) | (with_reducible show wpAny _ _ (binaryOp _ (Value.ref _) (Value.ref _)) _ _ _) | (with_reducible show wpAny _ _ (subscriptTail _ _ (Value.ref _) (Value.ref _)) _ _ _) | (with_reducible show wpAny _ _ (subscriptTail _ _ (Value.ref _) (Value.int _ _)) _ _ _) | (with_reducible show wpAny _ _ (subscriptTail _ _ (Value.str _ _) _) _ _ _) | (with_reducible show wpAny _ _ (getMethod (Value.ref _) _ _) _ _ _) | (with_reducible show wpAny _ _ (call (Value.builtin "str.find") _) _ _ _) | (with_reducible show wpAny _ _ (pyIter (Value.ref _)) _ _ _)))); ((first | ((with_reducible show GrPost _ _ _ _ _ _ _ _ _ _ _ _ _); (dsimp only [GrPost])) | (k_unfold; (try dsimp only)) | (walk1 <;> (try dsimp only)) | (dsimp only; walk1) | (leave1; (try dsimp only)) | fail "no step"))))
          · with_reducible rename (News _ _ _ _) => kN
            refine LCg.CompEnd.intro (by assumption) kN _ (fun p hp => hp) off (.inr ⟨_, .tail _ (.tail _ (.tail _ (.head _))), rfl, _, rfl⟩) ⟨rfl, ?_⟩
            rcases hcase' with ⟨h1, h2⟩ | ⟨h1, h2⟩
            · exact take_yes h1 hv' hy'
            · exfalso; omega
          · with_reducible rename (News _ _ _ _) => kN
            refine LCg.CompEnd.intro (by assumption) kN _ (fun p hp => hp) off (.inr ⟨_, .tail _ (.tail _ (.tail _ (.head _))), rfl, _, rfl⟩) ⟨rfl, ?_⟩
            rcases hcase' with ⟨h1, h2⟩ | ⟨h1, h2⟩
            · exfalso; omega
            · exact take_no h1 hy'
        · rintro ys' rfl D9 h7 tk7 F11 N11 o17
          have hys : (refsOf hs).take (hs.length + 1) = refsOf hs := List.take_of_length_le (by simp)
          rw [hys] at N11
          try dsimp only
          refine kmk_add_lit (s := ⟨_, _, _, _, _⟩) (zs := .none :: refsOf hs) F11 N11 ⟨_, (N11 _ (.tail _ (.head _))).1, rfl, _, rfl⟩ ⟨_, (N11 _ (.head _)).1, rfl, _, rfl⟩ rfl ?_ (by rw [sizeLine_eq]; simp; omega)
          intro RL h12 F12 N12 hlt12
          clear N11 F11
          try dsimp only
          (repeat' ((fail_if_success ((first | (with_reducible show wpAny _ _ (exec (Stmt.Assign _ (PySem.Expr.ListComp _ _ _ _) _) _) _ _ _) | (with_reducible show wpAny _ _ (call (Value.ref _) _) _ _ _) | (with_reducible show wpAny _ _ (eval (PySem.Expr.ListComp _ _ _ _) _) _ _ _) | (with_reducible show wpAny _ _ (call (Value.builtin "bytes.decode") _) _ _ _) | (with_reducible show GrEnd _ _ _ _ _ _ _ _ _ _ _) | (with_reducible show LCt.CompSrcT _ _ _ _ _ _ _ _ _ _ _ _ _ _ _) | (with_reducible show LCg.CompSrc _ _ _ _ _ _ _ _ _ _ _ _ _ _) | (with_reducible show LCg.CompEnd _ _ _ _ _ _ _ _ _ _ _ _ _ _) | (with_reducible show wpAny _ _ (compareOp _ _ (Value.ref _)) _ _ _) | (with_reducible show wpAny _ _ (binaryOp _ (Value.ref _) (Value.ref _)) _ _ _) | (with_reducible show wpAny _ _ (subscriptTail _ _ (Value.ref _) (Value.ref _)) _ _ _) | (with_reducible show wpAny _ _ (subscriptTail _ _ (Value.ref _) (Value.int _ _)) _ _ _) | (with_reducible show wpAny _ _ (subscriptTail _ _ (Value.str _ _) _) _ _ _) | (with_reducible show wpAny _ _ (getMethod (Value.ref _) _ _) _ _ _) | (with_reducible show wpAny _ _ (call (Value.builtin "str.find") _) _ _ _) | (with_reducible show wpAny _ _ (pyIter (Value.ref _)) _ _ _)))); ((first | ((with_reducible show GrPost _ _ _ _ _ _ _ _ _ _ _ _ _); (dsimp only [GrPost])) | (k_unfold; (try dsimp only)) | (walk1 <;> (try dsimp only)) | (dsimp only; walk1) | (leave1; (try dsimp only)) | fail "no step"))))
          refine kba_turn (value' := PySem.Expr.Name (PySem.Str.ofString "_") ⟨0, 0, 0, 0⟩) (fun _ => rfl) ?_
          with_reducible rename (News _ _ _ _) => N13
          refine item_neg (s := ⟨_, _, _, _, _⟩) (items := (.none :: refsOf hs).toArray) ⟨_, (N13 _ (.head _)).1, rfl, _, rfl⟩ (by decide) (by simp; omega) (by decide) (x := v) (by rw [hvl]; exact last_item hs) ?_
          try dsimp only
          rcases last_scan hwl hw1 hchars hlast with ⟨rfl, hsc⟩ | ⟨hs0, q, rfl, hq, hsc⟩
          · have hv0 : v = .none := hvl
            subst hv0
            clear hvl
            (repeat' ((fail_if_success ((first | (with_reducible show wpAny _ _ (exec (Stmt.Assign _ (PySem.Expr.ListComp _ _ _ _) _) _) _ _ _) | (with_reducible show wpAny _ _ (call (Value.ref _) _) _ _ _) | (with_reducible show wpAny _ _ (eval (PySem.Expr.ListComp _ _ _ _) _) _ _ _) | (with_reducible show wpAny _ _ (call (Value.builtin "bytes.decode") _) _ _ _) | (with_reducible show GrEnd _ _ _ _ _ _ _ _ _ _ _) | (with_reducible show LCt.CompSrcT _ _ _ _ _ _ _ _ _ _ _ _ _ _ _) | (with_reducible show LCg.CompSrc _ _ _ _ _ _ _ _ _ _ _ _ _ _) | (with_reducible show LCg.CompEnd _ _ _ _ _ _ _ _ _ _ _ _ _ _) | (with_reducible show wpAny _ _ (compareOp _ _ (Value.ref _)) _ _ _) | (with_reducible show wpAny _ _ (binaryOp _ (Value.ref _) (Value.ref _)) _ _ _) | (with_reducible show wpAny _ _ (subscriptTail _ _ (Value.ref _) (Value.ref _)) _ _ _) | (with_reducible show wpAny _ _ (subscriptTail _ _ (Value.ref _) (Value.int _ _)) _ _ _) | (with_reducible show wpAny _ _ (subscriptTail _ _ (Value.str _ _) _) _ _ _) | (with_reducible show wpAny _ _ (getMethod (Value.ref _) _ _) _ _ _) | (with_reducible show wpAny _ _ (call (Value.builtin "str.find") _) _ _ _) | (with_reducible show wpAny _ _ (pyIter (Value.ref _)) _ _ _)))); ((first | ((with_reducible show GrPost _ _ _ _ _ _ _ _ _ _ _ _ _); (dsimp only [GrPost])) | (k_unfold; (try dsimp only)) | (walk1 <;> (try dsimp only)) | (dsimp only; walk1) | (leave1; (try dsimp only)) | fail "no step"))))
            have hnx : nextR wd mm rs = 0 := by unfold nextR; rw [hsc]
            have hfig : (lo : Int) = ((encR lo [nextR wd mm rs] : Nat) : Int) := by rw [hnx]; simp [encR]
            have hd1 : Dig mm [nextR wd mm rs] := fun d hd => by
              rw [List.mem_singleton] at hd
              subst hd
              exact nextR_lt (by omega)
            with_reducible rename (Fr _ _ _ _) => F14
            with_reducible rename (News _ _ _ _) => N14
            refine int2ap _ _ _ _ _ _ _ _ _ 302 7 (some []) _ _ _ _ _ [] _ _ _ _ _ _ _ _ B' F14 X' N14 T' rfl ?_ (by decide) (by decide) ?_
            · rw [hfig, Int.natAbs_natCast]
              exact enc_lt hlo2 hd1 (by simp)
            rintro v15 news15 h15 tk15 F15 N15 ⟨rfl, tb, hv15⟩
            rw [hfig] at hv15
            subst hv15
            clear F14 N14
            try dsimp only
            (repeat' ((fail_if_success ((first | (with_reducible show wpAny _ _ (exec (Stmt.Assign _ (PySem.Expr.ListComp _ _ _ _) _) _) _ _ _) | (with_reducible show wpAny _ _ (call (Value.ref _) _) _ _ _) | (with_reducible show wpAny _ _ (eval (PySem.Expr.ListComp _ _ _ _) _) _ _ _) | (with_reducible show wpAny _ _ (call (Value.builtin "bytes.decode") _) _ _ _) | (with_reducible show GrEnd _ _ _ _ _ _ _ _ _ _ _) | (with_reducible show LCt.CompSrcT _ _ _ _ _ _ _ _ _ _ _ _ _ _ _) | (with_reducible show LCg.CompSrc _ _ _ _ _ _ _ _ _ _ _ _ _ _) | (with_reducible show LCg.CompEnd _ _ _ _ _ _ _ _ _ _ _ _ _ _) | (with_reducible show wpAny _ _ (compareOp _ _ (Value.ref _)) _ _ _) | (with_reducible show wpAny _ _ (binaryOp _ (Value.ref _) (Value.ref _)) _ _ _) | (with_reducible show wpAny _ _ (subscriptTail _ _ (Value.ref _) (Value.ref _)) _ _ _) | (with_reducible show wpAny _ _ (subscriptTail _ _ (Value.ref _) (Value.int _ _)) _ _ _) | (with_reducible show wpAny _ _ (subscriptTail _ _ (Value.str _ _) _) _ _ _) | (with_reducible show wpAny _ _ (getMethod (Value.ref _) _ _) _ _ _) | (with_reducible show wpAny _ _ (call (Value.builtin "str.find") _) _ _ _) | (with_reducible show wpAny _ _ (pyIter (Value.ref _)) _ _ _)))); ((first | ((with_reducible show GrPost _ _ _ _ _ _ _ _ _ _ _ _ _); (dsimp only [GrPost])) | (k_unfold; (try dsimp only)) | (walk1 <;> (try dsimp only)) | (dsimp only; walk1) | (leave1; (try dsimp only)) | fail "no step"))))
            refine CD.decode (s := ⟨_, _, _, _, _⟩) (ap_ne hlo1 hlo2 hd1 (by simp)) (ap_small hlo1 hlo2 hd1) (ap_size hlo2 hd1 (by simp)) ?_
            intro tq kq
            rw [ap_txt hlo1 hlo2 hd1]
            try dsimp only
            (repeat' ((fail_if_success ((first | (with_reducible show wpAny _ _ (exec (Stmt.Assign _ (PySem.Expr.ListComp _ _ _ _) _) _) _ _ _) | (with_reducible show wpAny _ _ (call (Value.ref _) _) _ _ _) | (with_reducible show wpAny _ _ (eval (PySem.Expr.ListComp _ _ _ _) _) _ _ _) | (with_reducible show wpAny _ _ (call (Value.builtin "bytes.decode") _) _ _ _) | (with_reducible show GrEnd _ _ _ _ _ _ _ _ _ _ _) | (with_reducible show LCt.CompSrcT _ _ _ _ _ _ _ _ _ _ _ _ _ _ _) | (with_reducible show LCg.CompSrc _ _ _ _ _ _ _ _ _ _ _ _ _ _) | (with_reducible show LCg.CompEnd _ _ _ _ _ _ _ _ _ _ _ _ _ _) | (with_reducible show wpAny _ _ (compareOp _ _ (Value.ref _)) _ _ _) | (with_reducible show wpAny _ _ (binaryOp _ (Value.ref _) (Value.ref _)) _ _ _) | (with_reducible show wpAny _ _ (subscriptTail _ _ (Value.ref _) (Value.ref _)) _ _ _) | (with_reducible show wpAny _ _ (subscriptTail _ _ (Value.ref _) (Value.int _ _)) _ _ _) | (with_reducible show wpAny _ _ (subscriptTail _ _ (Value.str _ _) _) _ _ _) | (with_reducible show wpAny _ _ (getMethod (Value.ref _) _ _) _ _ _) | (with_reducible show wpAny _ _ (call (Value.builtin "str.find") _) _ _ _) | (with_reducible show wpAny _ _ (pyIter (Value.ref _)) _ _ _)))); ((first | ((with_reducible show GrPost _ _ _ _ _ _ _ _ _ _ _ _ _); (dsimp only [GrPost])) | (k_unfold; (try dsimp only)) | (walk1 <;> (try dsimp only)) | (dsimp only; walk1) | (leave1; (try dsimp only)) | fail "no step"))))
            refine PyProof.Rows.iadd_str (s := ⟨_, _, _, _, _⟩) ?_ (hsz := by rw [txt_len, txt_len, sizeLine_eq]; simp; omega)
            intro tl2 kl2
            rw [txt_cat]
            try dsimp only
            (repeat' ((fail_if_success ((first | (with_reducible show wpAny _ _ (exec (Stmt.Assign _ (PySem.Expr.ListComp _ _ _ _) _) _) _ _ _) | (with_reducible show wpAny _ _ (call (Value.ref _) _) _ _ _) | (with_reducible show wpAny _ _ (eval (PySem.Expr.ListComp _ _ _ _) _) _ _ _) | (with_reducible show wpAny _ _ (call (Value.builtin "bytes.decode") _) _ _ _) | (with_reducible show GrEnd _ _ _ _ _ _ _ _ _ _ _) | (with_reducible show LCt.CompSrcT _ _ _ _ _ _ _ _ _ _ _ _ _ _ _) | (with_reducible show LCg.CompSrc _ _ _ _ _ _ _ _ _ _ _ _ _ _) | (with_reducible show LCg.CompEnd _ _ _ _ _ _ _ _ _ _ _ _ _ _) | (with_reducible show wpAny _ _ (compareOp _ _ (Value.ref _)) _ _ _) | (with_reducible show wpAny _ _ (binaryOp _ (Value.ref _) (Value.ref _)) _ _ _) | (with_reducible show wpAny _ _ (subscriptTail _ _ (Value.ref _) (Value.ref _)) _ _ _) | (with_reducible show wpAny _ _ (subscriptTail _ _ (Value.ref _) (Value.int _ _)) _ _ _) | (with_reducible show wpAny _ _ (subscriptTail _ _ (Value.str _ _) _) _ _ _) | (with_reducible show wpAny _ _ (getMethod (Value.ref _) _ _) _ _ _) | (with_reducible show wpAny _ _ (call (Value.builtin "str.find") _) _ _ _) | (with_reducible show wpAny _ _ (pyIter (Value.ref _)) _ _ _)))); ((first | ((with_reducible show GrPost _ _ _ _ _ _ _ _ _ _ _ _ _); (dsimp only [GrPost])) | (k_unfold; (try dsimp only)) | (walk1 <;> (try dsimp only)) | (dsimp only; walk1) | (leave1; (try dsimp only)) | fail "no step"))))
            with_reducible rename (Fr _ _ _ _) => F16
            with_reducible rename (News _ _ _ _) => N16
            have N17 := led_turn (fun p hp => N16 p (.tail _ (.tail _ hp)))
            refine storeX_C (o := oL) F16 N17 rfl (UpdF.head (off_turn l0 hdj D5 D8 hoff)) dLt ?_
            intro h18 oL2 F18 N18 dL2
            clear F16 N16 N17
            try dsimp only
            (repeat' ((fail_if_success ((first | (with_reducible show wpAny _ _ (exec (Stmt.Assign _ (PySem.Expr.ListComp _ _ _ _) _) _) _ _ _) | (with_reducible show wpAny _ _ (call (Value.ref _) _) _ _ _) | (with_reducible show wpAny _ _ (eval (PySem.Expr.ListComp _ _ _ _) _) _ _ _) | (with_reducible show wpAny _ _ (call (Value.builtin "bytes.decode") _) _ _ _) | (with_reducible show GrEnd _ _ _ _ _ _ _ _ _ _ _) | (with_reducible show LCt.CompSrcT _ _ _ _ _ _ _ _ _ _ _ _ _ _ _) | (with_reducible show LCg.CompSrc _ _ _ _ _ _ _ _ _ _ _ _ _ _) | (with_reducible show LCg.CompEnd _ _ _ _ _ _ _ _ _ _ _ _ _ _) | (with_reducible show wpAny _ _ (compareOp _ _ (Value.ref _)) _ _ _) | (with_reducible show wpAny _ _ (binaryOp _ (Value.ref _) (Value.ref _)) _ _ _) | (with_reducible show wpAny _ _ (subscriptTail _ _ (Value.ref _) (Value.ref _)) _ _ _) | (with_reducible show wpAny _ _ (subscriptTail _ _ (Value.ref _) (Value.int _ _)) _ _ _) | (with_reducible show wpAny _ _ (subscriptTail _ _ (Value.str _ _) _) _ _ _) | (with_reducible show wpAny _ _ (getMethod (Value.ref _) _ _) _ _ _) | (with_reducible show wpAny _ _ (call (Value.builtin "str.find") _) _ _ _) | (with_reducible show wpAny _ _ (pyIter (Value.ref _)) _ _ _)))); ((first | ((with_reducible show GrPost _ _ _ _ _ _ _ _ _ _ _ _ _); (dsimp only [GrPost])) | (k_unfold; (try dsimp only)) | (walk1 <;> (try dsimp only)) | (dsimp only; walk1) | (leave1; (try dsimp only)) | fail "no step"))))
            with_reducible rename (Fr _ _ _ _) => F19
            with_reducible rename (News _ _ _ _) => N19
            refine gr_end2 (rs' := stepR wd mm rs) F19 N19 l0 hdj hcode D5 D8 V8 dLt dL2 rfl hdig (by omega) hrl hi hit hoff fun z h1 h3 => ?_
            have e1 : z ≠ PySem.Str.ofString "given" := by
              intro e
              rw [e] at h3
              simp at h3
            have e2 : z ≠ PySem.Str.ofString "hit" := by
              intro e
              rw [e] at h3
              simp at h3
            have e3 : z ≠ PySem.Str.ofString "figure" := by
              intro e
              rw [e] at h3
              simp at h3
            simp only [h1, e1, e2, e3, h3, if_false, Bool.false_eq_true]
          · have hv0 : v = .ref q.2 := by rw [hvl]; simp [lastRef]
            subst hv0
            clear hvl
            refine isnot_ref_same ?_
            try dsimp only
            (repeat' ((fail_if_success ((first | (with_reducible show wpAny _ _ (exec (Stmt.Assign _ (PySem.Expr.ListComp _ _ _ _) _) _) _ _ _) | (with_reducible show wpAny _ _ (call (Value.ref _) _) _ _ _) | (with_reducible show wpAny _ _ (eval (PySem.Expr.ListComp _ _ _ _) _) _ _ _) | (with_reducible show wpAny _ _ (call (Value.builtin "bytes.decode") _) _ _ _) | (with_reducible show GrEnd _ _ _ _ _ _ _ _ _ _ _) | (with_reducible show LCt.CompSrcT _ _ _ _ _ _ _ _ _ _ _ _ _ _ _) | (with_reducible show LCg.CompSrc _ _ _ _ _ _ _ _ _ _ _ _ _ _) | (with_reducible show LCg.CompEnd _ _ _ _ _ _ _ _ _ _ _ _ _ _) | (with_reducible show wpAny _ _ (compareOp _ _ (Value.ref _)) _ _ _) | (with_reducible show wpAny _ _ (binaryOp _ (Value.ref _) (Value.ref _)) _ _ _) | (with_reducible show wpAny _ _ (subscriptTail _ _ (Value.ref _) (Value.ref _)) _ _ _) | (with_reducible show wpAny _ _ (subscriptTail _ _ (Value.ref _) (Value.int _ _)) _ _ _) | (with_reducible show wpAny _ _ (subscriptTail _ _ (Value.str _ _) _) _ _ _) | (with_reducible show wpAny _ _ (getMethod (Value.ref _) _ _) _ _ _) | (with_reducible show wpAny _ _ (call (Value.builtin "str.find") _) _ _ _) | (with_reducible show wpAny _ _ (pyIter (Value.ref _)) _ _ _)))); ((first | ((with_reducible show GrPost _ _ _ _ _ _ _ _ _ _ _ _ _); (dsimp only [GrPost])) | (k_unfold; (try dsimp only)) | (walk1 <;> (try dsimp only)) | (dsimp only; walk1) | (leave1; (try dsimp only)) | fail "no step"))))
            obtain ⟨av2, x1, x2, x3, x4, e', ⟨d', f1', f2', f3', c', t', ct1, ct2, ct3, q1, q2, q3, r1, r2, r3, HH⟩, hcs4⟩ := (hsok q (by simp)).2
            cases e'
            with_reducible rename (News _ _ _ _) => N13
            have HH2 := hit_up N13 HH fun p hp => .tail _ (.tail _ (full_mem p hp))
            have hcs5 := codes_up N13 hcs4 fun p hp => .tail _ (.tail _ (full_mem p hp))
            with_reducible rename (News _ _ _ _) => N20
            refine methStart N20 HH2 ?_
            try dsimp only
            refine callWith_F0 ⟨_, _, _, _, (N20 _ HH2.start).1⟩ ?_
            with_reducible rename (Fr _ _ _ _) => F20
            refine startT F20 N20 X' HH2 (hcs5.sub (by simp)) rfl (Nat.le_of_ble_eq_true rfl) (Nat.le_of_ble_eq_true rfl) ?_
            intro h21 tk21 F21 N21
            clear F20 N20
            try dsimp only
            (repeat' ((fail_if_success ((first | (with_reducible show wpAny _ _ (exec (Stmt.Assign _ (PySem.Expr.ListComp _ _ _ _) _) _) _ _ _) | (with_reducible show wpAny _ _ (call (Value.ref _) _) _ _ _) | (with_reducible show wpAny _ _ (eval (PySem.Expr.ListComp _ _ _ _) _) _ _ _) | (with_reducible show wpAny _ _ (call (Value.builtin "bytes.decode") _) _ _ _) | (with_reducible show GrEnd _ _ _ _ _ _ _ _ _ _ _) | (with_reducible show LCt.CompSrcT _ _ _ _ _ _ _ _ _ _ _ _ _ _ _) | (with_reducible show LCg.CompSrc _ _ _ _ _ _ _ _ _ _ _ _ _ _) | (with_reducible show LCg.CompEnd _ _ _ _ _ _ _ _ _ _ _ _ _ _) | (with_reducible show wpAny _ _ (compareOp _ _ (Value.ref _)) _ _ _) | (with_reducible show wpAny _ _ (binaryOp _ (Value.ref _) (Value.ref _)) _ _ _) | (with_reducible show wpAny _ _ (subscriptTail _ _ (Value.ref _) (Value.ref _)) _ _ _) | (with_reducible show wpAny _ _ (subscriptTail _ _ (Value.ref _) (Value.int _ _)) _ _ _) | (with_reducible show wpAny _ _ (subscriptTail _ _ (Value.str _ _) _) _ _ _) | (with_reducible show wpAny _ _ (getMethod (Value.ref _) _ _) _ _ _) | (with_reducible show wpAny _ _ (call (Value.builtin "str.find") _) _ _ _) | (with_reducible show wpAny _ _ (pyIter (Value.ref _)) _ _ _)))); ((first | ((with_reducible show GrPost _ _ _ _ _ _ _ _ _ _ _ _ _); (dsimp only [GrPost])) | (k_unfold; (try dsimp only)) | (walk1 <;> (try dsimp only)) | (dsimp only; walk1) | (leave1; (try dsimp only)) | fail "no step"))))
            refine item_str (x := txt lo rs) (s := ⟨_, _, _, _, _⟩) (fitsSsize_of (N := 9223372036854775808) (by omega) (by omega) (Int.le_refl _)) (by rw [txt_len]; omega) (by rw [txt_len]; omega) ?_
            intro _
            try dsimp only
            (repeat' ((fail_if_success ((first | (with_reducible show wpAny _ _ (exec (Stmt.Assign _ (PySem.Expr.ListComp _ _ _ _) _) _) _ _ _) | (with_reducible show wpAny _ _ (call (Value.ref _) _) _ _ _) | (with_reducible show wpAny _ _ (eval (PySem.Expr.ListComp _ _ _ _) _) _ _ _) | (with_reducible show wpAny _ _ (call (Value.builtin "bytes.decode") _) _ _ _) | (with_reducible show GrEnd _ _ _ _ _ _ _ _ _ _ _) | (with_reducible show LCt.CompSrcT _ _ _ _ _ _ _ _ _ _ _ _ _ _ _) | (with_reducible show LCg.CompSrc _ _ _ _ _ _ _ _ _ _ _ _ _ _) | (with_reducible show LCg.CompEnd _ _ _ _ _ _ _ _ _ _ _ _ _ _) | (with_reducible show wpAny _ _ (compareOp _ _ (Value.ref _)) _ _ _) | (with_reducible show wpAny _ _ (binaryOp _ (Value.ref _) (Value.ref _)) _ _ _) | (with_reducible show wpAny _ _ (subscriptTail _ _ (Value.ref _) (Value.ref _)) _ _ _) | (with_reducible show wpAny _ _ (subscriptTail _ _ (Value.ref _) (Value.int _ _)) _ _ _) | (with_reducible show wpAny _ _ (subscriptTail _ _ (Value.str _ _) _) _ _ _) | (with_reducible show wpAny _ _ (getMethod (Value.ref _) _ _) _ _ _) | (with_reducible show wpAny _ _ (call (Value.builtin "str.find") _) _ _ _) | (with_reducible show wpAny _ _ (pyIter (Value.ref _)) _ _ _)))); ((first | ((with_reducible show GrPost _ _ _ _ _ _ _ _ _ _ _ _ _); (dsimp only [GrPost])) | (k_unfold; (try dsimp only)) | (walk1 <;> (try dsimp only)) | (dsimp only; walk1) | (leave1; (try dsimp only)) | fail "no step"))))
            refine SC.find (s := ⟨_, _, _, _, _⟩) ?_
            rw [find_txt hlo2 hdig hq]
            try dsimp only
            (repeat' ((fail_if_success ((first | (with_reducible show wpAny _ _ (exec (Stmt.Assign _ (PySem.Expr.ListComp _ _ _ _) _) _) _ _ _) | (with_reducible show wpAny _ _ (call (Value.ref _) _) _ _ _) | (with_reducible show wpAny _ _ (eval (PySem.Expr.ListComp _ _ _ _) _) _ _ _) | (with_reducible show wpAny _ _ (call (Value.builtin "bytes.decode") _) _ _ _) | (with_reducible show GrEnd _ _ _ _ _ _ _ _ _ _ _) | (with_reducible show LCt.CompSrcT _ _ _ _ _ _ _ _ _ _ _ _ _ _ _) | (with_reducible show LCg.CompSrc _ _ _ _ _ _ _ _ _ _ _ _ _ _) | (with_reducible show LCg.CompEnd _ _ _ _ _ _ _ _ _ _ _ _ _ _) | (with_reducible show wpAny _ _ (compareOp _ _ (Value.ref _)) _ _ _) | (with_reducible show wpAny _ _ (binaryOp _ (Value.ref _) (Value.ref _)) _ _ _) | (with_reducible show wpAny _ _ (subscriptTail _ _ (Value.ref _) (Value.ref _)) _ _ _) | (with_reducible show wpAny _ _ (subscriptTail _ _ (Value.ref _) (Value.int _ _)) _ _ _) | (with_reducible show wpAny _ _ (subscriptTail _ _ (Value.str _ _) _) _ _ _) | (with_reducible show wpAny _ _ (getMethod (Value.ref _) _ _) _ _ _) | (with_reducible show wpAny _ _ (call (Value.builtin "str.find") _) _ _ _) | (with_reducible show wpAny _ _ (pyIter (Value.ref _)) _ _ _)))); ((first | ((with_reducible show GrPost _ _ _ _ _ _ _ _ _ _ _ _ _); (dsimp only [GrPost])) | (k_unfold; (try dsimp only)) | (walk1 <;> (try dsimp only)) | (dsimp only; walk1) | (leave1; (try dsimp only)) | fail "no step"))))
            with_reducible rename (Fr _ _ _ _) => F31
            with_reducible rename (News _ _ _ _) => N31
            refine nextT _ _ _ _ _ _ _ _ _ _ _ _ _ 302 7 (some []) _ _ _ _ _ [] _ _ _ _ _ _ _ _ B' F31 X' N31 T' rfl (by omega) (by decide) (by decide) ?_
            rintro v30 news30 h30 tk30 F30 N30 ⟨rfl, t30, rfl⟩
            clear F31 N31
            have hnx : nextR wd mm rs = (rs[rs.length - 1 - q.1] + 1) % mm := by unfold nextR; rw [hsc]
            have hfig : (lo : Int) + (((lo + rs[rs.length - 1 - q.1] : Nat) : Int) - (lo : Int) + 1).fmod ((mm : Nat) : Int) = ((encR lo [nextR wd mm rs] : Nat) : Int) := by
              rw [hnx, next_eq rfl rfl]; simp [encR]
            have hd1 : Dig mm [nextR wd mm rs] := fun d hd => by
              rw [List.mem_singleton] at hd
              subst hd
              exact nextR_lt (by omega)
            try dsimp only
            (repeat' ((fail_if_success ((first | (with_reducible show wpAny _ _ (exec (Stmt.Assign _ (PySem.Expr.ListComp _ _ _ _) _) _) _ _ _) | (with_reducible show wpAny _ _ (call (Value.ref _) _) _ _ _) | (with_reducible show wpAny _ _ (eval (PySem.Expr.ListComp _ _ _ _) _) _ _ _) | (with_reducible show wpAny _ _ (call (Value.builtin "bytes.decode") _) _ _ _) | (with_reducible show GrEnd _ _ _ _ _ _ _ _ _ _ _) | (with_reducible show LCt.CompSrcT _ _ _ _ _ _ _ _ _ _ _ _ _ _ _) | (with_reducible show LCg.CompSrc _ _ _ _ _ _ _ _ _ _ _ _ _ _) | (with_reducible show LCg.CompEnd _ _ _ _ _ _ _ _ _ _ _ _ _ _) | (with_reducible show wpAny _ _ (compareOp _ _ (Value.ref _)) _ _ _) | (with_reducible show wpAny _ _ (binaryOp _ (Value.ref _) (Value.ref _)) _ _ _) | (with_reducible show wpAny _ _ (subscriptTail _ _ (Value.ref _) (Value.ref _)) _ _ _) | (with_reducible show wpAny _ _ (subscriptTail _ _ (Value.ref _) (Value.int _ _)) _ _ _) | (with_reducible show wpAny _ _ (subscriptTail _ _ (Value.str _ _) _) _ _ _) | (with_reducible show wpAny _ _ (getMethod (Value.ref _) _ _) _ _ _) | (with_reducible show wpAny _ _ (call (Value.builtin "str.find") _) _ _ _) | (with_reducible show wpAny _ _ (pyIter (Value.ref _)) _ _ _)))); ((first | ((with_reducible show GrPost _ _ _ _ _ _ _ _ _ _ _ _ _); (dsimp only [GrPost])) | (k_unfold; (try dsimp only)) | (walk1 <;> (try dsimp only)) | (dsimp only; walk1) | (leave1; (try dsimp only)) | fail "no step"))))
            with_reducible rename (Fr _ _ _ _) => F14
            with_reducible rename (News _ _ _ _) => N14
            refine int2ap _ _ _ _ _ _ _ _ _ 302 7 (some []) _ _ _ _ _ [] _ _ _ _ _ _ _ _ B' F14 X' N14 T' rfl ?_ (by decide) (by decide) ?_
            · rw [hfig, Int.natAbs_natCast]
              exact enc_lt hlo2 hd1 (by simp)
            rintro v15 news15 h15 tk15 F15 N15 ⟨rfl, tb, hv15⟩
            rw [hfig] at hv15
            subst hv15
            clear F14 N14
            try dsimp only
            (repeat' ((fail_if_success ((first | (with_reducible show wpAny _ _ (exec (Stmt.Assign _ (PySem.Expr.ListComp _ _ _ _) _) _) _ _ _) | (with_reducible show wpAny _ _ (call (Value.ref _) _) _ _ _) | (with_reducible show wpAny _ _ (eval (PySem.Expr.ListComp _ _ _ _) _) _ _ _) | (with_reducible show wpAny _ _ (call (Value.builtin "bytes.decode") _) _ _ _) | (with_reducible show GrEnd _ _ _ _ _ _ _ _ _ _ _) | (with_reducible show LCt.CompSrcT _ _ _ _ _ _ _ _ _ _ _ _ _ _ _) | (with_reducible show LCg.CompSrc _ _ _ _ _ _ _ _ _ _ _ _ _ _) | (with_reducible show LCg.CompEnd _ _ _ _ _ _ _ _ _ _ _ _ _ _) | (with_reducible show wpAny _ _ (compareOp _ _ (Value.ref _)) _ _ _) | (with_reducible show wpAny _ _ (binaryOp _ (Value.ref _) (Value.ref _)) _ _ _) | (with_reducible show wpAny _ _ (subscriptTail _ _ (Value.ref _) (Value.ref _)) _ _ _) | (with_reducible show wpAny _ _ (subscriptTail _ _ (Value.ref _) (Value.int _ _)) _ _ _) | (with_reducible show wpAny _ _ (subscriptTail _ _ (Value.str _ _) _) _ _ _) | (with_reducible show wpAny _ _ (getMethod (Value.ref _) _ _) _ _ _) | (with_reducible show wpAny _ _ (call (Value.builtin "str.find") _) _ _ _) | (with_reducible show wpAny _ _ (pyIter (Value.ref _)) _ _ _)))); ((first | ((with_reducible show GrPost _ _ _ _ _ _ _ _ _ _ _ _ _); (dsimp only [GrPost])) | (k_unfold; (try dsimp only)) | (walk1 <;> (try dsimp only)) | (dsimp only; walk1) | (leave1; (try dsimp only)) | fail "no step"))))
            refine CD.decode (s := ⟨_, _, _, _, _⟩) (ap_ne hlo1 hlo2 hd1 (by simp)) (ap_small hlo1 hlo2 hd1) (ap_size hlo2 hd1 (by simp)) ?_
            intro tq kq
            rw [ap_txt hlo1 hlo2 hd1]
            try dsimp only
            (repeat' ((fail_if_success ((first | (with_reducible show wpAny _ _ (exec (Stmt.Assign _ (PySem.Expr.ListComp _ _ _ _) _) _) _ _ _) | (with_reducible show wpAny _ _ (call (Value.ref _) _) _ _ _) | (with_reducible show wpAny _ _ (eval (PySem.Expr.ListComp _ _ _ _) _) _ _ _) | (with_reducible show wpAny _ _ (call (Value.builtin "bytes.decode") _) _ _ _) | (with_reducible show GrEnd _ _ _ _ _ _ _ _ _ _ _) | (with_reducible show LCt.CompSrcT _ _ _ _ _ _ _ _ _ _ _ _ _ _ _) | (with_reducible show LCg.CompSrc _ _ _ _ _ _ _ _ _ _ _ _ _ _) | (with_reducible show LCg.CompEnd _ _ _ _ _ _ _ _ _ _ _ _ _ _) | (with_reducible show wpAny _ _ (compareOp _ _ (Value.ref _)) _ _ _) | (with_reducible show wpAny _ _ (binaryOp _ (Value.ref _) (Value.ref _)) _ _ _) | (with_reducible show wpAny _ _ (subscriptTail _ _ (Value.ref _) (Value.ref _)) _ _ _) | (with_reducible show wpAny _ _ (subscriptTail _ _ (Value.ref _) (Value.int _ _)) _ _ _) | (with_reducible show wpAny _ _ (subscriptTail _ _ (Value.str _ _) _) _ _ _) | (with_reducible show wpAny _ _ (getMethod (Value.ref _) _ _) _ _ _) | (with_reducible show wpAny _ _ (call (Value.builtin "str.find") _) _ _ _) | (with_reducible show wpAny _ _ (pyIter (Value.ref _)) _ _ _)))); ((first | ((with_reducible show GrPost _ _ _ _ _ _ _ _ _ _ _ _ _); (dsimp only [GrPost])) | (k_unfold; (try dsimp only)) | (walk1 <;> (try dsimp only)) | (dsimp only; walk1) | (leave1; (try dsimp only)) | fail "no step"))))
            refine PyProof.Rows.iadd_str (s := ⟨_, _, _, _, _⟩) ?_ (hsz := by rw [txt_len, txt_len, sizeLine_eq]; simp; omega)
            intro tl2 kl2
            rw [txt_cat]
            try dsimp only
            (repeat' ((fail_if_success ((first | (with_reducible show wpAny _ _ (exec (Stmt.Assign _ (PySem.Expr.ListComp _ _ _ _) _) _) _ _ _) | (with_reducible show wpAny _ _ (call (Value.ref _) _) _ _ _) | (with_reducible show wpAny _ _ (eval (PySem.Expr.ListComp _ _ _ _) _) _ _ _) | (with_reducible show wpAny _ _ (call (Value.builtin "bytes.decode") _) _ _ _) | (with_reducible show GrEnd _ _ _ _ _ _ _ _ _ _ _) | (with_reducible show LCt.CompSrcT _ _ _ _ _ _ _ _ _ _ _ _ _ _ _) | (with_reducible show LCg.CompSrc _ _ _ _ _ _ _ _ _ _ _ _ _ _) | (with_reducible show LCg.CompEnd _ _ _ _ _ _ _ _ _ _ _ _ _ _) | (with_reducible show wpAny _ _ (compareOp _ _ (Value.ref _)) _ _ _) | (with_reducible show wpAny _ _ (binaryOp _ (Value.ref _) (Value.ref _)) _ _ _) | (with_reducible show wpAny _ _ (subscriptTail _ _ (Value.ref _) (Value.ref _)) _ _ _) | (with_reducible show wpAny _ _ (subscriptTail _ _ (Value.ref _) (Value.int _ _)) _ _ _) | (with_reducible show wpAny _ _ (subscriptTail _ _ (Value.str _ _) _) _ _ _) | (with_reducible show wpAny _ _ (getMethod (Value.ref _) _ _) _ _ _) | (with_reducible show wpAny _ _ (call (Value.builtin "str.find") _) _ _ _) | (with_reducible show wpAny _ _ (pyIter (Value.ref _)) _ _ _)))); ((first | ((with_reducible show GrPost _ _ _ _ _ _ _ _ _ _ _ _ _); (dsimp only [GrPost])) | (k_unfold; (try dsimp only)) | (walk1 <;> (try dsimp only)) | (dsimp only; walk1) | (leave1; (try dsimp only)) | fail "no step"))))
            with_reducible rename (Fr _ _ _ _) => F16
            with_reducible rename (News _ _ _ _) => N16
            have N17 := led_turn (fun p hp => N16 p (.tail _ (.tail _ hp)))
            refine storeX_C (o := oL) F16 N17 rfl (UpdF.head (off_turn l0 hdj D5 D8 hoff)) dLt ?_
            intro h18 oL2 F18 N18 dL2
            clear F16 N16 N17
            try dsimp only
            (repeat' ((fail_if_success ((first | (with_reducible show wpAny _ _ (exec (Stmt.Assign _ (PySem.Expr.ListComp _ _ _ _) _) _) _ _ _) | (with_reducible show wpAny _ _ (call (Value.ref _) _) _ _ _) | (with_reducible show wpAny _ _ (eval (PySem.Expr.ListComp _ _ _ _) _) _ _ _) | (with_reducible show wpAny _ _ (call (Value.builtin "bytes.decode") _) _ _ _) | (with_reducible show GrEnd _ _ _ _ _ _ _ _ _ _ _) | (with_reducible show LCt.CompSrcT _ _ _ _ _ _ _ _ _ _ _ _ _ _ _) | (with_reducible show LCg.CompSrc _ _ _ _ _ _ _ _ _ _ _ _ _ _) | (with_reducible show LCg.CompEnd _ _ _ _ _ _ _ _ _ _ _ _ _ _) | (with_reducible show wpAny _ _ (compareOp _ _ (Value.ref _)) _ _ _) | (with_reducible show wpAny _ _ (binaryOp _ (Value.ref _) (Value.ref _)) _ _ _) | (with_reducible show wpAny _ _ (subscriptTail _ _ (Value.ref _) (Value.ref _)) _ _ _) | (with_reducible show wpAny _ _ (subscriptTail _ _ (Value.ref _) (Value.int _ _)) _ _ _) | (with_reducible show wpAny _ _ (subscriptTail _ _ (Value.str _ _) _) _ _ _) | (with_reducible show wpAny _ _ (getMethod (Value.ref _) _ _) _ _ _) | (with_reducible show wpAny _ _ (call (Value.builtin "str.find") _) _ _ _) | (with_reducible show wpAny _ _ (pyIter (Value.ref _)) _ _ _)))); ((first | ((with_reducible show GrPost _ _ _ _ _ _ _ _ _ _ _ _ _); (dsimp only [GrPost])) | (k_unfold; (try dsimp only)) | (walk1 <;> (try dsimp only)) | (dsimp only; walk1) | (leave1; (try dsimp only)) | fail "no step"))))
            with_reducible rename (Fr _ _ _ _) => F19
            with_reducible rename (News _ _ _ _) => N19
            refine gr_end2 (rs' := stepR wd mm rs) F19 N19 l0 hdj hcode D5 D8 V8 dLt dL2 rfl hdig (by omega) hrl hi hit hoff fun z h1 h3 => ?_
            have e1 : z ≠ PySem.Str.ofString "given" := by
              intro e
              rw [e] at h3
              simp at h3
            have e2 : z ≠ PySem.Str.ofString "hit" := by
              intro e
              rw [e] at h3
              simp at h3
            have e3 : z ≠ PySem.Str.ofString "figure" := by
              intro e
              rw [e] at h3
              simp at h3
            simp only [h1, e1, e2, e3, h3, if_false, Bool.false_eq_true]
      · intro oL tl2 ps qs led u h tk dL2 hdigR hlenR F2 N2
        refine wp_postE fun E₃ _ => ?_
        have N3 := drop_led N2
        clear N2
        obtain ⟨R, hR⟩ : ∃ R, R = iterR wd mm st rs := ⟨_, rfl⟩
        rw [← hR] at dL2 hdigR hlenR
        try dsimp only
        (repeat' ((fail_if_success ((first | (with_reducible show wpAny _ _ (exec (Stmt.Assign _ (PySem.Expr.ListComp _ _ _ _) _) _) _ _ _) | (with_reducible show wpAny _ _ (call (Value.ref _) _) _ _ _) | (with_reducible show wpAny _ _ (call (Value.type "set") _) _ _ _) | (with_reducible show wpAny _ _ (call (Value.builtin "len") [Value.ref _]) _ _ _) | (with_reducible show wpAny _ _ (eval (PySem.Expr.ListComp _ _ _ _) _) _ _ _) | (with_reducible show wpAny _ _ (call (Value.builtin "bytes.decode") _) _ _ _) | (with_reducible show GrEnd _ _ _ _ _ _ _ _ _ _ _) | (with_reducible show LCt.CompSrcT _ _ _ _ _ _ _ _ _ _ _ _ _ _ _) | (with_reducible show LCg.CompSrc _ _ _ _ _ _ _ _ _ _ _ _ _ _) | (with_reducible show LCg.CompEnd _ _ _ _ _ _ _ _ _ _ _ _ _ _) | (with_reducible show wpAny _ _ (compareOp _ _ (Value.ref _)) _ _ _) | (with_reducible show wpAny _ _ (binaryOp _ (Value.ref _) (Value.ref _)) _ _ _) | (with_reducible show wpAny _ _ (subscriptTail _ _ (Value.ref _) (Value.ref _)) _ _ _) | (with_reducible show wpAny _ _ (subscriptTail _ _ (Value.ref _) (Value.int _ _)) _ _ _) | (with_reducible show wpAny _ _ (subscriptTail _ _ (Value.str _ _) _) _ _ _) | (with_reducible show wpAny _ _ (getMethod (Value.ref _) _ _) _ _ _) | (with_reducible show wpAny _ _ (call (Value.builtin "str.find") _) _ _ _) | (with_reducible show wpAny _ _ (pyIter (Value.ref _)) _ _ _)))); ((first | ((with_reducible show GrPost _ _ _ _ _ _ _ _ _ _ _ _ _); (dsimp only [GrPost])) | (k_unfold; (try dsimp only)) | (walk1 <;> (try dsimp only)) | (dsimp only; walk1) | (leave1; (try dsimp only)) | fail "no step"))))
        have hrgst : rg ≤ st := by rw [hst]; exact Nat.le_mul_of_pos_right _ (Nat.succ_pos _)
        have hjl : rg + wd ≤ R.length := by omega
        with_reducible rename (Fr _ _ _ _) => F3
        with_reducible rename (News _ _ _ _) => N4
        refine slice_strN_sn (hsz := by rw [txt_len, sizeLine_eq]; omega) (s := ⟨_, _, _, _, _⟩) F3 N4 ?_
        intro h5 t5 k5 F5 N5
        rw [slice_txt_neg (j := rg + wd) (by omega) (by omega) hjl]
        obtain ⟨T2, hT2⟩ : ∃ T2, T2 = R.take (rg + wd) := ⟨_, rfl⟩
        have hTl : T2.length = rg + wd := by rw [hT2, List.length_take]; omega
        rw [← hT2]
        clear F3 N4
        try dsimp only
        (repeat' ((fail_if_success ((first | (with_reducible show wpAny _ _ (exec (Stmt.Assign _ (PySem.Expr.ListComp _ _ _ _) _) _) _ _ _) | (with_reducible show wpAny _ _ (call (Value.ref _) _) _ _ _) | (with_reducible show wpAny _ _ (call (Value.type "set") _) _ _ _) | (with_reducible show wpAny _ _ (call (Value.builtin "len") [Value.ref _]) _ _ _) | (with_reducible show wpAny _ _ (eval (PySem.Expr.ListComp _ _ _ _) _) _ _ _) | (with_reducible show wpAny _ _ (call (Value.builtin "bytes.decode") _) _ _ _) | (with_reducible show GrEnd _ _ _ _ _ _ _ _ _ _ _) | (with_reducible show LCt.CompSrcT _ _ _ _ _ _ _ _ _ _ _ _ _ _ _) | (with_reducible show LCg.CompSrc _ _ _ _ _ _ _ _ _ _ _ _ _ _) | (with_reducible show LCg.CompEnd _ _ _ _ _ _ _ _ _ _ _ _ _ _) | (with_reducible show wpAny _ _ (compareOp _ _ (Value.ref _)) _ _ _) | (with_reducible show wpAny _ _ (binaryOp _ (Value.ref _) (Value.ref _)) _ _ _) | (with_reducible show wpAny _ _ (subscriptTail _ _ (Value.ref _) (Value.ref _)) _ _ _) | (with_reducible show wpAny _ _ (subscriptTail _ _ (Value.ref _) (Value.int _ _)) _ _ _) | (with_reducible show wpAny _ _ (subscriptTail _ _ (Value.str _ _) _) _ _ _) | (with_reducible show wpAny _ _ (getMethod (Value.ref _) _ _) _ _ _) | (with_reducible show wpAny _ _ (call (Value.builtin "str.find") _) _ _ _) | (with_reducible show wpAny _ _ (pyIter (Value.ref _)) _ _ _)))); ((first | ((with_reducible show GrPost _ _ _ _ _ _ _ _ _ _ _ _ _); (dsimp only [GrPost])) | (k_unfold; (try dsimp only)) | (walk1 <;> (try dsimp only)) | (dsimp only; walk1) | (leave1; (try dsimp only)) | fail "no step"))))
        refine LCg.ListComp_U (F₀ := by assumption) (by with_unfolding_all rfl) (by decide) (by rfl) (by decide) (by rfl) ?_
        (repeat' ((fail_if_success ((first | (with_reducible show wpAny _ _ (exec (Stmt.Assign _ (PySem.Expr.ListComp _ _ _ _) _) _) _ _ _) | (with_reducible show wpAny _ _ (call (Value.ref _) _) _ _ _) | (with_reducible show wpAny _ _ (call (Value.type "set") _) _ _ _) | (with_reducible show wpAny _ _ (call (Value.builtin "len") [Value.ref _]) _ _ _) | (with_reducible show wpAny _ _ (eval (PySem.Expr.ListComp _ _ _ _) _) _ _ _) | (with_reducible show wpAny _ _ (call (Value.builtin "bytes.decode") _) _ _ _) | (with_reducible show GrEnd _ _ _ _ _ _ _ _ _ _ _) | (with_reducible show LCt.CompSrcT _ _ _ _ _ _ _ _ _ _ _ _ _ _ _) | (with_reducible show LCg.CompSrc _ _ _ _ _ _ _ _ _ _ _ _ _ _) | (with_reducible show LCg.CompEnd _ _ _ _ _ _ _ _ _ _ _ _ _ _) | (with_reducible show wpAny _ _ (compareOp _ _ (Value.ref _)) _ _ _) | (with_reducible show wpAny _ _ (binaryOp _ (Value.ref _) (Value.ref _)) _ _ _) | (with_reducible show wpAny _ _ (subscriptTail _ _ (Value.ref _) (Value.ref _)) _ _ _) | (with_reducible show wpAny _ _ (subscriptTail _ _ (Value.ref _) (Value.int _ _)) _ _ _) | (with_reducible show wpAny _ _ (subscriptTail _ _ (Value.str _ _) _) _ _ _) | (with_reducible show wpAny _ _ (getMethod (Value.ref _) _ _) _ _ _) | (with_reducible show wpAny _ _ (call (Value.builtin "str.find") _) _ _ _) | (with_reducible show wpAny _ _ (pyIter (Value.ref _)) _ _ _)))); ((first | ((with_reducible show GrPost _ _ _ _ _ _ _ _ _ _ _ _ _); (dsimp only [GrPost])) | (k_unfold; (try dsimp only)) | (walk1 <;> (try dsimp only)) | (dsimp only; walk1) | (leave1; (try dsimp only)) | fail "no step"))))
        refine LCg.CompSrc.range (n := rg) rfl (by assumption) (by assumption) (by assumption) (small_one (by omega) (by omega) (by omega) (by omega)) (by rw [rangeSize_nat]; try omega) (by rw [sizeLine_eq]; omega) ?_
        intro g9
        refine restU_fix (fun i' ys' => ys'.length = i' ∧ ∀ j, j < i' → ∃ t, ys'[j]? = some (.str (txt lo (win wd rg T2 j)) t)) rg ⟨rfl, fun j hj => absurd hj (Nat.not_lt_zero _)⟩ ?_ ?_
        · rintro i' ys' v' I oI C oC D9 m₂ h7 tk7 E' hi' ⟨hyl, hyj⟩ ⟨_, rfl⟩ hC hx F11 N11 off ne
          try dsimp only
          (repeat' ((fail_if_success ((first | (with_reducible show wpAny _ _ (exec (Stmt.Assign _ (PySem.Expr.ListComp _ _ _ _) _) _) _ _ _) | (with_reducible show wpAny _ _ (call (Value.ref _) _) _ _ _) | (with_reducible show wpAny _ _ (call (Value.type "set") _) _ _ _) | (with_reducible show wpAny _ _ (call (Value.builtin "len") [Value.ref _]) _ _ _) | (with_reducible show wpAny _ _ (eval (PySem.Expr.ListComp _ _ _ _) _) _ _ _) | (with_reducible show wpAny _ _ (call (Value.builtin "bytes.decode") _) _ _ _) | (with_reducible show GrEnd _ _ _ _ _ _ _ _ _ _ _) | (with_reducible show LCt.CompSrcT _ _ _ _ _ _ _ _ _ _ _ _ _ _ _) | (with_reducible show LCg.CompSrc _ _ _ _ _ _ _ _ _ _ _ _ _ _) | (with_reducible show LCg.CompEnd _ _ _ _ _ _ _ _ _ _ _ _ _ _) | (with_reducible show wpAny _ _ (compareOp _ _ (Value.ref _)) _ _ _) | (with_reducible show wpAny _ _ (binaryOp _ (Value.ref _) (Value.ref _)) _ _ _) | (with_reducible show wpAny _ _ (subscriptTail _ _ (Value.ref _) (Value.ref _)) _ _ _) | (with_reducible show wpAny _ _ (subscriptTail _ _ (Value.ref _) (Value.int _ _)) _ _ _) | (with_reducible show wpAny _ _ (subscriptTail _ _ (Value.str _ _) _) _ _ _) | (with_reducible show wpAny _ _ (getMethod (Value.ref _) _ _) _ _ _) | (with_reducible show wpAny _ _ (call (Value.builtin "str.find") _) _ _ _) | (with_reducible show wpAny _ _ (pyIter (Value.ref _)) _ _ _)))); ((first | ((with_reducible show GrPost _ _ _ _ _ _ _ _ _ _ _ _ _); (dsimp only [GrPost])) | (k_unfold; (try dsimp only)) | (walk1 <;> (try dsimp only)) | (dsimp only; walk1) | (leave1; (try dsimp only)) | fail "no step"))))
          with_reducible rename (Fr _ _ _ _) => F12
          with_reducible rename (News _ _ _ _) => N12
          refine slice_strN_ss (hsz := by rw [txt_len, sizeLine_eq]; omega) (s := ⟨_, _, _, _, _⟩) F12 N12 ?_
          intro h13 t13 k13 F13 N13
          have hsl : Txt.slice (txt lo T2) (some (0 + (i' : Int))) (some (0 + (i' : Int) + (wd : Int) + 1)) = txt lo (win wd rg T2 i') := by
            rw [show (0 : Int) + (i' : Int) = ((i' : Nat) : Int) by omega, show ((i' : Nat) : Int) + (wd : Int) + 1 = ((i' + wd + 1 : Nat) : Int) by omega, slice_txt (by omega) (by omega)]
            unfold win
            rw [hTl, show rg + wd - (i' + wd + 1) = rg - 1 - i' by omega, show i' + wd + 1 - i' = wd + 1 by omega]
          rw [hsl]
          clear F12 N12
          try dsimp only
          (repeat' ((fail_if_success ((first | (with_reducible show wpAny _ _ (exec (Stmt.Assign _ (PySem.Expr.ListComp _ _ _ _) _) _) _ _ _) | (with_reducible show wpAny _ _ (call (Value.ref _) _) _ _ _) | (with_reducible show wpAny _ _ (call (Value.type "set") _) _ _ _) | (with_reducible show wpAny _ _ (call (Value.builtin "len") [Value.ref _]) _ _ _) | (with_reducible show wpAny _ _ (eval (PySem.Expr.ListComp _ _ _ _) _) _ _ _) | (with_reducible show wpAny _ _ (call (Value.builtin "bytes.decode") _) _ _ _) | (with_reducible show GrEnd _ _ _ _ _ _ _ _ _ _ _) | (with_reducible show LCt.CompSrcT _ _ _ _ _ _ _ _ _ _ _ _ _ _ _) | (with_reducible show LCg.CompSrc _ _ _ _ _ _ _ _ _ _ _ _ _ _) | (with_reducible show LCg.CompEnd _ _ _ _ _ _ _ _ _ _ _ _ _ _) | (with_reducible show wpAny _ _ (compareOp _ _ (Value.ref _)) _ _ _) | (with_reducible show wpAny _ _ (binaryOp _ (Value.ref _) (Value.ref _)) _ _ _) | (with_reducible show wpAny _ _ (subscriptTail _ _ (Value.ref _) (Value.ref _)) _ _ _) | (with_reducible show wpAny _ _ (subscriptTail _ _ (Value.ref _) (Value.int _ _)) _ _ _) | (with_reducible show wpAny _ _ (subscriptTail _ _ (Value.str _ _) _) _ _ _) | (with_reducible show wpAny _ _ (getMethod (Value.ref _) _ _) _ _ _) | (with_reducible show wpAny _ _ (call (Value.builtin "str.find") _) _ _ _) | (with_reducible show wpAny _ _ (pyIter (Value.ref _)) _ _ _)))); ((first | ((with_reducible show GrPost _ _ _ _ _ _ _ _ _ _ _ _ _); (dsimp only [GrPost])) | (k_unfold; (try dsimp only)) | (walk1 <;> (try dsimp only)) | (dsimp only; walk1) | (leave1; (try dsimp only)) | fail "no step"))))
          exact LCg.CompEnd.intro F13 N13 _ (fun p hp => hp) off trivial ⟨rfl, by simp [hyl], strs_snoc hyl hyj⟩
        · rintro ys' ⟨hyl, hyj⟩ D9 h7 tk7 F11 N11 o17
          try dsimp only
          (repeat' ((fail_if_success ((first | (with_reducible show wpAny _ _ (exec (Stmt.Assign _ (PySem.Expr.ListComp _ _ _ _) _) _) _ _ _) | (with_reducible show wpAny _ _ (call (Value.ref _) _) _ _ _) | (with_reducible show wpAny _ _ (call (Value.type "set") _) _ _ _) | (with_reducible show wpAny _ _ (call (Value.builtin "len") [Value.ref _]) _ _ _) | (with_reducible show wpAny _ _ (eval (PySem.Expr.ListComp _ _ _ _) _) _ _ _) | (with_reducible show wpAny _ _ (call (Value.builtin "bytes.decode") _) _ _ _) | (with_reducible show GrEnd _ _ _ _ _ _ _ _ _ _ _) | (with_reducible show LCt.CompSrcT _ _ _ _ _ _ _ _ _ _ _ _ _ _ _) | (with_reducible show LCg.CompSrc _ _ _ _ _ _ _ _ _ _ _ _ _ _) | (with_reducible show LCg.CompEnd _ _ _ _ _ _ _ _ _ _ _ _ _ _) | (with_reducible show wpAny _ _ (compareOp _ _ (Value.ref _)) _ _ _) | (with_reducible show wpAny _ _ (binaryOp _ (Value.ref _) (Value.ref _)) _ _ _) | (with_reducible show wpAny _ _ (subscriptTail _ _ (Value.ref _) (Value.ref _)) _ _ _) | (with_reducible show wpAny _ _ (subscriptTail _ _ (Value.ref _) (Value.int _ _)) _ _ _) | (with_reducible show wpAny _ _ (subscriptTail _ _ (Value.str _ _) _) _ _ _) | (with_reducible show wpAny _ _ (getMethod (Value.ref _) _ _) _ _ _) | (with_reducible show wpAny _ _ (call (Value.builtin "str.find") _) _ _ _) | (with_reducible show wpAny _ _ (pyIter (Value.ref _)) _ _ _)))); ((first | ((with_reducible show GrPost _ _ _ _ _ _ _ _ _ _ _ _ _); (dsimp only [GrPost])) | (k_unfold; (try dsimp only)) | (walk1 <;> (try dsimp only)) | (dsimp only; walk1) | (leave1; (try dsimp only)) | fail "no step"))))
          have hpl := plain2 hcase hsz1 (by omega) hdig hrl hrge hst (hR ▸ hT2)
          have hsz5 : ys'.toArray.size = rg := by simp [hyl]
          refine set_new_K (knd := PySem.strKind _ _) (val := fun j => txt lo (win wd rg T2 j)) (s := ⟨_, _, _, _, _⟩) rfl F11 N11 ⟨_, (N11 _ (.head _)).1, rfl, _, rfl⟩ (strs_key hyl hyj) (fun a b hab hb e => hpl.1 a b hab (by omega) (txt_inj.mp e)) (by unfold scanBound; omega) ?_
          intro h15 tk15 DS F15 N15 hS
          clear F11 N11
          rw [hsz5] at hS
          try dsimp only
          (repeat' ((fail_if_success ((first | (with_reducible show wpAny _ _ (exec (Stmt.Assign _ (PySem.Expr.ListComp _ _ _ _) _) _) _ _ _) | (with_reducible show wpAny _ _ (call (Value.ref _) _) _ _ _) | (with_reducible show wpAny _ _ (call (Value.type "set") _) _ _ _) | (with_reducible show wpAny _ _ (call (Value.builtin "len") [Value.ref _]) _ _ _) | (with_reducible show wpAny _ _ (eval (PySem.Expr.ListComp _ _ _ _) _) _ _ _) | (with_reducible show wpAny _ _ (call (Value.builtin "bytes.decode") _) _ _ _) | (with_reducible show GrEnd _ _ _ _ _ _ _ _ _ _ _) | (with_reducible show LCt.CompSrcT _ _ _ _ _ _ _ _ _ _ _ _ _ _ _) | (with_reducible show LCg.CompSrc _ _ _ _ _ _ _ _ _ _ _ _ _ _) | (with_reducible show LCg.CompEnd _ _ _ _ _ _ _ _ _ _ _ _ _ _) | (with_reducible show wpAny _ _ (compareOp _ _ (Value.ref _)) _ _ _) | (with_reducible show wpAny _ _ (binaryOp _ (Value.ref _) (Value.ref _)) _ _ _) | (with_reducible show wpAny _ _ (subscriptTail _ _ (Value.ref _) (Value.ref _)) _ _ _) | (with_reducible show wpAny _ _ (subscriptTail _ _ (Value.ref _) (Value.int _ _)) _ _ _) | (with_reducible show wpAny _ _ (subscriptTail _ _ (Value.str _ _) _) _ _ _) | (with_reducible show wpAny _ _ (getMethod (Value.ref _) _ _) _ _ _) | (with_reducible show wpAny _ _ (call (Value.builtin "str.find") _) _ _ _) | (with_reducible show wpAny _ _ (pyIter (Value.ref _)) _ _ _)))); ((first | ((with_reducible show GrPost _ _ _ _ _ _ _ _ _ _ _ _ _); (dsimp only [GrPost])) | (k_unfold; (try dsimp only)) | (walk1 <;> (try dsimp only)) | (dsimp only; walk1) | (leave1; (try dsimp only)) | fail "no step"))))
          refine len_set_K (s := ⟨_, _, _, _, _⟩) hS (by omega) ?_
          try dsimp only
          (repeat' ((fail_if_success ((first | (with_reducible show wpAny _ _ (exec (Stmt.Assign _ (PySem.Expr.ListComp _ _ _ _) _) _) _ _ _) | (with_reducible show wpAny _ _ (call (Value.ref _) _) _ _ _) | (with_reducible show wpAny _ _ (call (Value.type "set") _) _ _ _) | (with_reducible show wpAny _ _ (call (Value.builtin "len") [Value.ref _]) _ _ _) | (with_reducible show wpAny _ _ (eval (PySem.Expr.ListComp _ _ _ _) _) _ _ _) | (with_reducible show wpAny _ _ (call (Value.builtin "bytes.decode") _) _ _ _) | (with_reducible show GrEnd _ _ _ _ _ _ _ _ _ _ _) | (with_reducible show LCt.CompSrcT _ _ _ _ _ _ _ _ _ _ _ _ _ _ _) | (with_reducible show LCg.CompSrc _ _ _ _ _ _ _ _ _ _ _ _ _ _) | (with_reducible show LCg.CompEnd _ _ _ _ _ _ _ _ _ _ _ _ _ _) | (with_reducible show wpAny _ _ (compareOp _ _ (Value.ref _)) _ _ _) | (with_reducible show wpAny _ _ (binaryOp _ (Value.ref _) (Value.ref _)) _ _ _) | (with_reducible show wpAny _ _ (subscriptTail _ _ (Value.ref _) (Value.ref _)) _ _ _) | (with_reducible show wpAny _ _ (subscriptTail _ _ (Value.ref _) (Value.int _ _)) _ _ _) | (with_reducible show wpAny _ _ (subscriptTail _ _ (Value.str _ _) _) _ _ _) | (with_reducible show wpAny _ _ (getMethod (Value.ref _) _ _) _ _ _) | (with_reducible show wpAny _ _ (call (Value.builtin "str.find") _) _ _ _) | (with_reducible show wpAny _ _ (pyIter (Value.ref _)) _ _ _)))); ((first | ((with_reducible show GrPost _ _ _ _ _ _ _ _ _ _ _ _ _); (dsimp only [GrPost])) | (k_unfold; (try dsimp only)) | (walk1 <;> (try dsimp only)) | (dsimp only; walk1) | (leave1; (try dsimp only)) | fail "no step"))))
          · exfalso; omega
          with_reducible rename (Fr _ _ _ _) => F17
          with_reducible rename (News _ _ _ _) => N17
          refine slice_strN_ns (hsz := by rw [txt_len, sizeLine_eq]; omega) (s := ⟨_, _, _, _, _⟩) F17 N17 ?_
          intro h18 t18 k18 F18 N18
          rw [slice_txt_to (b := wd) (by omega), hTl, show rg + wd - wd = rg by omega, hpl.2]
          clear F17 N17
          try dsimp only
          (repeat' ((fail_if_success ((first | (with_reducible show wpAny _ _ (exec (Stmt.Assign _ (PySem.Expr.ListComp _ _ _ _) _) _) _ _ _) | (with_reducible show wpAny _ _ (call (Value.ref _) _) _ _ _) | (with_reducible show wpAny _ _ (call (Value.type "set") _) _ _ _) | (with_reducible show wpAny _ _ (call (Value.builtin "len") [Value.ref _]) _ _ _) | (with_reducible show wpAny _ _ (eval (PySem.Expr.ListComp _ _ _ _) _) _ _ _) | (with_reducible show wpAny _ _ (call (Value.builtin "bytes.decode") _) _ _ _) | (with_reducible show GrEnd _ _ _ _ _ _ _ _ _ _ _) | (with_reducible show LCt.CompSrcT _ _ _ _ _ _ _ _ _ _ _ _ _ _ _) | (with_reducible show LCg.CompSrc _ _ _ _ _ _ _ _ _ _ _ _ _ _) | (with_reducible show LCg.CompEnd _ _ _ _ _ _ _ _ _ _ _ _ _ _) | (with_reducible show wpAny _ _ (compareOp _ _ (Value.ref _)) _ _ _) | (with_reducible show wpAny _ _ (binaryOp _ (Value.ref _) (Value.ref _)) _ _ _) | (with_reducible show wpAny _ _ (subscriptTail _ _ (Value.ref _) (Value.ref _)) _ _ _) | (with_reducible show wpAny _ _ (subscriptTail _ _ (Value.ref _) (Value.int _ _)) _ _ _) | (with_reducible show wpAny _ _ (subscriptTail _ _ (Value.str _ _) _) _ _ _) | (with_reducible show wpAny _ _ (getMethod (Value.ref _) _ _) _ _ _) | (with_reducible show wpAny _ _ (call (Value.builtin "str.find") _) _ _ _) | (with_reducible show wpAny _ _ (pyIter (Value.ref _)) _ _ _)))); ((first | ((with_reducible show GrPost _ _ _ _ _ _ _ _ _ _ _ _ _); (dsimp only [GrPost])) | (k_unfold; (try dsimp only)) | (walk1 <;> (try dsimp only)) | (dsimp only; walk1) | (leave1; (try dsimp only)) | fail "no step"))))
          with_reducible rename (Fr _ _ _ _) => F19
          with_reducible rename (News _ _ _ _) => N19
          refine slice_strN_sn (hsz := by rw [txt_len, sizeLine_eq]; omega) (s := ⟨_, _, _, _, _⟩) F19 N19 ?_
          intro h20 t20 k20 F20 N20
          rw [slice_txt_from (a := rg) (by omega), hTl, show rg + wd - rg = wd by omega]
          clear F19 N19
          try dsimp only
          (repeat' ((fail_if_success ((first | (with_reducible show wpAny _ _ (exec (Stmt.Assign _ (PySem.Expr.ListComp _ _ _ _) _) _) _ _ _) | (with_reducible show wpAny _ _ (call (Value.ref _) _) _ _ _) | (with_reducible show wpAny _ _ (call (Value.type "set") _) _ _ _) | (with_reducible show wpAny _ _ (call (Value.builtin "len") [Value.ref _]) _ _ _) | (with_reducible show wpAny _ _ (eval (PySem.Expr.ListComp _ _ _ _) _) _ _ _) | (with_reducible show wpAny _ _ (call (Value.builtin "bytes.decode") _) _ _ _) | (with_reducible show GrEnd _ _ _ _ _ _ _ _ _ _ _) | (with_reducible show LCt.CompSrcT _ _ _ _ _ _ _ _ _ _ _ _ _ _ _) | (with_reducible show LCg.CompSrc _ _ _ _ _ _ _ _ _ _ _ _ _ _) | (with_reducible show LCg.CompEnd _ _ _ _ _ _ _ _ _ _ _ _ _ _) | (with_reducible show wpAny _ _ (compareOp _ _ (Value.ref _)) _ _ _) | (with_reducible show wpAny _ _ (binaryOp _ (Value.ref _) (Value.ref _)) _ _ _) | (with_reducible show wpAny _ _ (subscriptTail _ _ (Value.ref _) (Value.ref _)) _ _ _) | (with_reducible show wpAny _ _ (subscriptTail _ _ (Value.ref _) (Value.int _ _)) _ _ _) | (with_reducible show wpAny _ _ (subscriptTail _ _ (Value.str _ _) _) _ _ _) | (with_reducible show wpAny _ _ (getMethod (Value.ref _) _ _) _ _ _) | (with_reducible show wpAny _ _ (call (Value.builtin "str.find") _) _ _ _) | (with_reducible show wpAny _ _ (pyIter (Value.ref _)) _ _ _)))); ((first | ((with_reducible show GrPost _ _ _ _ _ _ _ _ _ _ _ _ _); (dsimp only [GrPost])) | (k_unfold; (try dsimp only)) | (walk1 <;> (try dsimp only)) | (dsimp only; walk1) | (leave1; (try dsimp only)) | fail "no step"))))
          · exfalso
            with_reducible rename ((_ != _) = true) => hne
            simp at hne
          with_reducible rename (Fr _ _ _ _) => F21
          with_reducible rename (News _ _ _ _) => N21
          refine walkedT _ _ _ _ _ _ _ lo mm wd sz st rs _ _ _ _ _ _ _ _ _ _ _ _ 302 7 (some []) _ _ _ _ _ [] _ _ _ _ _ _ _ _ B' F21 X' N21 T' rfl ⟨rfl, rfl, hrl, hsz2, rfl, hw1, hsz1, rfl, rfl, hm2, hlo2, hsti, hst64, hdig⟩ (by decide) (by decide) ?_
          rintro v22 news22 h22 tk22 F22 N22 ⟨rfl, t22, rfl⟩
          clear F21 N21
          rw [← hR]
          try dsimp only
          (repeat' ((fail_if_success ((first | (with_reducible show wpAny _ _ (exec (Stmt.Assign _ (PySem.Expr.ListComp _ _ _ _) _) _) _ _ _) | (with_reducible show wpAny _ _ (call (Value.ref _) _) _ _ _) | (with_reducible show wpAny _ _ (call (Value.type "set") _) _ _ _) | (with_reducible show wpAny _ _ (call (Value.builtin "len") [Value.ref _]) _ _ _) | (with_reducible show wpAny _ _ (eval (PySem.Expr.ListComp _ _ _ _) _) _ _ _) | (with_reducible show wpAny _ _ (call (Value.builtin "bytes.decode") _) _ _ _) | (with_reducible show GrEnd _ _ _ _ _ _ _ _ _ _ _) | (with_reducible show LCt.CompSrcT _ _ _ _ _ _ _ _ _ _ _ _ _ _ _) | (with_reducible show LCg.CompSrc _ _ _ _ _ _ _ _ _ _ _ _ _ _) | (with_reducible show LCg.CompEnd _ _ _ _ _ _ _ _ _ _ _ _ _ _) | (with_reducible show wpAny _ _ (compareOp _ _ (Value.ref _)) _ _ _) | (with_reducible show wpAny _ _ (binaryOp _ (Value.ref _) (Value.ref _)) _ _ _) | (with_reducible show wpAny _ _ (subscriptTail _ _ (Value.ref _) (Value.ref _)) _ _ _) | (with_reducible show wpAny _ _ (subscriptTail _ _ (Value.ref _) (Value.int _ _)) _ _ _) | (with_reducible show wpAny _ _ (subscriptTail _ _ (Value.str _ _) _) _ _ _) | (with_reducible show wpAny _ _ (getMethod (Value.ref _) _ _) _ _ _) | (with_reducible show wpAny _ _ (call (Value.builtin "str.find") _) _ _ _) | (with_reducible show wpAny _ _ (pyIter (Value.ref _)) _ _ _)))); ((first | ((with_reducible show GrPost _ _ _ _ _ _ _ _ _ _ _ _ _); (dsimp only [GrPost])) | (k_unfold; (try dsimp only)) | (walk1 <;> (try dsimp only)) | (dsimp only; walk1) | (leave1; (try dsimp only)) | fail "no step"))))
          with_reducible rename (Fr _ _ _ _) => F23
          with_reducible rename (News _ _ _ _) => N23
          refine int2ap _ _ _ _ _ _ _ _ _ 302 7 (some []) _ _ _ _ _ [] _ _ _ _ _ _ _ _ B' F23 X' N23 T' rfl ?_ (by decide) (by decide) ?_
          · rw [Int.natAbs_natCast]
            exact enc_lt hlo2 hdigR (by omega)
          rintro v24 news24 h24 tk24 F24 N24 ⟨rfl, t24, rfl⟩
          clear F23 N23
          try dsimp only
          (repeat' ((fail_if_success ((first | (with_reducible show wpAny _ _ (exec (Stmt.Assign _ (PySem.Expr.ListComp _ _ _ _) _) _) _ _ _) | (with_reducible show wpAny _ _ (call (Value.ref _) _) _ _ _) | (with_reducible show wpAny _ _ (call (Value.type "set") _) _ _ _) | (with_reducible show wpAny _ _ (call (Value.builtin "len") [Value.ref _]) _ _ _) | (with_reducible show wpAny _ _ (eval (PySem.Expr.ListComp _ _ _ _) _) _ _ _) | (with_reducible show wpAny _ _ (call (Value.builtin "bytes.decode") _) _ _ _) | (with_reducible show GrEnd _ _ _ _ _ _ _ _ _ _ _) | (with_reducible show LCt.CompSrcT _ _ _ _ _ _ _ _ _ _ _ _ _ _ _) | (with_reducible show LCg.CompSrc _ _ _ _ _ _ _ _ _ _ _ _ _ _) | (with_reducible show LCg.CompEnd _ _ _ _ _ _ _ _ _ _ _ _ _ _) | (with_reducible show wpAny _ _ (compareOp _ _ (Value.ref _)) _ _ _) | (with_reducible show wpAny _ _ (binaryOp _ (Value.ref _) (Value.ref _)) _ _ _) | (with_reducible show wpAny _ _ (subscriptTail _ _ (Value.ref _) (Value.ref _)) _ _ _) | (with_reducible show wpAny _ _ (subscriptTail _ _ (Value.ref _) (Value.int _ _)) _ _ _) | (with_reducible show wpAny _ _ (subscriptTail _ _ (Value.str _ _) _) _ _ _) | (with_reducible show wpAny _ _ (getMethod (Value.ref _) _ _) _ _ _) | (with_reducible show wpAny _ _ (call (Value.builtin "str.find") _) _ _ _) | (with_reducible show wpAny _ _ (pyIter (Value.ref _)) _ _ _)))); ((first | ((with_reducible show GrPost _ _ _ _ _ _ _ _ _ _ _ _ _); (dsimp only [GrPost])) | (k_unfold; (try dsimp only)) | (walk1 <;> (try dsimp only)) | (dsimp only; walk1) | (leave1; (try dsimp only)) | fail "no step"))))
          refine call_type_of (Tx := "bytes") (typeIs_bytes _ _ _) (by decide +kernel) ?_
          try dsimp only
          (repeat' ((fail_if_success ((first | (with_reducible show wpAny _ _ (exec (Stmt.Assign _ (PySem.Expr.ListComp _ _ _ _) _) _) _ _ _) | (with_reducible show wpAny _ _ (call (Value.ref _) _) _ _ _) | (with_reducible show wpAny _ _ (call (Value.type "set") _) _ _ _) | (with_reducible show wpAny _ _ (call (Value.builtin "len") [Value.ref _]) _ _ _) | (with_reducible show wpAny _ _ (eval (PySem.Expr.ListComp _ _ _ _) _) _ _ _) | (with_reducible show wpAny _ _ (call (Value.builtin "bytes.decode") _) _ _ _) | (with_reducible show GrEnd _ _ _ _ _ _ _ _ _ _ _) | (with_reducible show LCt.CompSrcT _ _ _ _ _ _ _ _ _ _ _ _ _ _ _) | (with_reducible show LCg.CompSrc _ _ _ _ _ _ _ _ _ _ _ _ _ _) | (with_reducible show LCg.CompEnd _ _ _ _ _ _ _ _ _ _ _ _ _ _) | (with_reducible show wpAny _ _ (compareOp _ _ (Value.ref _)) _ _ _) | (with_reducible show wpAny _ _ (binaryOp _ (Value.ref _) (Value.ref _)) _ _ _) | (with_reducible show wpAny _ _ (subscriptTail _ _ (Value.ref _) (Value.ref _)) _ _ _) | (with_reducible show wpAny _ _ (subscriptTail _ _ (Value.ref _) (Value.int _ _)) _ _ _) | (with_reducible show wpAny _ _ (subscriptTail _ _ (Value.str _ _) _) _ _ _) | (with_reducible show wpAny _ _ (getMethod (Value.ref _) _ _) _ _ _) | (with_reducible show wpAny _ _ (call (Value.builtin "str.find") _) _ _ _) | (with_reducible show wpAny _ _ (pyIter (Value.ref _)) _ _ _)))); ((first | ((with_reducible show GrPost _ _ _ _ _ _ _ _ _ _ _ _ _); (dsimp only [GrPost])) | (k_unfold; (try dsimp only)) | (walk1 <;> (try dsimp only)) | (dsimp only; walk1) | (leave1; (try dsimp only)) | fail "no step"))))
          refine CE.method (s := ⟨_, _, _, _, _⟩) ?_
          try dsimp only
          (repeat' ((fail_if_success ((first | (with_reducible show wpAny _ _ (exec (Stmt.Assign _ (PySem.Expr.ListComp _ _ _ _) _) _) _ _ _) | (with_reducible show wpAny _ _ (call (Value.ref _) _) _ _ _) | (with_reducible show wpAny _ _ (call (Value.type "set") _) _ _ _) | (with_reducible show wpAny _ _ (call (Value.builtin "len") [Value.ref _]) _ _ _) | (with_reducible show wpAny _ _ (eval (PySem.Expr.ListComp _ _ _ _) _) _ _ _) | (with_reducible show wpAny _ _ (call (Value.builtin "bytes.decode") _) _ _ _) | (with_reducible show GrEnd _ _ _ _ _ _ _ _ _ _ _) | (with_reducible show LCt.CompSrcT _ _ _ _ _ _ _ _ _ _ _ _ _ _ _) | (with_reducible show LCg.CompSrc _ _ _ _ _ _ _ _ _ _ _ _ _ _) | (with_reducible show LCg.CompEnd _ _ _ _ _ _ _ _ _ _ _ _ _ _) | (with_reducible show wpAny _ _ (compareOp _ _ (Value.ref _)) _ _ _) | (with_reducible show wpAny _ _ (binaryOp _ (Value.ref _) (Value.ref _)) _ _ _) | (with_reducible show wpAny _ _ (subscriptTail _ _ (Value.ref _) (Value.ref _)) _ _ _) | (with_reducible show wpAny _ _ (subscriptTail _ _ (Value.ref _) (Value.int _ _)) _ _ _) | (with_reducible show wpAny _ _ (subscriptTail _ _ (Value.str _ _) _) _ _ _) | (with_reducible show wpAny _ _ (getMethod (Value.ref _) _ _) _ _ _) | (with_reducible show wpAny _ _ (call (Value.builtin "str.find") _) _ _ _) | (with_reducible show wpAny _ _ (pyIter (Value.ref _)) _ _ _)))); ((first | ((with_reducible show GrPost _ _ _ _ _ _ _ _ _ _ _ _ _); (dsimp only [GrPost])) | (k_unfold; (try dsimp only)) | (walk1 <;> (try dsimp only)) | (dsimp only; walk1) | (leave1; (try dsimp only)) | fail "no step"))))
          refine CE.encode (s := ⟨_, _, _, _, _⟩) (txt_ascii hlo2 hdigR) (by rw [txt_len]; omega) (by rw [txt_len]; omega) ?_
          intro t26 k26
          rw [bytes_txt hlo1 hlo2 hdigR]
          subst hQ₁
          try dsimp only
          (repeat' ((fail_if_success ((first | (with_reducible show wpAny _ _ (exec (Stmt.Assign _ (PySem.Expr.ListComp _ _ _ _) _) _) _ _ _) | (with_reducible show wpAny _ _ (call (Value.ref _) _) _ _ _) | (with_reducible show wpAny _ _ (call (Value.type "set") _) _ _ _) | (with_reducible show wpAny _ _ (call (Value.builtin "len") [Value.ref _]) _ _ _) | (with_reducible show wpAny _ _ (eval (PySem.Expr.ListComp _ _ _ _) _) _ _ _) | (with_reducible show wpAny _ _ (call (Value.builtin "bytes.decode") _) _ _ _) | (with_reducible show GrEnd _ _ _ _ _ _ _ _ _ _ _) | (with_reducible show LCt.CompSrcT _ _ _ _ _ _ _ _ _ _ _ _ _ _ _) | (with_reducible show LCg.CompSrc _ _ _ _ _ _ _ _ _ _ _ _ _ _) | (with_reducible show LCg.CompEnd _ _ _ _ _ _ _ _ _ _ _ _ _ _) | (with_reducible show wpAny _ _ (compareOp _ _ (Value.ref _)) _ _ _) | (with_reducible show wpAny _ _ (binaryOp _ (Value.ref _) (Value.ref _)) _ _ _) | (with_reducible show wpAny _ _ (subscriptTail _ _ (Value.ref _) (Value.ref _)) _ _ _) | (with_reducible show wpAny _ _ (subscriptTail _ _ (Value.ref _) (Value.int _ _)) _ _ _) | (with_reducible show wpAny _ _ (subscriptTail _ _ (Value.str _ _) _) _ _ _) | (with_reducible show wpAny _ _ (getMethod (Value.ref _) _ _) _ _ _) | (with_reducible show wpAny _ _ (call (Value.builtin "str.find") _) _ _ _) | (with_reducible show wpAny _ _ (pyIter (Value.ref _)) _ _ _)))); ((first | ((with_reducible show GrPost _ _ _ _ _ _ _ _ _ _ _ _ _); (dsimp only [GrPost])) | (k_unfold; (try dsimp only)) | (walk1 <;> (try dsimp only)) | (dsimp only; walk1) | (leave1; (try dsimp only)) | fail "no step"))))
          rw [beq_self_eq_true]
          k_steps)
end Mine
end
theorem PySem.Challenge.cw_ph0011_02_holds : PySem.Challenge.rw_ph0011_02.Holds :=
  Mine.lawT
