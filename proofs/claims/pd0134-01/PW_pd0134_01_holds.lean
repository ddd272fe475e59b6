import PyProof.Rows.All
import Wide.All
import OpenK.AllK
import Wide.FinOn
import PySem.Challenge.RW_pd0134_01
set_option Elab.async false
section
open PySem PySem.W PyProof.Rows
namespace Mine
/-- the statements of the text that the view keeps -/
noncomputable def vw : Program := PySem.W.view PySem.Challenge.rw_pd0134_01.row.prog [0, 2, 4, 6, 7, 9, 11, 13, 14, 15, 17, 18, 21, 23, 24, 25, 26, 27, 28, 29, 30, 31]
section
/-- a head of no weight: it writes out the fragment of the heap (hd.heap_1), and nothing else -/
local macro_rules | `(tactic| o_law) => `(tactic| refine (fun (z : PySem.Challenge.rw_pd0134_01.Holds ∧ PySem.Challenge.rw_pd0134_01.row.Holds) (_ : True) => (fun (_ : PySem.Challenge.rw_pd0134_01.row.Holds) => z.1) ?q) ?hc ?hw)
local macro_rules | `(tactic| o_head $_) => `(tactic| exact And.right (by assumption))
local macro_rules | `(tactic| w_witness2) => `(tactic| trivial)
set_option maxRecDepth 100000 in
set_option maxHeartbeats 8000000 in
open_top hd for PySem.Challenge.rw_pd0134_01
end
theorem calmTop : True := by w_top off; trivial
noncomputable def hk : Hook := kmHook hd.heap_1 [2, 3, 15, 17, 18, 20, 21, 22, 24, 25, 27, 28, 29, 36, 38, 39, 41, 42, 43, 44, 45, 48, 55, 57, 58, 60, 61, 62, 64, 65, 67, 68, 69, 71, 72, 74, 75, 76, 77, 78, 81, 83, 84, 86, 87, 88, 90, 91, 93, 94, 95, 97, 98, 100, 101, 102, 104, 105, 107, 108, 109, 111, 112, 114, 115, 116, 119, 120, 121, 123, 124, 126, 127, 128, 129, 130, 132, 133, 135, 136, 137, 139, 140, 142, 143, 144, 147, 148, 149, 152, 153, 154, 157, 158, 159, 162, 163, 164, 166, 167, 169, 170, 171, 173, 174, 176, 177, 178, 181, 182, 183, 186, 187, 188, 191, 192] (fun _ => by kernel_rfl) [160, 122, 189]
set_option maxRecDepth 100000 in
theorem said : OpenLaw.wellSaid PySem.Challenge.rw_pd0134_01 = true := by
  repeat' (first | with_reducible refine look_both ?_ ?_ | delta OpenLaw.wellSaid | delta OpenRow.wellSaid | delta OpenRow.partSaid | delta looksOpen)
  all_goals decide +kernel
theorem left : LeftO PySem.Challenge.rw_pd0134_01.row.prog vw [Str.ofString "_initial_missing", Str.ofString "reduce"] (fun s => xlAt vw [] s && recOk (RowW.records PySem.Challenge.rw_pd0134_01.row.toRowW) s) hk.obs hk.val 2546 := by
  intro w
  kernel_rfl
section
local macro_rules | `(tactic| o_law) => `(tactic| refine holds_law said fun said' => ?_)
local macro_rules | `(tactic| k_head) => `(tactic| refine holds_open (q := vw) (loose := [Str.ofString "_initial_missing", Str.ofString "reduce"]) (Xt := fun s => xlAt vw [] s && recOk (RowW.records PySem.Challenge.rw_pd0134_01.row.toRowW) s) (XP := XL vw []) (Yf := hk.obs) (Ya := hk.val) (YP := hk.says) (N := 2546) left hk.of hk.keeps (fun s e => xl_of s (Bool.and_eq_true_iff.mp e).1) XL.keeps (by rfl) (by rfl) (by rfl) (fun s e => recFacts_of (Bool.and_eq_true_iff.mp e).2) (by rfl) (by first | assumption | decide +kernel) (by decide +kernel) ⟨rfl, rfl, rfl, rfl, rfl, by decide +kernel⟩ ?hw ?hc)
set_option maxRecDepth 100000 in
set_option maxHeartbeats 8000000 in
open_top hdW for PySem.Challenge.rw_pd0134_01
end
end Mine
end
theorem Mine.calmB0 : True := by w_top off; trivial
section
open PySem PySem.W PyProof.Rows PySem.Calls
set_option maxRecDepth 100000
namespace Mine


/-- all of h stands in h' -/
abbrev Keep (h h' : Heap) : Prop := ∀ b o, h.get? b = some o → h'.get? b = some o
theorem Keep.refl (h : Heap) : Keep h h := fun _ _ e => e
theorem Keep.trans {a b c : Heap} (x : Keep a b) (y : Keep b c) : Keep a c := fun _ _ e => y _ _ (x _ _ e)

structure Ok (w : World) (h : Heap) : Prop where
  X : (hd.heap_1 w.params).In h
  T : ∃ p loose mean mg mb, Top p loose mean mg mb h
theorem Ok.keeps {w : World} {h h' : Heap} (O : Ok w h) (k : Keep h h') : Ok w h' :=
  ⟨O.X.keeps k, let ⟨p, l, m, g, b, T⟩ := O.T; ⟨p, l, m, g, b, T.keeps k⟩⟩
theorem Ok.nolimit {w : World} {h : Heap} (O : Ok w h) : h.NoLimit := let ⟨_, _, _, _, _, T⟩ := O.T; T.nolimit

/-- an around of which only the numbers are known -/
abbrev arr (dp un : Nat) : Around := { handled := none, depth := dp, frames := none, guards := none, units := un }
theorem arr_up {α : Type} {M : Model} {A : Around} {t : Sem α} {Q : α → Shared → Prop} {E : Value → Shared → Prop} {s : Shared} {dp un : Nat}
    (hh : A.handled = none) (hd : A.depth ≤ dp) (hu : A.units ≤ un) (h : wpAny M (arr dp un) t Q E s) : wpAny M A t Q E s := fun Γ p hΓ =>
  h Γ p ⟨hΓ.1.trans hh, Nat.le_trans hΓ.2.1 hd, (fun _ e => by cases e), (fun _ e => by cases e), Nat.le_trans hΓ.2.2.2.2 hu⟩
theorem arr_code {M : Model} {A : Around} {c : Code} {R : Result → Shared → Prop} {s : Shared} {dp un : Nat}
    (hh : A.handled = none) (hd : A.depth ≤ dp) (hu : A.units ≤ un) (h : codeAny M (arr dp un) c R s) : codeAny M A c R s := fun Γ p hc hΓ =>
  h Γ p hc ⟨hΓ.1.trans hh, Nat.le_trans hΓ.2.1 hd, (fun _ e => by cases e), (fun _ e => by cases e), Nat.le_trans hΓ.2.2.2.2 hu⟩

structure Room (A : Around) (n : Nat) : Prop where
  h : A.handled = none
  d : A.depth + n ≤ 900
  u : A.units + 20 * n ≤ 9000
theorem Room.less {A : Around} {n m : Nat} (r : Room A n) (h : m ≤ n) : Room A m := ⟨r.h, by have := r.d; (first | lia | omega), by have := r.u; (first | lia | omega)⟩

section
variable {w : World} {s : Shared} {f : Addr} {name qual : Str} {params : Arguments} {body : List Stmt} {scope : Scope} {dV kV doc pm cdv ct oc : Value} {an od : Option Addr} {osl : Array (Option Value)} {vals : List Value} {binds : List (Str × Value)} {Q E : Value → Shared → Prop} {A : Around}
theorem enter {n : Nat} (O : Ok w s.heap) (r : Room A (n + 1)) (ho : (hd.heap_1 w.params).lookup f = some ⟨oc, od, .func (fnOf name qual params body scope dV kV doc pm an cdv ct), osl⟩) (hcd : codeIn (hd.heap_1 w.params) cdv qual = true)
    (hbind : BindsTo s (fnOf name qual params body scope dV kV doc pm an cdv ct) ⟨vals, []⟩ binds) (hloc : ∀ y ∈ binds, scope.names.lookup y.1 = some .local)
    (h : ∀ dp un L h₁ tk, dp + n ≤ 900 → un + 20 * n ≤ 9000 → Fr s.heap L h₁ (fun y => binds.reverse.lookup y) → News s.heap L h₁ [] → (hd.heap_1 w.params).In s.heap →
      wpAny (model PySem.Challenge.rw_pd0134_01.row.prog w) (arr dp un) (execs body (envOf qual scope L f cdv)) (fun fl s' => Q (match fl with | .ret v => v | _ => .none) s') (fun _ _ => False)
        { s with heap := h₁, toks := tk })
    (hco : scope.isCoroutine = false := by rfl) (hgen : scope.isGenerator = false := by rfl) (hk : scope.kind = .function := by rfl)
    (hcell : ∀ x ∈ scope.names, x.2 ≠ .cell := by decide) : wpAny (model PySem.Challenge.rw_pd0134_01.row.prog w) A (call (.ref f) vals) Q E s := by
  refine wpAny_call (arr_code (dp := A.depth) (un := A.units) r.h (Nat.le_refl _) (Nat.le_refl _) ?_)
  refine codeAny_call_def (fd := fnOf name qual params body scope dV kV doc pm an cdv ct) (body := body) (binds := binds) (by show A.depth < recursionLimit; have := r.d; unfold recursionLimit; (first | lia | omega)) (O.X _ _ ho) rfl O.nolimit (codeRec_of O.X hcd) rfl hbind hcell hloc (fun h₁ hns hk₁ => ?_) hco hgen hk
  refine wpAny_mono (h (A.depth + 1) (A.units + 3) s.heap.objs.size h₁ _ (by have := r.d; (first | lia | omega)) (by have := r.u; (first | lia | omega)) ⟨hns, hk₁, Nat.le_refl _⟩ (fun _ hp => nomatch hp) O.X) (fun fl s' hl => hl) fun _ _ x => x.elim
theorem enterC {n : Nat} (O : Ok w s.heap) (r : Room A (n + 1)) (ho : (hd.heap_1 w.params).lookup f = some ⟨oc, od, .func (fnOf name qual params body scope dV kV doc pm an cdv ct), osl⟩) (hcd : codeIn (hd.heap_1 w.params) cdv qual = true)
    (hbind : BindsTo s (fnOf name qual params body scope dV kV doc pm an cdv ct) ⟨vals, []⟩ binds)
    (hkind : (binds.all fun y => scope.names.lookup y.1 == some .local || scope.names.lookup y.1 == some .cell) = true)
    (hnd : ((cellsFrom 0 scope.names []).map (·.1)).Nodup)
    (h : ∀ dp un L h₁ tk cells, dp + n ≤ 900 → un + 20 * n ≤ 9000 → Fr s.heap L h₁ (bindL (envOfC qual scope L f cdv).kindOf binds fun _ => none) → News s.heap L h₁ cells →
      CellsAre (bindC (envOfC qual scope L f cdv).kindOf binds fun _ => none) (cellsFrom (L + 1) scope.names []) cells → (hd.heap_1 w.params).In s.heap →
      wpAny (model PySem.Challenge.rw_pd0134_01.row.prog w) (arr dp un) (execs body (envOfC qual scope L f cdv)) (fun fl s' => Q (match fl with | .ret v => v | _ => .none) s') (fun _ _ => False)
        { s with heap := h₁, toks := tk })
    (hco : scope.isCoroutine = false := by rfl) (hgen : scope.isGenerator = false := by rfl) (hk : scope.kind = .function := by rfl) : wpAny (model PySem.Challenge.rw_pd0134_01.row.prog w) A (call (.ref f) vals) Q E s := by
  refine wpAny_call (arr_code (dp := A.depth) (un := A.units) r.h (Nat.le_refl _) (Nat.le_refl _) ?_)
  refine codeAny_call_function (fd := fnOf name qual params body scope dV kV doc pm an cdv ct) (by show A.depth < recursionLimit; have := r.d; unfold recursionLimit; (first | lia | omega)) (O.X _ _ ho) rfl hco hgen rfl (codeRec_of O.X hcd) (hbind _ _ _ _ ?_)
  refine wpAny_newFunctionEnv_cells hk (kindsX hkind _) fun env' he s' x => ?_
  subst he
  refine ⟨O.nolimit.keeps x.toInCall.keep, codeAny_func ?_⟩
  obtain ⟨h₁, tk, rfl, _⟩ := x.done
  have hk₁ := x.toInCall.keep
  obtain ⟨cells, NC, Y⟩ := Cl.news (h₀ := s.heap) (Nat.le_refl _) fun n c hm => ⟨x.cell n c (lookup_of_mem_nodup (cellsFrom_names scope.names 0 (s.heap.objs.size + 1) [] [] rfl ▸ hnd) hm), x.above n c hm⟩
  refine wpAny_mono (h (A.depth + 1) (A.units + 3) s.heap.objs.size h₁ tk cells (by have := r.d; (first | lia | omega)) (by have := r.u; (first | lia | omega)) ⟨x.toInCall.ns, hk₁, Nat.le_refl _⟩ NC Y O.X) (fun fl s' hl => hl) fun _ _ y => y.elim
end
end Mine
end
theorem Mine.calmL1 : True := by w_top off; trivial
section
open PySem PySem.W PyProof.Rows PySem.Calls
set_option maxRecDepth 100000
set_option maxHeartbeats 4000000
namespace Mine
section
variable {prog : Program} {w : World} {s : Shared} {A : Around} {E : Value → Shared → Prop} {b c : Array UInt8} {t u : Tok}

theorem typeIs_bytes : s.TypeIs (.bytes b t) "bytes" := rfl
theorem sub_bytes_str : isSubtype (.type "bytes") (.type "str") = pure false := by rw [isSubtype_type]; kernel_rfl
theorem sub_bytes_bytes : isSubtype (.type "bytes") (.type "bytes") = pure true := by rw [isSubtype_type]; kernel_rfl
theorem isub_one {c : String} {r : Bool} {dep : Int} {tk : Tok} (hs : isSubtype (.type "bytes") (.type c) = pure r) (hty : typeOf (.type c) = pure (.type "type")) (hi : isType (.type c) = pure true) :
    Meets (Builtin.«issubclass.nested» ⟨[.type "bytes", .type c, .int dep tk], []⟩) (fun _ R s => R (.ok (.ret (.bool r))) s) := by
  intro prog w A R s hq
  have hi2 : isType (.type "bytes") = pure true := by kernel_rfl
  repeat (any_goals (first | assumption | wp_step))
theorem kind_isub : builtinKind "issubclass.nested" = none := by decide +kernel
theorem plain_isub : plainId "issubclass.nested" = true := by decide +kernel
theorem args_isub (a b c : Value) : argsOk "issubclass.nested" ⟨[a, b, c], []⟩ := by unfold argsOk; kernel_rfl
/-- issubclass(bytes, (str, bytes)) -/
theorem isub_tuple {tp : Addr} {tk : Tok} {cs : List Value} (hcs : cs = [.type "str", .type "bytes"]) :
    Meets (Builtin.«issubclass.nested» ⟨[.type "bytes", .ref tp, .int 0 tk], []⟩) (fun _ R s => s.heap.get? tp = some { cls := .type "tuple", data := .seq cs.toArray } ∧ R (.ok (.ret (.bool true))) s) := by
  intro prog w A R s hs
  obtain ⟨htp, hq⟩ := hs
  obtain ⟨h, g, d, t, os⟩ := s
  have hT2 : (⟨h, g, d, t, os⟩ : Shared).TypeIs (.ref tp) "tuple" := ⟨_, htp, rfl⟩
  have f1 := F.isi_sub_tuple
  repeat (any_goals (first | assumption | wp_step))
  refine wpAny_arrayLoop ?_
  simp only [Option.getD_some, List.toList_toArray]
  subst hcs
  rw [List.forIn_cons]
  refine wpAny_bind (wpAny_bind (call_function_meets kind_isub plain_isub F.entry_issubclass_nested (args_isub _ _ _) (isub_one sub_bytes_str (by kernel_rfl) (by kernel_rfl)) ?_))
  show wpAny _ _ (truthy (.bool false) >>= _) _ _ _
  refine wpAny_bind (m := truthy (.bool false)) (wpAny_pure (wpAny_pure ?_))
  dsimp only
  rw [List.forIn_cons]
  refine wpAny_bind (wpAny_bind (call_function_meets kind_isub plain_isub F.entry_issubclass_nested (args_isub _ _ _) (isub_one sub_bytes_bytes (by kernel_rfl) (by kernel_rfl)) ?_))
  show wpAny _ _ (truthy (.bool true) >>= _) _ _ _
  refine wpAny_bind (m := truthy (.bool true)) (wpAny_pure ?_)
  refine wpAny_bind (wpAny_pure (wpAny_pure (wpAny_pure ?_)))
  repeat (any_goals (first | assumption | wp_step))
theorem call_isub {tp : Addr} {Q : Value → Shared → Prop} (htp : s.heap.get? tp = some { cls := .type "tuple", data := .seq #[.type "str", .type "bytes"] }) (hq : Q (.bool true) s) :
    wpAny (model prog w) A (call (.builtin "issubclass") [.type "bytes", .ref tp]) Q E s :=
  call_issubclass (S := fun _ R s => s.heap.get? tp = some { cls := .type "tuple", data := .seq #[.type "str", .type "bytes"] } ∧ R (.ok (.ret (.bool true))) s)
    (fun prog w A R s hs => issubclass_outer (isub_tuple rfl prog w A R s hs)) ⟨htp, hq⟩
end
end Mine
end
theorem Mine.calmL2 : True := by w_top off; trivial
section
open PySem PySem.W PyProof.Rows PySem.Calls
open PySem.Builtin
set_option maxRecDepth 100000
set_option maxHeartbeats 4000000
namespace Mine
section
variable {prog : Program} {w : World} {M : Model} {s : Shared} {A : Around} {E : Value → Shared → Prop} {b c : Array UInt8} {t u : Tok}

theorem slot_starts : Slot "bytes" "startswith" "bytes.startswith" := .of (owner := "bytes") (n := "startswith") (by rw [typeLookup_type, builtinLookup_eq_fast]; kernel_rfl) (by decide +kernel) (by decide +kernel) (by decide +kernel)
    (by first | exact .inl (by decide +kernel) | exact .inr (by decide +kernel)) (by rw [isSubtype_type]; kernel_rfl)
theorem slot_ends : Slot "bytes" "endswith" "bytes.endswith" := .of (owner := "bytes") (n := "endswith") (by rw [typeLookup_type, builtinLookup_eq_fast]; kernel_rfl) (by decide +kernel) (by decide +kernel) (by decide +kernel)
    (by first | exact .inl (by decide +kernel) | exact .inr (by decide +kernel)) (by rw [isSubtype_type]; kernel_rfl)
theorem slot_split : Slot "bytes" "split" "bytes.split" := .of (owner := "bytes") (n := "split") (by rw [typeLookup_type, builtinLookup_eq_fast]; kernel_rfl) (by decide +kernel) (by decide +kernel) (by decide +kernel)
    (by first | exact .inl (by decide +kernel) | exact .inr (by decide +kernel)) (by rw [isSubtype_type]; kernel_rfl)
theorem slot_join : Slot "bytes" "join" "bytes.join" := .of (owner := "bytes") (n := "join") (by rw [typeLookup_type, builtinLookup_eq_fast]; kernel_rfl) (by decide +kernel) (by decide +kernel) (by decide +kernel)
    (by first | exact .inl (by decide +kernel) | exact .inr (by decide +kernel)) (by rw [isSubtype_type]; kernel_rfl)
theorem ty_starts : typeOf (.builtin "bytes.startswith") = pure (.type "method_descriptor") := by show builtinType _ = _; rw [builtinType_eq_fast]; kernel_rfl
theorem ty_ends : typeOf (.builtin "bytes.endswith") = pure (.type "method_descriptor") := by show builtinType _ = _; rw [builtinType_eq_fast]; kernel_rfl
theorem ty_split : typeOf (.builtin "bytes.split") = pure (.type "method_descriptor") := by show builtinType _ = _; rw [builtinType_eq_fast]; kernel_rfl
theorem ty_join : typeOf (.builtin "bytes.join") = pure (.type "method_descriptor") := by show builtinType _ = _; rw [builtinType_eq_fast]; kernel_rfl
theorem en_starts : entryFor table "bytes.startswith" = some Builtin.«bytes.startswith» := entryFor_of_fast (by kernel_rfl)
theorem en_ends : entryFor table "bytes.endswith" = some Builtin.«bytes.endswith» := entryFor_of_fast (by kernel_rfl)
theorem en_split : entryFor table "bytes.split" = some Builtin.«bytes.split» := entryFor_of_fast (by kernel_rfl)
theorem en_join : entryFor table "bytes.join" = some Builtin.«bytes.join» := entryFor_of_fast (by kernel_rfl)
theorem ar_starts (a b : Value) : argsOk "bytes.startswith" ⟨[a, b], []⟩ := by unfold argsOk; kernel_rfl
theorem ar_ends (a b : Value) : argsOk "bytes.endswith" ⟨[a, b], []⟩ := by unfold argsOk; kernel_rfl
theorem ar_split (a b : Value) : argsOk "bytes.split" ⟨[a, b], []⟩ := by unfold argsOk; kernel_rfl
theorem ar_join (a b : Value) : argsOk "bytes.join" ⟨[a, b], []⟩ := by unfold argsOk; kernel_rfl
theorem ga_bytes : typeLookup (.type "bytes") "__getattribute__" = pure (some (.builtin "bytes.__getattribute__")) := by rw [typeLookup_type, builtinLookup_eq_fast]; kernel_rfl
theorem canon_ga_bytes : (Manifest.canonical "bytes.__getattribute__" != "object.__getattribute__") = false := by decide +kernel
theorem no_getattr_bytes : typeLookup (.type "bytes") "__getattr__" = pure none := by rw [typeLookup_type, builtinLookup_eq_fast]; kernel_rfl
theorem me_bytes {name : Str} {id : String} {pl : Sem Bool} {Q : Value × List Value → Shared → Prop} (sl : Slot "bytes" name id) (ty : typeOf (.builtin id) = pure (.type "method_descriptor")) (h : Q (.builtin id, [.bytes b t]) s) :
    wpAny M A (getMethod (.bytes b t) name pl) Q E s :=
  getMethod_value (T := "bytes") (name := name) (ga := "bytes.__getattribute__") (id := id) typeIs_bytes (by intro _ x; cases x) ga_bytes canon_ga_bytes no_getattr_bytes sl.lookup ty h

theorem sub_bytes_tuple : isSubtype (.type "bytes") (.type "tuple") = pure false := by rw [isSubtype_type]; kernel_rfl
theorem inst_tuple : isInstance (.bytes c u) (.type "tuple") = pure false := by
  have e : isInstance (.bytes c u) (.type "tuple") = isSubtype (.type "bytes") (.type "tuple") := rfl
  rw [e, sub_bytes_tuple]
theorem fits_head (b c : Array UInt8) : (if (b.size : Int) - 0 < c.size then false else b.extract 0 (0 + c.size) == c) = true ↔ c.toList <+: b.toList := by
  have e : (b.extract 0 (0 + c.size)).toList = b.toList.take c.size := by simp
  rw [List.prefix_iff_eq_take]
  split
  · rename_i h
    constructor
    · intro x; cases x
    · intro x
      have := congrArg List.length x
      simp at this
      (first | lia | omega)
  · rename_i h
    rw [beq_iff_eq]
    constructor
    · intro x; rw [Array.length_toList, ← e, x]
    · intro x
      apply Array.toList_inj.mp
      rw [Array.length_toList] at x
      rw [e, ← x]
theorem fits_tail (b c : Array UInt8) : (if (b.size : Int) - 0 < c.size then false else b.extract (b.size - c.size) b.size == c) = true ↔ c.toList <:+ b.toList := by
  have e : (b.extract (b.size - c.size) b.size).toList = b.toList.drop (b.size - c.size) := by
    simp only [Array.toList_extract, List.extract_eq_take_drop]
    exact List.take_of_length_le (by simp)
  rw [List.suffix_iff_eq_drop]
  split
  · rename_i h
    constructor
    · intro x; cases x
    · intro x
      have := congrArg List.length x
      simp at this
      (first | lia | omega)
  · rename_i h
    rw [beq_iff_eq]
    constructor
    · intro x; rw [Array.length_toList, Array.length_toList, ← e, x]
    · intro x
      apply Array.toList_inj.mp
      rw [Array.length_toList, Array.length_toList] at x
      rw [e, ← x]
theorem call_starts {Q : Value → Shared → Prop} (h : ∀ r : Bool, (r = true ↔ c.toList <+: b.toList) → Q (.bool r) s) :
    wpAny (model prog w) A (call (.builtin "bytes.startswith") [.bytes b t, .bytes c u]) Q E s := by
  refine wpAny_call_entry slot_starts typeIs_bytes en_starts ?_ (ar_starts _ _)
  show wpAny _ _ (isInstance (.bytes c u) (.type "tuple") >>= fun r => _) _ _ s
  refine wpAny_bind (wpAny_of_eq (a := false) inst_tuple ?_)
  show wpAny _ _ (Bytes.buffer? _ (.bytes c u) >>= fun r => _) _ _ s
  refine wpAny_bind (wpAny_of_eq KBy.buffer_eq ?_)
  refine wpAny_pure ⟨_, rfl, h _ ?_⟩
  have h0 : (if (b.size : Int) < 0 then max 0 ((b.size : Int) + b.size) else (b.size : Int)) = b.size := if_neg (by (first | lia | omega))
  simp only [Option.getD_none, h0, Int.lt_irrefl, if_false, if_true, Int.min_self, Int.toNat_natCast, Int.toNat_zero, Bool.false_eq_true]
  exact fits_head b c
theorem call_ends {Q : Value → Shared → Prop} (h : ∀ r : Bool, (r = true ↔ c.toList <:+ b.toList) → Q (.bool r) s) :
    wpAny (model prog w) A (call (.builtin "bytes.endswith") [.bytes b t, .bytes c u]) Q E s := by
  refine wpAny_call_entry slot_ends typeIs_bytes en_ends ?_ (ar_ends _ _)
  show wpAny _ _ (isInstance (.bytes c u) (.type "tuple") >>= fun r => _) _ _ s
  refine wpAny_bind (wpAny_of_eq (a := false) inst_tuple ?_)
  show wpAny _ _ (Bytes.buffer? _ (.bytes c u) >>= fun r => _) _ _ s
  refine wpAny_bind (wpAny_of_eq KBy.buffer_eq ?_)
  refine wpAny_pure ⟨_, rfl, h _ ?_⟩
  have h0 : (if (b.size : Int) < 0 then max 0 ((b.size : Int) + b.size) else (b.size : Int)) = b.size := if_neg (by (first | lia | omega))
  simp only [Option.getD_none, h0, Int.lt_irrefl, if_false, if_true, Int.min_self, Int.toNat_natCast, Int.toNat_zero, Bool.false_eq_true]
  exact fits_tail b c

/-! split at the byte 47 -/
def splitL : List UInt8 → List (List UInt8)
  | [] => [[]]
  | c :: r => if c = 47 then [] :: splitL r else match splitL r with
    | p :: ps => (c :: p) :: ps
    | [] => [[c]]
def places : List UInt8 → Nat → List Nat
  | [], _ => []
  | c :: r, k => if c = 47 then k :: places r (k + 1) else places r (k + 1)
theorem splitL_ne (l : List UInt8) : splitL l ≠ [] := by
  cases l with
  | nil => simp [splitL]
  | cons c r => simp only [splitL]; split <;> (try split) <;> simp
theorem occ_eq (b : Array UInt8) : Bytes.occurrences b #[47] 0 b.size = places b.toList 0 := by
  have key : ∀ (n k : Nat) (acc : List Nat) (q : Nat), k + n = b.size → q ≤ k →
      ((List.range' k n).foldl (fun (acc : List Nat × Nat) (i : Nat) => if i ≥ acc.2 && b.extract i (i + 1) == #[47] then (i :: acc.1, i + 1) else acc) (acc, q)).1.reverse = acc.reverse ++ places (b.toList.drop k) k := by
    intro n
    induction n with
    | zero => intro k acc q hk hq; rw [show k = b.toList.length by simp; (first | lia | omega), List.drop_length]; simp [places]
    | succ n ih =>
      intro k acc q hk hq
      have hlt : k < b.toList.length := by simp; (first | lia | omega)
      rw [List.range'_succ, List.foldl_cons, List.drop_eq_getElem_cons hlt]
      have hx : (b.extract k (k + 1) == #[47]) = decide (b.toList[k] = 47) := by
        have : b.extract k (k + 1) = #[b.toList[k]] := by
          apply Array.toList_inj.mp
          simp [List.take_one, List.drop_eq_getElem_cons hlt]
        rw [this, Bool.eq_iff_iff]; simp
      simp only [hx, places]
      by_cases hc : b.toList[k] = 47
      · simp only [hc, decide_true, Bool.and_true, if_true]
        rw [if_pos (by simpa using hq), ih _ _ _ (by (first | lia | omega)) (Nat.le_refl _)]
        simp
      · simp only [hc, decide_false, Bool.and_false, if_false, Bool.false_eq_true]
        exact ih _ _ _ (by (first | lia | omega)) (by (first | lia | omega))
  have := key b.size 0 [] 0 (by (first | lia | omega)) (Nat.le_refl _)
  simp only [List.drop_zero, List.reverse_nil, List.nil_append] at this
  unfold Bytes.occurrences
  simp only [List.size_toArray, List.length_cons, List.length_nil, Nat.zero_add, Nat.add_sub_cancel]
  rw [← this, List.range_eq_range']
  simp
theorem between_eq (b : Array UInt8) : (Bytes.between b 1 (places b.toList 0)).map (·.toList) = splitL b.toList := by
  have key : ∀ (rest pre cur : List UInt8) (parts : Array (Array UInt8)), b.toList = pre ++ cur ++ rest →
      (((places rest (pre.length + cur.length)).foldl (fun (parts, last) p => (parts.push (b.extract last p), p + 1)) (parts, pre.length)).1.push
        (b.extract ((places rest (pre.length + cur.length)).foldl (fun (parts, last) p => (parts.push (b.extract last p), p + 1)) (parts, pre.length)).2 b.size)).toList.map (·.toList)
        = parts.toList.map (·.toList) ++ (match splitL rest with | p :: ps => (cur ++ p) :: ps | [] => [cur]) := by
    intro rest
    induction rest with
    | nil =>
      intro pre cur parts hb
      have hs : b.size = pre.length + cur.length := by rw [← Array.length_toList, hb]; simp
      have e : (b.extract pre.length b.size).toList = cur := by
        simp [hb, hs]
      simp only [places, List.foldl_nil, splitL, Array.toList_push, List.map_append, List.map_cons, List.map_nil, e, List.append_nil]
    | cons c r ih =>
      intro pre cur parts hb
      by_cases hc : c = 47
      · subst hc
        have e : (b.extract pre.length (pre.length + cur.length)).toList = cur := by
          simp [hb]
        simp only [places, if_true, List.foldl_cons, splitL]
        have := ih (pre ++ cur ++ [47]) [] (parts.push (b.extract pre.length (pre.length + cur.length))) (by simp [hb])
        simp only [List.length_append, List.length_cons, List.length_nil, Nat.zero_add, Nat.add_zero] at this
        rw [this]
        simp only [Array.toList_push, List.map_append, List.map_cons, List.map_nil, e, List.append_assoc, List.cons_append, List.nil_append, List.append_nil]
        cases hsp : splitL r with
        | nil => exact absurd hsp (splitL_ne r)
        | cons p ps => rfl
      · simp only [places, hc, if_false, splitL]
        have := ih pre (cur ++ [c]) parts (by simp [hb])
        simp only [List.length_append, List.length_cons, List.length_nil, Nat.zero_add] at this
        rw [Nat.add_assoc, this]
        cases hsp : splitL r with
        | nil => exact absurd hsp (splitL_ne r)
        | cons p ps => simp
  have := key b.toList [] [] #[] (by simp)
  simp only [List.length_nil, Nat.add_zero, List.map_nil, List.nil_append] at this
  unfold Bytes.between
  have h2 : (match splitL b.toList with | p :: ps => p :: ps | [] => [[]]) = splitL b.toList := by
    cases hsp : splitL b.toList with
    | nil => exact absurd hsp (splitL_ne _)
    | cons p ps => rfl
  rw [← h2]
  exact this
end
end Mine
end
theorem Mine.calmL3 : True := by w_top off; trivial
section
open PySem PySem.W PyProof.Rows PySem.Calls
open PySem.Builtin
set_option maxRecDepth 100000
set_option maxHeartbeats 4000000
set_option linter.unusedSimpArgs false
namespace Mine
/-- the values are these bytes -/
inductive BytesAre : List Value → List (List UInt8) → Prop where
  | nil : BytesAre [] []
  | cons {b : Array UInt8} {t : Tok} {l : List UInt8} {vs : List Value} {ls : List (List UInt8)} : b.toList = l → BytesAre vs ls → BytesAre (.bytes b t :: vs) (l :: ls)
theorem BytesAre.length {vs : List Value} {ls : List (List UInt8)} (h : BytesAre vs ls) : vs.length = ls.length := by
  induction h with
  | nil => rfl
  | cons _ _ ih => exact congrArg Nat.succ ih
section
variable {prog : Program} {w : World} {M : Model} {s : Shared} {A : Around} {E : Value → Shared → Prop} {b c : Array UInt8} {t u : Tok}
theorem mapM_new : ∀ (ps : List (Array UInt8)) (s : Shared) (Q : List Value → Shared → Prop), (∀ p ∈ ps, p.size ≤ sizeLine) →
    (∀ vs tk, BytesAre vs (ps.map (·.toList)) → Q vs { s with toks := tk }) → wpAny M A (ps.mapM (Bytes.Kind.new .bytes)) Q E s
  | [], s, Q, _, h => by rw [List.mapM_nil]; exact wpAny_pure (h [] s.toks .nil)
  | p :: ps, s, Q, hz, h => by
    rw [List.mapM_cons]
    refine wpAny_bind (wpAny_mkBytes ?_ (hz p List.mem_cons_self))
    refine wpAny_bind (mapM_new ps _ _ (fun q hq => hz q (List.mem_cons_of_mem _ hq)) fun vs tk hv => wpAny_pure ?_)
    exact h _ tk (.cons rfl hv)
theorem places_nil {l : List UInt8} {k : Nat} (h : places l k = []) : splitL l = [l] := by
  induction l generalizing k with
  | nil => rfl
  | cons c r ih =>
    unfold places at h
    split at h
    · cases h
    · rename_i hc
      rw [splitL, if_neg hc, ih h]
theorem splitL_len : ∀ (l : List UInt8), (splitL l).length ≤ l.length + 1 ∧ ∀ p ∈ splitL l, p.length ≤ l.length := by
  intro l
  induction l with
  | nil => simp [splitL]
  | cons c r ih =>
    unfold splitL
    split
    · refine ⟨by simp; (first | lia | omega), fun p hp => ?_⟩
      rcases List.mem_cons.mp hp with rfl | hp
      · simp
      · have := ih.2 p hp; simp; (first | lia | omega)
    · cases hs : splitL r with
      | nil => simp
      | cons q qs =>
        rw [hs] at ih
        refine ⟨by simpa using (by have := ih.1; simp at this; (first | lia | omega)), fun p hp => ?_⟩
        rcases List.mem_cons.mp hp with rfl | hp
        · have := ih.2 q List.mem_cons_self; simp; (first | lia | omega)
        · have := ih.2 p (List.mem_cons_of_mem _ hp); simp; (first | lia | omega)
/-- b.split(b'/') -/
theorem call_split {Q : Value → Shared → Prop} (hz : b.size ≤ 1000000) (h : ∀ vs tk, BytesAre vs (splitL b.toList) → Q (.ref s.heap.objs.size) { s with heap := s.heap.push { cls := .type "list", data := .seq vs.toArray }, toks := tk }) :
    wpAny (model prog w) A (call (.builtin "bytes.split") [.bytes b t, .bytes #[47] u]) Q E s := by
  refine wpAny_call_entry slot_split typeIs_bytes en_split ?_ (ar_split _ _)
  show wpAny _ _ (Bytes.bytesLike _ (.bytes #[47] u) >>= fun r => _) _ _ s
  refine wpAny_bind ?_
  unfold Bytes.bytesLike
  refine wpAny_bind (wpAny_of_eq KBy.buffer_eq (wpAny_pure ?_))
  show wpAny _ _ (if ((Bytes.occurrences b #[47] 0 b.size).take (b.size + 1)).isEmpty = true then _ else _) _ _ s
  have ht : (Bytes.occurrences b #[47] 0 b.size).take (b.size + 1) = places b.toList 0 := by
    rw [occ_eq]
    refine List.take_of_length_le ?_
    have : ∀ (l : List UInt8) (k : Nat), (places l k).length ≤ l.length := by
      intro l
      induction l with
      | nil => intro k; simp [places]
      | cons c r ih => intro k; unfold places; split <;> simp <;> have := ih (k + 1) <;> (first | lia | omega)
    have := this b.toList 0
    simp only [Array.length_toList] at this
    (first | lia | omega)
  rw [ht]
  by_cases he : (places b.toList 0).isEmpty = true
  · rw [if_pos he]
    refine wpAny_bind (wpAny_rule ?_)
    refine wpAny_bind ?_
    show wpAny _ _ (typeOf (.bytes b t) >>= fun r => _) _ _ s
    refine wpAny_bind (wpAny_typeOf typeIs_bytes ?_)
    rw [if_pos (by rfl)]
    refine wpAny_pure ?_
    refine wpAny_bind ?_
    refine wpAny_newList (items := [.bytes b t]) ?_ (by show 1 ≤ sizeLine; decide)
    refine wpAny_pure ⟨_, rfl, h [.bytes b t] s.toks ?_⟩
    rw [places_nil (List.isEmpty_iff.mp he)]
    exact .cons rfl .nil
  · rw [if_neg he]
    show wpAny _ _ (List.mapM (Bytes.Kind.new .bytes) (Bytes.between b 1 ((Bytes.occurrences b #[47] 0 b.size).take (b.size + 1))) >>= fun r => _) _ _ s
    rw [ht]
    have hl := splitL_len b.toList
    refine wpAny_bind (mapM_new _ _ _ (fun p hp => ?_) fun vs tk hv => wpAny_bind ?_)
    · have hm : p.toList ∈ splitL b.toList := by rw [← between_eq]; exact List.mem_map_of_mem hp
      have := hl.2 _ hm
      simp only [Array.length_toList] at this
      rw [sizeLine_eq]; (first | lia | omega)
    · have hv' : BytesAre vs (splitL b.toList) := by
        rw [← between_eq]; exact hv
      refine wpAny_newList (items := vs) ?_ ?_
      · exact wpAny_pure ⟨_, rfl, h vs tk hv'⟩
      · have := hl.1
        rw [hv'.length, sizeLine_eq]
        simp only [Array.length_toList] at this
        (first | lia | omega)
end
end Mine
end
theorem Mine.calmL4 : True := by w_top off; trivial
section
open PySem PySem.W PyProof.Rows PySem.Calls
open PySem.Builtin
set_option maxRecDepth 100000
set_option maxHeartbeats 4000000
set_option linter.unusedSimpArgs false
namespace Mine
section
variable {prog : Program} {w : World} {M : Model} {s : Shared} {A : Around} {E : Value → Shared → Prop} {b c : Array UInt8} {t u : Tok}
theorem take_eq {id : String} : Bytes.takeBufferQuiet? id (.bytes b t) 0 = pure (some (b, none)) := by
  unfold Bytes.takeBufferQuiet? Bytes.takeBuffer?
  rw [KBy.special_eq KBy.look_buffer, KBy.own_buffer]
  simp only [pure_bind]
  have e : Bytes.buffer? id (.bytes b t) (0 == Bytes.fullReadOnly) = pure (some b) := KBy.buffer_eq
  rw [e]
  rfl
theorem wp_range {β : Type} {F : Nat → β → Sem (ForInStep β)} {Q : β → Shared → Prop} (I : Nat → β → Shared → Prop) : ∀ (n k : Nat) (b : β) (s : Shared), I k b s →
    (∀ i b s, k ≤ i → i < k + n → I i b s → wpAny M A (F i b) (fun r s' => ∃ b', r = .yield b' ∧ I (i + 1) b' s') E s) → (∀ b s, I (k + n) b s → Q b s) → wpAny M A (forIn (List.range' k n) b F) Q E s
  | 0, k, b, s, hI, _, hQ => by rw [List.range'_zero, List.forIn_nil]; exact wpAny_pure (hQ b s hI)
  | n + 1, k, b, s, hI, hs, hQ => by
    rw [List.range'_succ, List.forIn_cons]
    refine wpAny_bind (wpAny_mono (hs k b s (Nat.le_refl _) (by (first | lia | omega)) hI) (fun r s' hr => ?_) fun _ _ e => e)
    obtain ⟨b', rfl, hI'⟩ := hr
    exact wp_range I n (k + 1) b' s' hI' (fun i b s h1 h2 h3 => hs i b s (by (first | lia | omega)) (by (first | lia | omega)) h3) (fun b s h => hQ b s (by rw [show k + (n + 1) = k + 1 + n by (first | lia | omega)]; exact h))
theorem BytesAre.get {vs : List Value} {ls : List (List UInt8)} {i : Nat} (h : BytesAre vs ls) (hi : i < vs.length) : ∃ b t, vs[i]? = some (.bytes b t) ∧ ls[i]? = some b.toList := by
  induction h generalizing i with
  | nil => exact absurd hi (Nat.not_lt_zero _)
  | cons e _ ih =>
    cases i with
    | zero => exact ⟨_, _, rfl, congrArg some e.symm⟩
    | succ i => exact ih (Nat.lt_of_succ_lt_succ hi)
theorem letGo_none : ∀ (vs : List Value) (keep : List Value) (s : Shared) (Q : Unit → Shared → Prop), Q () s → wpAny M A (Bytes.joinLetGo (vs.map fun v => (v, none)) keep) Q E s
  | [], _, _, _, h => wpAny_pure h
  | v :: vs, keep, s, Q, h => by
    show wpAny M A (letGo [v] _ >>= fun _ => _) Q E s
    exact wpAny_bind (wpAny_letGo (letGo_none vs keep s Q h))
theorem joined_eq (parts : List (Array UInt8)) : (Bytes.joined #[47] parts).toList = [47].intercalate (parts.map (·.toList)) := by
  have key : ∀ (ps : List (Array UInt8)) (k : Nat) (out : Array UInt8), 0 < k → ((ps.zipIdx k).foldl (fun out (p, i) => (if i > 0 then out ++ #[47] else out) ++ p) out).toList = out.toList ++ (ps.map fun p => (47 : UInt8) :: p.toList).flatten := by
    intro ps
    induction ps with
    | nil => intro k out hk; simp
    | cons p ps ih =>
      intro k out hk
      rw [List.zipIdx_cons, List.foldl_cons, ih _ _ (by (first | lia | omega))]
      dsimp only
      rw [if_pos hk]
      simp
  unfold Bytes.joined
  cases parts with
  | nil => rfl
  | cons p ps =>
    rw [List.zipIdx_cons, List.foldl_cons, key _ _ _ (by (first | lia | omega))]
    dsimp only
    rw [if_neg (by (first | lia | omega))]
    have : ∀ (qs : List (List UInt8)) (q : List UInt8), [47].intercalate (q :: qs) = q ++ (qs.map fun p => (47 : UInt8) :: p).flatten := by
      intro qs
      induction qs with
      | nil => intro q; simp [List.intercalate]
      | cons r qs ih =>
        intro q
        have := ih r
        simp only [List.intercalate, List.intersperse_cons_cons, List.flatten_cons, List.map_cons, List.cons_append, List.nil_append] at this ⊢
        rw [this]
    rw [List.map_cons, this]
    simp [List.map_map, Function.comp_def]
theorem BytesAre.noHeap {vs : List Value} {ls : List (List UInt8)} (h : BytesAre vs ls) : ∀ v ∈ vs, v.onHeap = false := by
  induction h with
  | nil => exact fun _ q => nomatch q
  | cons _ _ ih => exact List.forall_mem_cons.mpr ⟨rfl, ih⟩
theorem fold_sizes (ps : List (Array UInt8)) : ∀ k : Nat, ps.foldl (fun x y => x + y.size) k = k + ((ps.map (·.toList)).map List.length).sum := by
  induction ps with
  | nil => intro k; simp
  | cons p ps ih => intro k; rw [List.foldl_cons, ih]; simp; (first | lia | omega)
theorem inter_len (ls : List (List UInt8)) : ([47].intercalate ls).length ≤ (ls.map List.length).sum + ls.length := by
  induction ls with
  | nil => simp [List.intercalate]
  | cons p ps ih =>
    cases ps with
    | nil => simp [List.intercalate]
    | cons q qs =>
      simp only [List.intercalate, List.intersperse_cons_cons, List.flatten_cons, List.length_append, List.map_cons, List.sum_cons, List.length_cons, List.length_nil] at ih ⊢
      (first | lia | omega)
theorem call_join {l : Addr} {vs : List Value} {ls : List (List UInt8)} {Q : Value → Shared → Prop} (hl : s.heap.IsList l vs.toArray) (hv : BytesAre vs ls) (hn : vs.length ≠ 1) (hsz : (ls.map List.length).sum + ls.length ≤ 1000000)
    (h : ∀ r t' tk, r.toList = [47].intercalate ls → Q (.bytes r t') { s with toks := tk }) :
    wpAny (model prog w) A (call (.builtin "bytes.join") [.bytes #[47] u, .ref l]) Q E s := by
  obtain ⟨o, ho, hc, n, hd⟩ := hl
  have hT : s.TypeIs (.ref l) "list" := ⟨o, ho, hc⟩
  refine wpAny_call_entry slot_join typeIs_bytes en_join ?_ (ar_join _ _)
  show wpAny _ _ (Bytes.joinItems (.ref l) >>= fun r => _) _ _ s
  refine wpAny_bind ?_
  unfold Bytes.joinItems
  refine wpAny_bind (wpAny_typeOf hT ?_)
  rw [if_pos (by rfl)]
  refine wpAny_pure ?_
  show wpAny _ _ (seqItems? (.ref l) >>= fun r => _) _ _ s
  refine wpAny_bind (wpAny_seqItems ho hd ?_)
  obtain ⟨vs', hvs'⟩ : ∃ x, x = vs := ⟨_, rfl⟩
  have hv' : BytesAre vs' ls := hvs' ▸ hv
  have hd' : o.data = Data.seq vs'.toArray n := hvs' ▸ hd
  have hz : vs.toArray.size = vs'.length := by rw [hvs']; simp
  have er : ∀ {β : Type} (b : β) (F : Nat → β → Sem (ForInStep β)), forIn [:vs.toArray.size] b F = forIn (List.range' 0 vs'.length) b F := by
    intro β b F
    rw [hvs']
    simp [Std.Legacy.Range.forIn_eq_forIn_range', Std.Legacy.Range.size]
  clear hv hd hvs'
  rcases vs with _ | ⟨a, _ | ⟨b', r⟩⟩
  rotate_left
  · exact absurd rfl hn
  all_goals
    clear hn
    show wpAny _ _ (forIn [:_] _ _ >>= fun r => _) _ _ s
    rw [er]
    refine wpAny_bind ?_
    refine wp_range (fun i x s' => s' = s ∧ x.1.toList.map (·.toList) = ls.take i ∧ x.2 = (vs'.take i).map fun v => (v, none)) _ 0 _ _ ⟨rfl, by simp, by simp⟩ (fun i x s' _ hi hI => ?_) fun x s' hI => ?_
    · obtain ⟨rfl, hp, htk⟩ := hI
      obtain ⟨b, tb, hb, hlb⟩ := hv'.get (i := i) (by (first | lia | omega))
      refine wpAny_bind (wpAny_seqItems ho hd' ?_)
      have hx : vs'.toArray.getD i Value.none = .bytes b tb := by
        simp [Array.getD_eq_getD_getElem?, hb]
      have hany : (x.2.any fun x => x.1.onHeap) = false := by
        rw [htk, List.any_map, List.any_eq_false]
        intro v hv2
        have := hv'.noHeap v (List.mem_of_mem_take hv2)
        simpa using this
      dsimp only
      rw [hx, hany, if_neg (by decide)]
      refine wpAny_bind (wpAny_holding (wpAny_of_eq take_eq ?_))
      dsimp only
      refine wpAny_bind (wpAny_seqItems ho hd' ?_)
      dsimp only
      rw [if_neg (by simp [hz] at *)]
      refine wpAny_pure ⟨_, rfl, rfl, ?_, ?_⟩
      · rw [Array.toList_push, List.map_append, hp, List.take_add_one, hlb]; rfl
      · rw [htk, List.take_add_one, hb]; simp
    · obtain ⟨rfl, hp, htk⟩ := hI
      have hll := hv'.length
      have hp' : x.1.toList.map (·.toList) = ls := by rw [hp, Nat.zero_add, hll, List.take_length]
      have htk' : x.2 = vs'.map fun v => (v, none) := by rw [htk, Nat.zero_add, List.take_length]
      have hn1 : x.1.size = ls.length := by rw [← hp']; simp
      refine wpAny_bind (wpAny_of_eq (a := #[47]) rfl ?_)
      dsimp only
      have hto : Bytes.tooLong (Array.foldl (fun x1 x2 => x1 + x2.size) (Array.size #[(47 : UInt8)] * (x.1.size - 1)) x.1) = false := by
        refine KBy.tooLong_not ?_
        rw [← Array.foldl_toList, fold_sizes, hp', hn1]
        show 1 * (ls.length - 1) + _ ≤ _
        (first | lia | omega)
      rw [hto, if_neg Bool.false_ne_true]
      have hjl : (Bytes.joined #[47] x.1.toList).toList = [47].intercalate ls := by rw [joined_eq, hp']
      refine wpAny_bind (wpAny_mkBytes ?_ ?_)
      · refine wpAny_bind (wpAny_holding (wpAny_point ?_))
        rw [htk']
        refine wpAny_bind (letGo_none _ _ _ _ ?_)
        exact wpAny_pure ⟨_, rfl, h _ _ _ hjl⟩
      · rw [← Array.length_toList, hjl, sizeLine_eq]
        have := inter_len ls
        (first | lia | omega)
end
end Mine
end
theorem Mine.calmL5 : True := by w_top off; trivial
section
open PySem PySem.W PyProof.Rows PySem.Calls
open PySem.Builtin
set_option maxRecDepth 100000
set_option maxHeartbeats 4000000
set_option linter.unusedSimpArgs false
namespace Mine
section
variable {prog : Program} {w : World} {M : Model} {s : Shared} {A : Around} {E : Value → Shared → Prop} {b c : Array UInt8} {t u : Tok}
theorem gives_bytes_lt (b c : Array UInt8) (t u : Tok) : Gives («bytes.__lt__» ⟨[.bytes b t, .bytes c u], []⟩) (.val (.bool (Bytes.order b.toList c.toList == .lt))) := by
  refine .of_wp fun M A E s Q hq => ?_
  show wpAny M A (isInstance (.bytes c u) (.type "bytes") >>= fun r => _) _ E s
  refine wpAny_bind (wpAny_isInstance typeIs_bytes F.sub_bytes_bytes ?_)
  exact wpAny_pure ⟨_, rfl, hq⟩
theorem gives_bytes_gt (b c : Array UInt8) (t u : Tok) : Gives («bytes.__gt__» ⟨[.bytes b t, .bytes c u], []⟩) (.val (.bool (Bytes.order b.toList c.toList == .gt))) := by
  refine .of_wp fun M A E s Q hq => ?_
  show wpAny M A (isInstance (.bytes c u) (.type "bytes") >>= fun r => _) _ E s
  refine wpAny_bind (wpAny_isInstance typeIs_bytes F.sub_bytes_bytes ?_)
  exact wpAny_pure ⟨_, rfl, hq⟩
theorem slot_b_lt : Slot "bytes" "__lt__" "bytes.__lt__" := .of (owner := "bytes") (n := "__lt__") (by rw [typeLookup_type, builtinLookup_eq_fast]; kernel_rfl) (by decide +kernel) (by decide +kernel) (by decide +kernel)
    (by first | exact .inl (by decide +kernel) | exact .inr (by decide +kernel)) (by rw [isSubtype_type]; kernel_rfl)
theorem en_b_lt : entryFor table "bytes.__lt__" = some Builtin.«bytes.__lt__» := entryFor_of_fast (by kernel_rfl)
theorem ar_b_lt (a b : Value) : argsOk "bytes.__lt__" ⟨[a, b], []⟩ := by unfold argsOk; kernel_rfl
theorem slot_b_gt : Slot "bytes" "__gt__" "bytes.__gt__" := .of (owner := "bytes") (n := "__gt__") (by rw [typeLookup_type, builtinLookup_eq_fast]; kernel_rfl) (by decide +kernel) (by decide +kernel) (by decide +kernel)
    (by first | exact .inl (by decide +kernel) | exact .inr (by decide +kernel)) (by rw [isSubtype_type]; kernel_rfl)
theorem en_b_gt : entryFor table "bytes.__gt__" = some Builtin.«bytes.__gt__» := entryFor_of_fast (by kernel_rfl)
theorem ar_b_gt (a b : Value) : argsOk "bytes.__gt__" ⟨[a, b], []⟩ := by unfold argsOk; kernel_rfl
theorem lt_bytes {Q : Value → Shared → Prop} (h : Q (.bool (Bytes.order b.toList c.toList == .lt)) s) : wpAny (model prog w) A (compareOp .Lt (.bytes b t) (.bytes c u)) Q E s :=
  compareOp_gives (op := .Lt) typeIs_bytes typeIs_bytes slot_b_lt en_b_lt (ar_b_lt _ _) (gives_bytes_lt b c t u) (fun e => nomatch e) h
theorem gt_bytes {Q : Value → Shared → Prop} (h : Q (.bool (Bytes.order b.toList c.toList == .gt)) s) : wpAny (model prog w) A (compareOp .Gt (.bytes b t) (.bytes c u)) Q E s :=
  compareOp_gives (op := .Gt) typeIs_bytes typeIs_bytes slot_b_gt en_b_gt (ar_b_gt _ _) (gives_bytes_gt b c t u) (fun e => nomatch e) h
theorem call_join1 {l : Addr} {Q : Value → Shared → Prop} (hl : s.heap.IsList l #[.bytes b t]) (h : Q (.bytes b t) s) :
    wpAny (model prog w) A (call (.builtin "bytes.join") [.bytes #[47] u, .ref l]) Q E s := by
  obtain ⟨o, ho, hc, n, hd⟩ := hl
  have hT : s.TypeIs (.ref l) "list" := ⟨o, ho, hc⟩
  refine wpAny_call_entry slot_join typeIs_bytes en_join ?_ (ar_join _ _)
  show wpAny _ _ (Bytes.joinItems (.ref l) >>= fun r => _) _ _ s
  refine wpAny_bind ?_
  unfold Bytes.joinItems
  refine wpAny_bind (wpAny_typeOf hT ?_)
  rw [if_pos (by rfl)]
  refine wpAny_pure ?_
  show wpAny _ _ (seqItems? (.ref l) >>= fun r => _) _ _ s
  refine wpAny_bind (wpAny_seqItems ho hd ?_)
  show wpAny _ _ (typeOf (.bytes b t) >>= fun r => _) _ _ s
  refine wpAny_bind (wpAny_typeOf typeIs_bytes ?_)
  rw [if_pos (by rfl)]
  exact wpAny_bind (wpAny_rule (wpAny_pure ⟨_, rfl, h⟩))
theorem call_joinA {l : Addr} {vs : List Value} {ls : List (List UInt8)} {Q : Value → Shared → Prop} (hl : s.heap.IsList l vs.toArray) (hv : BytesAre vs ls) (hsz : (ls.map List.length).sum + ls.length ≤ 1000000)
    (h : ∀ r t' tk, r.toList = [47].intercalate ls → Q (.bytes r t') { s with toks := tk }) :
    wpAny (model prog w) A (call (.builtin "bytes.join") [.bytes #[47] u, .ref l]) Q E s := by
  by_cases hn : vs.length = 1
  · cases hv with
    | nil => cases hn
    | cons e r =>
      cases r with
      | nil => exact call_join1 hl (h _ _ s.toks (by rw [e]; simp [List.intercalate]))
      | cons _ _ => simp at hn
  · exact call_join hl hv hn hsz h
end
end Mine
end
theorem Mine.calmF1 : True := by w_top off; trivial
section
open PySem PySem.W PyProof.Rows PySem.Calls
set_option maxRecDepth 100000
set_option maxHeartbeats 4000000
namespace Mine
theorem fill (w : World) (h : Heap) : (hd.heap_1 w.params).In h → PySem.Challenge.rw_pd0134_01.row.prog = PySem.Challenge.rw_pd0134_01.row.prog → True := by
  k_fill; intros; trivial
section
variable {w : World} {s : Shared} {A : Around} {Q E : Value → Shared → Prop} {b c : Array UInt8} {t u : Tok}
theorem fspath_c (O : Ok w s.heap) (r : Room A 3) (h : ∀ h' tk', Keep s.heap h' → Q (.bytes b t) { s with heap := h', toks := tk' }) :
    wpAny (model PySem.Challenge.rw_pd0134_01.row.prog w) A (call (.ref 94) [.bytes b t]) Q E s := by
  obtain ⟨p, loose, mean, mg, mb, T⟩ := O.T
  refine enter (n := 2) O r (by k_is) (by k_is) (BindsTo.of_eq rfl) (locs rfl) ?_
  intro dp un L h₁ tk hd hu F N X
  w_strict (k_steps; (refine call_type_of (Tx := "bytes") rfl (by decide +kernel) ?_); k_steps)
  (rename News _ _ _ _ => N')
  refine call_isub (N' _ (.head _)).1 ?_
  w_strict (k_steps)
  exact h _ _ (Fr.keep (by assumption))
theorem getsep_c (O : Ok w s.heap) (r : Room A 3) (h : ∀ h' tk' t', Keep s.heap h' → Q (.bytes #[47] t') { s with heap := h', toks := tk' }) :
    wpAny (model PySem.Challenge.rw_pd0134_01.row.prog w) A (call (.ref 108) [.bytes b t]) Q E s := by
  obtain ⟨p, loose, mean, mg, mb, T⟩ := O.T
  refine enter (n := 2) O r (by k_is) (by k_is) (BindsTo.of_eq rfl) (locs rfl) ?_
  intro dp un L h₁ tk hd hu F N X
  w_strict (k_steps)
  exact h _ _ _ (Fr.keep (by assumption))
end
end Mine
end
theorem Mine.calmC0 : True := by w_top off; trivial
section
open PySem PySem.W PyProof.Rows PySem.Calls
set_option maxRecDepth 100000
set_option maxHeartbeats 4000000
namespace Mine
section
variable {prog : Program} {w : World} {A : Around} {E : Value → Shared → Prop} {s : Shared} {env : Env}
/-- what a comprehension goes over -/
def Src (prog : Program) (w : World) (A : Around) (s₁ : Shared) (xv : Value) (n : Nat) (P : Nat → Value → Prop) : Prop :=
  ∀ (Q : Value → Shared → Prop) (E : Value → Shared → Prop), (∀ I fp St h', Keep s₁.heap h' → s₁.heap.get? I = none → Walks prog w A I fp [I] n P St → St 0 h' → (∀ b ∈ fp, b < h'.objs.size) → (∀ i h, St i h → ∃ o, h.get? I = some o) → (∀ b ∈ fp, b = I ∨ xv = .ref b) → Q (.ref I) { s₁ with heap := h' }) →
    wpAny (model prog w) A (pyIter xv) Q E s₁
theorem new_none (h : Heap) : h.get? h.objs.size = none := Heap.get?_none_of_le (Nat.le_refl _)
theorem src_list {a : Addr} {its : Array Value} (hh : A.handled = none) (hl : s.heap.IsList a its) : Src prog w A s (.ref a) its.size (fun i v => its[i]? = some v) := by
  intro Q E h
  have hlt : a < s.heap.objs.size := by obtain ⟨_, e, _⟩ := hl; exact Heap.lt_size e
  refine wpAny_pyIter_list hl (h s.heap.objs.size _ _ _ (fun b o e => Heap.get?_push_of_some _ e) (new_none _) (Walks.list hh s.heap.objs.size a (Nat.ne_of_lt hlt) its) ⟨⟨_, Heap.get?_push_size _ rfl, rfl, rfl⟩, hl.push _⟩ ?_ ?_ ?_)
  · intro b hb
    rw [Heap.size_push]
    rcases List.mem_cons.mp hb with rfl | hb
    · exact Nat.lt_succ_self _
    · rw [List.mem_singleton.mp hb]; exact Nat.lt_succ_of_lt hlt
  · intro i h st; obtain ⟨o, e, _⟩ := st.1; exact ⟨o, e⟩
  · intro b hb; simp only [List.mem_cons, List.not_mem_nil, or_false] at hb; rcases hb with rfl | rfl <;> simp
theorem src_tuple {a : Addr} {its : Array Value} (hh : A.handled = none) (hl : s.heap.IsTuple a its) : Src prog w A s (.ref a) its.size (fun i v => its[i]? = some v) := by
  intro Q E h
  have hlt : a < s.heap.objs.size := by obtain ⟨_, e, _⟩ := hl; exact Heap.lt_size e
  refine wpAny_pyIter_tuple hl (h s.heap.objs.size _ _ _ (fun b o e => Heap.get?_push_of_some _ e) (new_none _) (Walks.tuple hh s.heap.objs.size a (Nat.ne_of_lt hlt) its) ⟨⟨_, Heap.get?_push_size _ rfl, rfl, rfl⟩, hl.push _⟩ ?_ ?_ ?_)
  · intro b hb
    rw [Heap.size_push]
    rcases List.mem_cons.mp hb with rfl | hb
    · exact Nat.lt_succ_self _
    · rw [List.mem_singleton.mp hb]; exact Nat.lt_succ_of_lt hlt
  · intro i h st; obtain ⟨o, e, _⟩ := st.1; exact ⟨o, e⟩
  · intro b hb; simp only [List.mem_cons, List.not_mem_nil, or_false] at hb; rcases hb with rfl | rfl <;> simp
/-- all of h lies below C -/
abbrev Under (h : Heap) (C : Addr) : Prop := ∀ b o, h.get? b = some o → b < C
theorem Under.none {h : Heap} {C : Addr} (u : Under h C) : h.get? C = none := by
  cases e : h.get? C with
  | none => rfl
  | some o => exact absurd (u _ _ e) (Nat.lt_irrefl _)
theorem frComp {h₀ h h3 : Heap} {L C : Addr} {m m₃ : Str → Option Value} (F : Fr h₀ L h m) (hn : h3.Ns C m₃) (hk : Keep h h3) (u : Under h C) : Fr h₀ C h3 m₃ :=
  ⟨hn, Keep.trans F.keep hk, by obtain ⟨o, _, _, ho, _⟩ := F.ns; exact Nat.le_trans F.above (Nat.le_of_lt (u _ _ ho))⟩
theorem newsComp {h₀ h h3 : Heap} {L C : Addr} {news : List (Addr × Obj)} (N : News h₀ L h news) (hk : Keep h h3) (u : Under h C) : News h₀ C h3 news :=
  fun p hp => ⟨hk _ _ (N p hp).1, Nat.ne_of_lt (u _ _ (N p hp).1), (N p hp).2.2⟩
theorem Keeps.keep {s s' : Shared} (k : Keeps s s') : Keep s.heap s'.heap := by obtain ⟨h', tk, rfl, hk⟩ := k; exact hk

theorem lc_free {elt iter : Expr} {x : Str} {px : Pos} {ifs : List Expr} {scope : Scope} {cl : List (Str × Addr)} {pos : Pos} {Q : Value → Shared → Prop} {n : Nat} {P : Nat → Value → Prop} (p : Value → Bool) (F : Value → Value → Prop)
    (hsrc : wpAny (model prog w) A (eval iter env) (fun xv s₁ => Keeps s s₁ ∧ Src prog w A s₁ xv n P) E s) (hz : n ≤ sizeLine)
    (ht : ∀ C i v s₃ m₃ E', P i v → s₃.heap.Ns C m₃ → m₃ x = some v → Keep s.heap s₃.heap → Under s.heap C →
      wpAny (model prog w) A (forIn ifs true fun c r => if r = true then do let ok ← isTrue c (compEnvC scope cl C env) (eval c (compEnvC scope cl C env)); pure (ForInStep.yield ok) else pure (ForInStep.yield r)) (fun ok s₄ => ok = p v ∧ Keeps s₃ s₄) E' s₃)
    (he : ∀ C i v s₃ m₃ E', P i v → p v = true → s₃.heap.Ns C m₃ → m₃ x = some v → Keep s.heap s₃.heap → Under s.heap C →
      wpAny (model prog w) A (eval elt (compEnvC scope cl C env)) (fun y s₄ => F v y ∧ Keeps s₃ s₄) E' s₃)
    (h : ∀ D h' tk ys (vs : List Value), s.heap.get? D = none → h'.IsList D ys → vs.length = n → (∀ j v, vs[j]? = some v → P j v) → Paired F (vs.filter p) ys.toList → Keep s.heap h' → Q (.ref D) { s with heap := h', toks := tk })
    (hclos : closureFor scope env = pure cl := by rfl) (hcell : ∀ y ∈ scope.names, y.2 ≠ .cell := by decide) (hkind : scope.kind = .function := by rfl)
    (hnames : ∀ y ∈ scope.names, y.2 = .local → scope.names.lookup y.1 = some .local := by decide) (hx : scope.names.lookup x = some .local := by decide)
    (hs : ∀ x, foldedSetIterable iter env x = pure x := by intro _; rfl) :
    wpAny (model prog w) A (eval (.ListComp elt [⟨.Name x px, iter, ifs, 0⟩] scope pos) env) Q E s := by
  refine wpAny_ListComp_free p F hclos hcell hkind hnames hx (wpAny_mono hsrc (fun xv s₁ h₁ => ?_) fun _ _ e => e) hs
  obtain ⟨⟨h1, tk1, rfl, hk1⟩, hsr⟩ := h₁
  refine hsr _ _ fun I fp St h2 hk2 hI W hst hfp _ _ => ?_
  have up : Keep s.heap h2 := Keep.trans hk1 hk2
  have hIs : s.heap.get? I = none := by
    cases e : s.heap.get? I with
    | none => rfl
    | some o => rw [hk1 _ _ e] at hI; cases hI
  have ne : ∀ b o, s.heap.get? b = some o → b ∉ [I] := fun b o e hb => by rw [List.mem_singleton.mp hb, hIs] at e; cases e
  refine ⟨I, fp, [I], n, P, St, rfl, W, hz, hst, hfp, ⟨?_, ?_⟩, ?_⟩
  · intro C i v s₃ m₃ E' hC hP hn hm hk _
    exact ht C i v s₃ m₃ E' hP hn hm (fun b o e => hk b o (ne b o e) (up _ _ e)) (fun b o e => Nat.lt_of_lt_of_le (Heap.lt_size (up _ _ e)) hC)
  · intro C i v s₃ m₃ E' hC hP hp hn hm hk _
    exact he C i v s₃ m₃ E' hP hp hn hm (fun b o e => hk b o (ne b o e) (up _ _ e)) (fun b o e => Nat.lt_of_lt_of_le (Heap.lt_size (up _ _ e)) hC)
  · intro D h' tk ys vs hD hl _ hlen hP hF hk
    refine h D h' tk ys vs ?_ hl hlen hP hF (fun b o e => hk b o (ne b o e) (up _ _ e))
    cases e : s.heap.get? D with
    | none => rfl
    | some o =>
      have e2 : h2.get? D = some o := up _ _ e
      rw [show h2.get? D = none from hD] at e2; cases e2
theorem alc_free {elt iter : Expr} {x : Str} {px : Pos} {ifs : List Expr} {scope : Scope} {cl : List (Str × Addr)} {pos : Pos} {n : Nat} {P : Nat → Value → Prop} {y : Str} {py spos : Pos} {Q : Flow → Shared → Prop} {h₀ : Heap} {L : Addr} {m : Str → Option Value} (F₀ : Fr h₀ L s.heap m) (hLe : env.locals = L) (p : Value → Bool) (F : Value → Value → Prop)
    (hsrc : wpAny (model prog w) A (eval iter env) (fun xv s₁ => Keeps s s₁ ∧ Src prog w A s₁ xv n P) E s) (hz : n ≤ sizeLine)
    (ht : ∀ C i v s₃ m₃ E', P i v → s₃.heap.Ns C m₃ → m₃ x = some v → Keep s.heap s₃.heap → Under s.heap C →
      wpAny (model prog w) A (forIn ifs true fun c r => if r = true then do let ok ← isTrue c (compEnvC scope cl C env) (eval c (compEnvC scope cl C env)); pure (ForInStep.yield ok) else pure (ForInStep.yield r)) (fun ok s₄ => ok = p v ∧ Keeps s₃ s₄) E' s₃)
    (he : ∀ C i v s₃ m₃ E', P i v → p v = true → s₃.heap.Ns C m₃ → m₃ x = some v → Keep s.heap s₃.heap → Under s.heap C →
      wpAny (model prog w) A (eval elt (compEnvC scope cl C env)) (fun y s₄ => F v y ∧ Keeps s₃ s₄) E' s₃)
    (h : ∀ D h' tk ys (vs : List Value), s.heap.get? D = none → h'.IsList D ys → vs.length = n → (∀ j v, vs[j]? = some v → P j v) → Paired F (vs.filter p) ys.toList → Fr h₀ L h' (fun z => if z = y then some (.ref D) else m z) → (∀ b o, b ≠ L → s.heap.get? b = some o → h'.get? b = some o) → Q .next { s with heap := h', toks := tk })
    (hsw : swapsWith (.ListComp elt [⟨.Name x px, iter, ifs, 0⟩] scope pos) (some (.Name y py)) spos.line env = pure true := by rfl)
    (hy : env.kindOf y = some .local := by rfl) (hp : (env.scope.kind == .class || (env.scope.kind == .module && env.locals != env.globals)) = false := by rfl)
    (hclos : closureFor scope env = pure cl := by rfl) (hcell : ∀ y ∈ scope.names, y.2 ≠ .cell := by decide) (hkind : scope.kind = .function := by rfl)
    (hnames : ∀ y ∈ scope.names, y.2 = .local → scope.names.lookup y.1 = some .local := by decide) (hx : scope.names.lookup x = some .local := by decide)
    (hs : ∀ x, foldedSetIterable iter env x = pure x := by intro _; rfl) :
    wpAny (model prog w) A (exec (.Assign [.Name y py] (.ListComp elt [⟨.Name x px, iter, ifs, 0⟩] scope pos) spos) env) Q E s := by
  subst hLe
  refine wpAny_Assign_ListComp_free p F hsw hclos hcell hkind hnames hx hy hp (wpAny_mono hsrc (fun xv s₁ h₁ => ?_) fun _ _ e => e) hs
  obtain ⟨⟨h1, tk1, rfl, hk1⟩, hsr⟩ := h₁
  refine hsr _ _ fun I fp St h2 hk2 hI W hst hfp hlv _ => ?_
  have up : Keep s.heap h2 := Keep.trans hk1 hk2
  have hIs : s.heap.get? I = none := by
    cases e : s.heap.get? I with
    | none => rfl
    | some o => rw [hk1 _ _ e] at hI; cases hI
  have ne : ∀ b o, s.heap.get? b = some o → b ∉ [I] := fun b o e hb => by rw [List.mem_singleton.mp hb, hIs] at e; cases e
  have older : ∀ D, h2.get? D = none → s.heap.get? D = none := fun D hD => by
    cases e : s.heap.get? D with
    | none => rfl
    | some o => rw [up _ _ e] at hD; cases hD
  have hLI : env.locals ≠ I := fun e => by obtain ⟨o, _, _, ho, _⟩ := F₀.ns; rw [e, hIs] at ho; cases ho
  refine ⟨I, fp, [I], n, P, St, m, rfl, W, hz, hst, hfp, (fun hb => hLI (List.mem_singleton.mp hb)), F₀.ns.keeps up, ⟨?_, ?_⟩, ?_⟩
  · intro C i v s₃ m₃ E' hC hP hn hm hk _
    exact ht C i v s₃ m₃ E' hP hn hm (fun b o e => hk b o (ne b o e) (up _ _ e)) (fun b o e => Nat.lt_of_lt_of_le (Heap.lt_size (up _ _ e)) hC)
  · intro C i v s₃ m₃ E' hC hP hp hn hm hk _
    exact he C i v s₃ m₃ E' hP hp hn hm (fun b o e => hk b o (ne b o e) (up _ _ e)) (fun b o e => Nat.lt_of_lt_of_le (Heap.lt_size (up _ _ e)) hC)
  · intro D h' tk ys vs hD hl _ hlen hP hF hns hk
    have k2 : ∀ b o, b ≠ env.locals → s.heap.get? b = some o → h'.get? b = some o := fun b o hb e => hk b o hb (ne b o e) (up _ _ e)
    refine h D h' tk ys vs (older D hD) hl hlen hP hF ⟨hns, fun b o e => k2 b o (Nat.ne_of_lt (Nat.lt_of_lt_of_le (Heap.lt_size e) F₀.above)) (F₀.keep b o e), F₀.above⟩ k2
theorem alc_freeO {elt iter : Expr} {x : Str} {px : Pos} {ifs : List Expr} {scope : Scope} {cl : List (Str × Addr)} {pos : Pos} {n : Nat} {P : Nat → Value → Prop} {y : Str} {py spos : Pos} {Q : Flow → Shared → Prop} {h₀ : Heap} {L : Addr} {m : Str → Option Value} (F₀ : Fr h₀ L s.heap m) (hLe : env.locals = L) (p : Value → Bool) (G : Value → Array Value → Prop)
    (hsrc : wpAny (model prog w) A (eval iter env) (fun xv s₁ => Keeps s s₁ ∧ Src prog w A s₁ xv n P) E s) (hz : n ≤ sizeLine)
    (ht : ∀ C i v s₃ m₃ E', P i v → s₃.heap.Ns C m₃ → m₃ x = some v → Keep s.heap s₃.heap → Under s.heap C →
      wpAny (model prog w) A (forIn ifs true fun c r => if r = true then do let ok ← isTrue c (compEnvC scope cl C env) (eval c (compEnvC scope cl C env)); pure (ForInStep.yield ok) else pure (ForInStep.yield r)) (fun ok s₄ => ok = p v ∧ Keeps s₃ s₄) E' s₃)
    (he : ∀ C i v s₃ m₃ E', P i v → p v = true → s₃.heap.Ns C m₃ → m₃ x = some v → Keep s.heap s₃.heap → Under s.heap C →
      wpAny (model prog w) A (eval elt (compEnvC scope cl C env)) (fun y s₄ => (∃ T its, y = .ref T ∧ s₃.heap.get? T = none ∧ s₄.heap.IsList T its ∧ G v its) ∧ Keeps s₃ s₄) E' s₃)
    (h : ∀ D h' tk ys (vs : List Value), s.heap.get? D = none → h'.IsList D ys → vs.length = n → (∀ j v, vs[j]? = some v → P j v) → Paired (LstIs s.heap G h') (vs.filter p) ys.toList → (∀ y ∈ ys.toList, y ≠ .ref D) → Fr h₀ L h' (fun z => if z = y then some (.ref D) else m z) → (∀ b o, b ≠ L → s.heap.get? b = some o → h'.get? b = some o) → Q .next { s with heap := h', toks := tk })
    (hsw : swapsWith (.ListComp elt [⟨.Name x px, iter, ifs, 0⟩] scope pos) (some (.Name y py)) spos.line env = pure true := by rfl)
    (hy : env.kindOf y = some .local := by rfl) (hp : (env.scope.kind == .class || (env.scope.kind == .module && env.locals != env.globals)) = false := by rfl)
    (hclos : closureFor scope env = pure cl := by rfl) (hcell : ∀ y ∈ scope.names, y.2 ≠ .cell := by decide) (hkind : scope.kind = .function := by rfl)
    (hnames : ∀ y ∈ scope.names, y.2 = .local → scope.names.lookup y.1 = some .local := by decide) (hx : scope.names.lookup x = some .local := by decide)
    (hs : ∀ x, foldedSetIterable iter env x = pure x := by intro _; rfl) :
    wpAny (model prog w) A (exec (.Assign [.Name y py] (.ListComp elt [⟨.Name x px, iter, ifs, 0⟩] scope pos) spos) env) Q E s := by
  subst hLe
  rw [exec_Assign_Name_used _ _ _ _ hsw]
  refine wpAny_bind (wpAny_standAt (wpAny_bind ?_))
  show wpAny _ A (do let _ ← comprehension (.ListComp elt [⟨.Name x px, iter, ifs, 0⟩] scope pos) scope env _ (newList []) false (eval iter env) (some (assign (.Name y py) env))) _ _ s
  refine wpAny_bind (wpAny_mono (wpAny_comprehension_free (use := some (assign (.Name y py) env)) (Q := fun _ s' => Q .next s') rfl hs hclos hkind hnames
    (wpAny_mono hsrc (fun xv s₁ h₁ => ?_) fun _ _ e => e)) (fun _ s' hq => wpAny_pure (wpAny_pure hq)) fun _ _ e => e)
  obtain ⟨⟨h1, tk1, rfl, hk1⟩, hsr⟩ := h₁
  refine hsr _ _ fun I fp St h2 hk2 hI W hst hfp hlv _ => ?_
  have up : Keep s.heap h2 := Keep.trans hk1 hk2
  have hIs : s.heap.get? I = none := by
    cases e : s.heap.get? I with
    | none => rfl
    | some o => rw [hk1 _ _ e] at hI; cases hI
  have ne : ∀ b o, s.heap.get? b = some o → b ∉ [I] := fun b o e hb => by rw [List.mem_singleton.mp hb, hIs] at e; cases e
  have older : ∀ D, h2.get? D = none → s.heap.get? D = none := fun D hD => by
    cases e : s.heap.get? D with
    | none => rfl
    | some o => rw [up _ _ e] at hD; cases hD
  have hLI : env.locals ≠ I := fun e => by obtain ⟨o, _, _, ho, _⟩ := F₀.ns; rw [e, hIs] at ho; cases ho
  have hn0 : h2.Ns env.locals m := F₀.ns.keeps up
  refine comp_block_walkCO (s₂ := { s with heap := h2, toks := tk1 }) (RR := fun acc C => compPost (model prog w) A E (some (assign (.Name y py) env)) (fun _ s' => Q .next s') acc C) W hz p G (fun i h st b hb => by rw [List.mem_singleton.mp hb]; exact hlv i h st) hcell hkind hx hst hfp ⟨?_, ?_⟩ ?_
  · intro C i v s₃ m₃ E' hC hP hn hm hk _
    exact ht C i v s₃ m₃ E' hP hn hm (fun b o e => hk b o (ne b o e) (up _ _ e)) (fun b o e => Nat.lt_of_lt_of_le (Heap.lt_size (up _ _ e)) hC)
  · intro C i v s₃ m₃ E' hC hP hp hn hm hk _
    exact he C i v s₃ m₃ E' hP hp hn hm (fun b o e => hk b o (ne b o e) (up _ _ e)) (fun b o e => Nat.lt_of_lt_of_le (Heap.lt_size (up _ _ e)) hC)
  · intro D C h' tk m' ys vs hD hC hDC hnC hlD hplD hlen hP hF hnd hk
    have hLC : env.locals ≠ C := by rintro rfl; obtain ⟨o, _, _, ho, _⟩ := hn0; rw [show h2.get? _ = none from hC] at ho; cases ho
    have hLD : env.locals ≠ D := by rintro rfl; obtain ⟨o, _, _, ho, _⟩ := hn0; rw [show h2.get? _ = none from hD] at ho; cases ho
    show wpAny _ A (assign (.Name y py) env (.ref D)) _ _ _
    refine wpAny_assign_Name (wpAny_storeName_local hy (hn0.at' fun o e => hk _ o (fun hb => hLI (List.mem_singleton.mp hb)) e) (fun h₂ hn₂ hs₂ => ?_) hp)
    refine ⟨m', hnC.sameBut hs₂ (Ne.symm hLC), fun h₃ hs₃ => ?_⟩
    have k2 : ∀ b o, b ≠ env.locals → s.heap.get? b = some o → h₃.get? b = some o := fun b o hb e => hs₃.extBut b o (by rintro rfl; have e2 := up _ _ e; rw [show h2.get? _ = none from hC] at e2; cases e2) (hs₂.extBut b o hb (hk b o (ne b o e) (up _ _ e)))
    refine h D h₃ _ ys vs (older D hD) ((hlD.extBut hs₂.extBut (Ne.symm hLD)).extBut hs₃.extBut hDC) hlen hP ?_ ?_ ⟨hn₂.sameBut hs₃ hLC, fun b o e => k2 b o (Nat.ne_of_lt (Nat.lt_of_lt_of_le (Heap.lt_size e) F₀.above)) (F₀.keep b o e), F₀.above⟩ k2
    · refine hF.mono fun _ _ hy => ?_
      obtain ⟨T, its, rfl, h1, hTC, _, _, hlT, hG⟩ := hy
      have hTL : T ≠ env.locals := by rintro rfl; obtain ⟨o, _, _, ho, _⟩ := hn0; rw [show h2.get? _ = none from h1] at ho; cases ho
      exact ⟨T, its, rfl, older T h1, (hlT.extBut hs₂.extBut hTL).extBut hs₃.extBut hTC, hG⟩
    · intro z hz2 e
      obtain ⟨_, T, _, e', _, _, _, hTD, _, _⟩ := Paired.right hF z hz2
      rw [e] at e'; cases e'; exact hTD rfl
end
end Mine
end
theorem Mine.calmM0 : True := by w_top off; trivial
section
open PySem PySem.W PyProof.Rows PySem.Calls
open PySem.Builtin
set_option maxRecDepth 100000
set_option maxHeartbeats 4000000
namespace Mine
theorem slot_map_next : Slot "map" "__next__" "map.__next__" := .of (owner := "map") (n := "__next__") (by rw [typeLookup_type, builtinLookup_eq_fast]; kernel_rfl) (by decide +kernel) (by decide +kernel) (by decide +kernel)
    (by first | exact .inl (by decide +kernel) | exact .inr (by decide +kernel)) (by rw [isSubtype_type]; kernel_rfl)
theorem slot_map_iter : Slot "map" "__iter__" "map.__iter__" := .of (owner := "map") (n := "__iter__") (by rw [typeLookup_type, builtinLookup_eq_fast]; kernel_rfl) (by decide +kernel) (by decide +kernel) (by decide +kernel)
    (by first | exact .inl (by decide +kernel) | exact .inr (by decide +kernel)) (by rw [isSubtype_type]; kernel_rfl)
theorem slot_map_init : Slot "map" "__init__" "object.__init__" := .of (owner := "object") (n := "__init__") (by rw [typeLookup_type, builtinLookup_eq_fast]; kernel_rfl) (by decide +kernel) (by decide +kernel) (by decide +kernel)
    (by first | exact .inl (by decide +kernel) | exact .inr (by decide +kernel)) (by rw [isSubtype_type]; kernel_rfl)
theorem en_map_next : entryFor table "map.__next__" = some Builtin.«map.__next__» := entryFor_of_fast (by kernel_rfl)
theorem en_map_iter : entryFor table "map.__iter__" = some Builtin.«dict_keyiterator.__iter__» :=
  entryFor_alias (id' := "dict_keyiterator.__iter__") (by kernel_rfl) (by first | rfl | decide +kernel | (unfold String.splitOn; simp +decide [String.splitOnAux])) (by decide +kernel) (by kernel_rfl)
theorem ar_map_next (a : Value) : argsOk "map.__next__" ⟨[a], []⟩ := by unfold argsOk; kernel_rfl
theorem ar_map_iter (a : Value) : argsOk "map.__iter__" ⟨[a], []⟩ := by unfold argsOk; kernel_rfl
theorem mro_map : mroOf (.type "map") = pure [.type "map", .type "object"] := by rw [mroOf_type]; kernel_rfl
theorem lookup_map_new : typeLookup (.type "map") "__new__" = pure (some (.builtin "map.__new__")) := by rw [typeLookup_type, builtinLookup_eq_fast]; kernel_rfl
theorem called_map : TypeCalled "map" "map.__new__" "object.__init__" :=
  ⟨by decide +kernel, by decide +kernel, ⟨_, _, mro_map⟩, madeBy_type mro_map lookup_map_new (by decide +kernel), by decide +kernel, by rw [isSubtype_type]; kernel_rfl, slot_map_init⟩
theorem typeCall_map (a b : Value) : checkTypeCall "map" ⟨[a, b], []⟩ = pure () := by kernel_rfl
theorem newCall_map (a b : Value) : checkBuiltinCall "map.__new__" ⟨[.type "map", a, b], []⟩ = pure () := by kernel_rfl
theorem init_map (o a b : Value) : argsOk "object.__init__" ⟨[o, a, b], []⟩ := by unfold argsOk; kernel_rfl
theorem en_map_new : entryFor table "map.__new__" = some Builtin.«map.__new__» := entryFor_of_tree (by kernel_rfl)
theorem sub_map : isSubtype (.type "map") (.type "map") = pure true := by rw [isSubtype_type]; kernel_rfl
theorem map_no_len : typeLookup (.type "map") "__len__" = pure none := by rw [typeLookup_type, builtinLookup_eq_fast]; kernel_rfl
theorem map_no_hint : typeLookup (.type "map") "__length_hint__" = pure none := by rw [typeLookup_type, builtinLookup_eq_fast]; kernel_rfl
abbrev itObj (l : Addr) : Obj := { cls := .type "list_iterator", data := .fields #[.ref l, .int 0 0] }
abbrev tupObj (vs : Array Value) : Obj := { cls := .type "tuple", data := .seq vs }
abbrev mapObj (tp : Addr) (f : Value) : Obj := { cls := .type "map", data := .fields #[.ref tp, f] }
section
variable {prog : Program} {w : World} {M : Model} {s : Shared} {A : Around} {E : Value → Shared → Prop}
theorem meets_map_new (f : Value) (l : Addr) :
    Meets (Builtin.«map.__new__» ⟨[.type "map", f, .ref l], []⟩) (fun _ R s => (∃ its, s.heap.IsList l its) ∧
      R (.ok (.ret (.ref (s.heap.objs.size + 1 + 1)))) { s with heap := ((s.heap.push (itObj l)).push (tupObj #[.ref s.heap.objs.size])).push (mapObj (s.heap.objs.size + 1) f) }) :=
  .of_wp fun prog w A R s h => by
    obtain ⟨⟨its, hl⟩, h⟩ := h
    have hsub := sub_map
    have hi : isType (.type "map") = pure true := by kernel_rfl
    wp_walk using wpAny_pyIter_list hl
    refine ⟨_, rfl, ?_⟩
    simp only [Heap.size_push]
    exact h
/-- map(f, a list) -/
theorem call_map {f : Value} {l : Addr} {its : Array Value} {Q : Value → Shared → Prop} (hl : s.heap.IsList l its)
    (h : Q (.ref (s.heap.objs.size + 1 + 1)) { s with heap := ((s.heap.push (itObj l)).push (tupObj #[.ref s.heap.objs.size])).push (mapObj (s.heap.objs.size + 1) f) }) :
    wpAny (model prog w) A (call (.type "map") [f, .ref l]) Q E s := by
  refine callType_new called_map (by decide) (typeCall_map _ _) (newCall_map _ _) (fun obj => init_map obj _ _) en_map_new (meets_map_new f l) ⟨⟨its, hl⟩, ?_, h⟩
  refine ⟨mapObj (s.heap.objs.size + 1) f, ?_, rfl⟩
  have : s.heap.objs.size + 1 + 1 = ((s.heap.push (itObj l)).push (tupObj #[.ref s.heap.objs.size])).objs.size := by simp [Heap.size_push]
  show Heap.get? _ (s.heap.objs.size + 1 + 1) = _
  rw [this]
  exact Heap.get?_push_size _ rfl
end
end Mine
end
theorem Mine.calmM1 : True := by w_top off; trivial
section
open PySem PySem.W PyProof.Rows PySem.Calls
open PySem.Builtin
set_option maxRecDepth 100000
set_option maxHeartbeats 4000000
namespace Mine
abbrev lstObj (vs : List Value) : Obj := { cls := .type "list", data := .seq vs.toArray }
section
variable {prog : Program} {w : World} {M : Model} {s : Shared} {A : Around} {E : Value → Shared → Prop}
/-- a step of map: the def's contract stands for the call -/
theorem map_item {I tp J l : Addr} {f v : Value} {i : Nat} {its : Array Value} {Q : Option Value → Shared → Prop} (hI : s.heap.get? I = some (mapObj tp f)) (ht : s.heap.get? tp = some (tupObj #[.ref J]))
    (hJ : s.heap.IsListIter J l i) (hl : s.heap.IsList l its) (hv : its[i]? = some v) (hIJ : I ≠ J)
    (h : ∀ h', h'.IsListIter J l (i + 1) → Heap.SameBut J s.heap h' → wpAny (model prog w) A.in1 (call f [v]) (fun r s' => Q (some r) s') (fun _ _ => False) { s with heap := h' }) :
    wpAny (model prog w) A (pyNext (.ref I)) Q E s := by
  have hT : s.TypeIs (.ref I) "map" := ⟨_, hI, rfl⟩
  unfold pyNext
  refine wpAny_bind (wpAny_attempt (wpAny_callSpecial?_slot (name := Str.ofString "__next__") hT slot_map_next (wpAny_call_entry slot_map_next hT en_map_next ?_ (ar_map_next _))))
  show wpAny _ _ (field (.ref I) 0 >>= fun r => _) _ _ s
  refine wpAny_bind (wpAny_field (x := .ref tp) hI rfl rfl ?_)
  show wpAny _ _ (seqItems? (.ref tp) >>= fun r => _) _ _ s
  refine wpAny_bind (wpAny_seqItems ht rfl ?_)
  show wpAny _ _ (forIn #[Value.ref J] (#[] : Array Value) _ >>= fun r => _) _ _ s
  rw [← Array.forIn_toList]
  refine wpAny_bind ?_
  rw [List.forIn_cons]
  refine wpAny_bind ?_
  refine wpAny_bind (wpAny_holding (wpAny_nextOf_list_item hJ hl hv fun h' hJ' hs' => ?_))
  refine wpAny_pure ?_
  show wpAny _ _ (forIn [] _ _) _ _ _
  rw [List.forIn_nil]
  refine wpAny_pure ?_
  have hI' : h'.get? I = some (mapObj tp f) := hs'.extBut _ _ hIJ hI
  show wpAny _ _ (field (.ref I) 1 >>= fun r => _) _ _ _
  refine wpAny_bind (wpAny_field (x := f) hI' rfl rfl ?_)
  refine wpAny_bind (wpAny_holding (wpAny_mono (h h' hJ' hs') (fun r s' hr => ?_) fun _ _ e => e.elim))
  refine wpAny_bind (wpAny_letGo (wpAny_pure ⟨_, rfl, ?_⟩))
  exact wpAny_pure hr
theorem map_end {I tp J l : Addr} {f : Value} {i : Nat} {its : Array Value} {Q : Option Value → Shared → Prop} (hh : A.handled = none) (hI : s.heap.get? I = some (mapObj tp f)) (ht : s.heap.get? tp = some (tupObj #[.ref J]))
    (hJ : s.heap.IsListIter J l i) (hl : s.heap.IsList l its) (hv : its[i]? = none)
    (h : ∀ h', Heap.ExtBut J s.heap h' → Q none { s with heap := h' }) :
    wpAny (model prog w) A (pyNext (.ref I)) Q E s := by
  have hT : s.TypeIs (.ref I) "map" := ⟨_, hI, rfl⟩
  unfold pyNext
  refine wpAny_bind (wpAny_attempt (wpAny_callSpecial?_slot (name := Str.ofString "__next__") hT slot_map_next (wpAny_call_entry slot_map_next hT en_map_next ?_ (ar_map_next _))))
  show wpAny _ _ (field (.ref I) 0 >>= fun r => _) _ _ s
  refine wpAny_bind (wpAny_field (x := .ref tp) hI rfl rfl ?_)
  show wpAny _ _ (seqItems? (.ref tp) >>= fun r => _) _ _ s
  refine wpAny_bind (wpAny_seqItems ht rfl ?_)
  show wpAny _ _ (forIn #[Value.ref J] (#[] : Array Value) _ >>= fun r => _) _ _ s
  rw [← Array.forIn_toList]
  refine wpAny_bind ?_
  rw [List.forIn_cons]
  refine wpAny_bind ?_
  refine wpAny_bind (wpAny_holding (wpAny_nextOf_list_end hh hJ hl hv fun h' e hk he => ?_))
  obtain ⟨o, ho, hc⟩ := he
  refine wpAny_bind (wpAny_isInstance (T := "StopIteration") (b := true) ⟨o, ho, hc⟩ isSubtype_stop ?_)
  exact wpAny_pure (h _ hk)
theorem pyIter_map {I tp : Addr} {f : Value} {Q : Value → Shared → Prop} (hI : s.heap.get? I = some (mapObj tp f)) (h : Q (.ref I) s) : wpAny (model prog w) A (pyIter (.ref I)) Q E s := by
  have hT : s.TypeIs (.ref I) "map" := ⟨_, hI, rfl⟩
  refine wpAny_pyIter_slot hT slot_map_iter (wpAny_call_entry slot_map_iter hT en_map_iter ?_ (ar_map_iter _))
  show wpAny _ _ (ret (.ref I)) _ _ s
  exact wpAny_pure ⟨_, rfl, "map", _, hT, slot_map_next.lookup, h⟩
/-- collecting a map object, by what it goes over -/
theorem collect_map {I : Addr} {fp wr : List Addr} {G : Array GenState → Array GenState → Prop} {n : Nat} {P : Nat → Value → Prop} {St : Nat → Shared → Prop} {Q : List Value → Shared → Prop}
    (W : WalksS prog w A.in1 I fp wr G n P St) (hT : ∀ i s, St i s → s.TypeIs (.ref I) "map") (hst : St 0 s) (hfp : ∀ b ∈ fp, b < s.heap.objs.size) (hI : I ∈ fp)
    (hQ : ∀ s' acc, Moved wr G s s' → ItemsOf P acc n → Q acc.toList s') (hn : n ≤ sizeLine) : wpAny (model prog w) A (collect (.ref I)) Q E s := by
  obtain ⟨S, hSe⟩ : ∃ S, S = s.heap.objs.size := ⟨_, rfl⟩
  have hSf : S ∉ fp := fun hm => by have h9 := hfp _ hm; rw [hSe] at h9; exact Nat.lt_irrefl _ h9
  have hSI : S ≠ I := fun e => hSf (e ▸ hI)
  have up : ∀ b o, s.heap.get? b = some o → (s.heap.push (lstObj [])).get? b = some o := fun b o e => Heap.get?_push_of_some _ e
  have hst₁ := W.frame 0 s (s.heap.push (lstObj [])) s.toks hst (Nat.le_refl _) fun b _ o e => up b o e
  have hS₁ : (s.heap.push (lstObj [])).get? S = some (lstObj []) := by rw [hSe]; exact Heap.get?_push_size _ rfl
  unfold collect
  refine wpAny_bind (wpAny_runValue (codeAny_builtin F.entry_proto_collect ?_))
  rw [Around.under_plainId F.plain_proto_collect _]
  show wpAny _ A.in1 (newList [] >>= fun l => again (.builtin "list.__iadd__" ⟨[l, .ref I], []⟩)) _ _ s
  refine wpAny_bind (wpAny_newObj_type ?_)
  rw [← hSe]
  refine wpAny_pure ⟨plainId_quiet F.plain_list_iadd _, codeAny_builtin F.entry_list_iadd ?_⟩
  rw [Around.under_plainId F.plain_list_iadd _]
  show wpAny _ A.in1 (Builtin.List.listExtendWith (.ref S) (.ref I) (.ref S)) _ _ _
  unfold Builtin.List.listExtendWith
  refine wpAny_bind (wpAny_typeOf (hT 0 _ hst₁) ?_)
  have h1 : Builtin.List.listSameRef (.ref S) (.ref I) = false := by simp [Builtin.List.listSameRef, hSI]
  rw [h1, if_neg (by decide)]
  refine wpAny_bind (W.self 0 _ _ _ hst₁ ?_)
  refine wpAny_bind (wpAny_holding ?_)
  unfold Builtin.List.listLengthHint
  refine wpAny_bind (wpAny_specialOf (hT 0 _ hst₁) map_no_len ?_)
  show wpAny _ A.in1 (specialOf (Value.ref I) (Str.ofString "__length_hint__") >>= _) _ _ _
  refine wpAny_bind (wpAny_specialOf (hT 0 _ hst₁) map_no_hint ?_)
  refine wpAny_pure ?_
  show wpAny _ A.in1 (rule "list.extend.makes-room" >>= fun _ => Builtin.List.listTouch (.ref S) >>= fun _ =>
    again (.builtin "list.extend.loop" ⟨[.ref S, .ref I, .ref S], []⟩)) _ _ _
  refine wpAny_bind (wpAny_rule (wpAny_bind ?_))
  show wpAny _ A.in1 (updateSeq S (·.push .none) >>= fun _ => updateSeq S (·.pop)) _ _ _
  refine wpAny_bind (wpAny_updateSeq hS₁ rfl ?_)
  have hS₂ := Heap.get?_update_self (Obj.mapSeq (·.push Value.none)) hS₁ rfl
  refine wpAny_updateSeq hS₂ rfl ?_
  have hS₃ := Heap.get?_update_self (Obj.mapSeq (·.pop)) hS₂ rfl
  have oth : ∀ b o, b ≠ S → (s.heap.push (lstObj [])).get? b = some o → (((s.heap.push (lstObj [])).update S (Obj.mapSeq (·.push Value.none))).update S (Obj.mapSeq (·.pop))).get? b = some o :=
    fun b o hb e => (Heap.get?_update_other _ _ (Ne.symm hb)).trans ((Heap.get?_update_other _ _ (Ne.symm hb)).trans e)
  refine wpAny_pure ⟨plainId_quiet F.plain_extend_loop _, codeAny_extend_loopS W hn _ hSf _ n 0 _ _ _ rfl (Nat.zero_le _)
    (W.frame 0 ({ s with heap := s.heap.push (lstObj []) } : Shared) _ s.toks hst₁ (Nat.le_refl _) fun b hb o e => oth b o (fun h => hSf (h ▸ hb)) e) hS₃ (ItemsOf.nil P) fun s' acc' c' hm hS' hacc => ?_⟩
  show wpAny _ A (load S >>= _) _ _ s'
  refine wpAny_bind (wpAny_load hS' ?_)
  refine wpAny_pure (hQ s' acc' ⟨fun b o hb e => hm.heap b o (fun hmem => ?_) (oth b o (fun h => ?_) (up b o e)), hm.gens, hm.drawn, hm.os, hm.toks⟩ hacc)
  · rcases List.mem_cons.mp hmem with rfl | hmem
    · rw [hSe, new_none] at e; cases e
    · exact hb hmem
  · rw [h, hSe, new_none] at e; cases e
theorem tuple_new_map {I : Addr} {fp wr : List Addr} {G : Array GenState → Array GenState → Prop} {n : Nat} {P : Nat → Value → Prop} {St : Nat → Shared → Prop} {Q₁ : Value → Shared → Prop}
    (W : WalksS prog w A.in1.in1 I fp wr G n P St) (hT : ∀ i s, St i s → s.TypeIs (.ref I) "map") (hst : St 0 s) (hfp : ∀ b ∈ fp, b < s.heap.objs.size) (hI : I ∈ fp)
    (h : ∀ s' acc, Moved wr G s s' → ItemsOf P acc n → Q₁ (.ref s'.heap.objs.size) { s' with heap := s'.heap.push (tupObj acc) }) (hsz : n ≤ sizeLine) :
    codeAny (model prog w) A (.call (.builtin "tuple.__new__") ⟨[.type "tuple", .ref I], []⟩) (wants Q₁ E) s := by
  refine codeAny_of_tree ?_
  show wpAny _ A.in1 (do checkBuiltinCall "tuple.__new__" ⟨[.type "tuple", .ref I], []⟩; again (.builtin "tuple.__new__" ⟨[.type "tuple", .ref I], []⟩)) _ _ s
  refine wpAny_bind (wpAny_of_eq (F.newCall_tuple_1 _) (wpAny_pure ⟨plainId_quiet F.plain_tuple_new _, codeAny_builtin F.entry_tuple_new ?_⟩))
  rw [Around.under_plainId F.plain_tuple_new _]
  have hsub := sub_tuple_self
  have hinit := init_tuple_lookup
  have hmh := madeHere_tuple
  have hTI := hT 0 s hst
  wp_walk using wpAny_typeOf hTI, collect_map (hn := hsz) W hT hst hfp hI
  intro s' acc hm hacc
  show wpAny _ _ (Builtin.Tuple.tupleExact acc.toList.toArray >>= fun v => ret v) _ _ _
  unfold Builtin.Tuple.tupleExact
  refine wpAny_bind (wpAny_newObj_type ?_ (by show acc.toList.toArray.size ≤ sizeLine; simp only [Array.toArray_toList]; rw [hacc.1]; exact hsz))
  refine wpAny_pure ?_
  have e : acc.toList.toArray = acc := by simp
  rw [e]
  exact h s' acc hm hacc
/-- tuple(a map object) -/
theorem call_tuple_map {I : Addr} {fp wr : List Addr} {G : Array GenState → Array GenState → Prop} {n : Nat} {P : Nat → Value → Prop} {St : Nat → Shared → Prop} {Q : Value → Shared → Prop}
    (W : WalksS prog w A.in1.in1.in1 I fp wr G n P St) (hT : ∀ i s, St i s → s.TypeIs (.ref I) "map") (hst : St 0 s) (hfp : ∀ b ∈ fp, b < s.heap.objs.size) (hI : I ∈ fp)
    (hQ : ∀ s' acc, Moved wr G s s' → ItemsOf P acc n → Q (.ref s'.heap.objs.size) { s' with heap := s'.heap.push (tupObj acc) }) (hsz : n ≤ sizeLine) :
    wpAny (model prog w) A (call (.type "tuple") [.ref I]) Q E s := by
  refine callType_codes (Q₁ := fun obj s₁ => s₁.TypeIs obj "tuple" ∧ Q obj s₁) F.called_tuple (F.typeCall_tuple_1 _) F.entry_object_init
    (tuple_new_map (hsz := hsz) W hT hst hfp hI fun s' acc hm hacc => ⟨⟨_, Heap.get?_push_size _ rfl, rfl⟩, hQ s' acc hm hacc⟩) fun obj s₁ h₁ => ?_
  exact ⟨h₁.1, F.args_object_init_2 obj _, object_init_meets F.called_tuple.init.lookup F.called_tuple.made (by decide) prog w A.in1 _ s₁ ⟨h₁.1, rfl, h₁.2⟩⟩
end
end Mine
end
theorem Mine.calmM2 : True := by w_top off; trivial
section
open PySem PySem.W PyProof.Rows PySem.Calls
open PySem.Builtin
set_option maxRecDepth 100000
set_option maxHeartbeats 4000000
namespace Mine
section
variable {w : World} {s : Shared} {A : Around} {E : Value → Shared → Prop}
theorem BytesAre.at {vs : List Value} {ls : List (List UInt8)} {i : Nat} {v : Value} (hv : BytesAre vs ls) (h : vs[i]? = some v) : ∃ b t, v = .bytes b t ∧ ls[i]? = some b.toList := by
  have hi : i < vs.length := by
    cases Nat.lt_or_ge i vs.length with
    | inl h => exact h
    | inr h2 => rw [List.getElem?_eq_none h2] at h; cases h
  obtain ⟨b, t, h1, h2⟩ := hv.get hi
  rw [h] at h1; cases h1
  exact ⟨b, t, rfl, h2⟩
structure MapSt (w : World) (base : Heap) (I tp J l : Addr) (vs : List Value) (i : Nat) (h : Heap) : Prop where
  keep : Keep base h
  map : h.get? I = some (mapObj tp (.ref 94))
  tup : h.get? tp = some (tupObj #[.ref J])
  it : h.IsListIter J l i
theorem walks_map {base : Heap} {I tp J l : Addr} {vs : List Value} {ls : List (List UInt8)} (O : Ok w base) (r : Room A 10) (hl : base.IsList l vs.toArray) (hv : BytesAre vs ls) (hIJ : I ≠ J) (htJ : tp ≠ J) (hJb : base.get? J = none) :
    Walks PySem.Challenge.rw_pd0134_01.row.prog w A I (List.range base.objs.size ++ [I, tp, J]) [J] vs.length (fun i v => vs[i]? = some v) (fun i h => MapSt w base I tp J l vs i h) where
  sub := fun b hb => by rw [List.mem_singleton.mp hb]; simp
  frame := fun i h h' st hk => by
    refine ⟨fun b o e => hk b (List.mem_append_left _ (List.mem_range.mpr (Heap.lt_size e))) o (st.keep b o e), hk I (by simp) _ st.map, hk tp (by simp) _ st.tup, ?_⟩
    obtain ⟨o, ho, a, b⟩ := st.it
    exact ⟨o, hk J (by simp) o ho, a, b⟩
  item := fun i s Q E hi st hQ => by
    obtain ⟨x, hx⟩ : ∃ x, vs[i]? = some x := ⟨vs[i], by simp [hi]⟩
    obtain ⟨b, t, rfl, _⟩ := hv.at hx
    have hl' : s.heap.IsList l vs.toArray := by obtain ⟨o, ho, r⟩ := hl; exact ⟨o, st.keep _ _ ho, r⟩
    refine map_item st.map st.tup st.it hl' (by simpa using hx) hIJ fun h' hJ' hs' => ?_
    have k' : Keep base h' := fun b o e => hs'.extBut b o (fun q => by rw [q, hJb] at e; cases e) (st.keep b o e)
    refine fspath_c (O.keeps k') ⟨r.h, by have := r.d; show A.depth + 3 ≤ 900; (first | lia | omega), by have := r.u; show A.units + 1 + 20 * 3 ≤ 9000; (first | lia | omega)⟩ fun h'' tk' hk'' => ?_
    refine hQ _ h'' tk' hx ⟨Keep.trans k' hk'', hk'' _ _ (hs'.extBut _ _ hIJ st.map), hk'' _ _ (hs'.extBut _ _ htJ st.tup), ?_⟩ fun b o hb e => hk'' _ _ (hs'.extBut b o (fun q => hb (by rw [q]; exact List.mem_singleton_self _)) e)
    obtain ⟨o, ho, a, b⟩ := hJ'
    exact ⟨o, hk'' _ _ ho, a, b⟩
  done := fun s Q E st hQ => by
    have hl' : s.heap.IsList l vs.toArray := by obtain ⟨o, ho, r⟩ := hl; exact ⟨o, st.keep _ _ ho, r⟩
    refine map_end r.h st.map st.tup st.it hl' (by simp) fun h' hk => hQ h' s.toks fun b o hb e => hk b o (fun q => hb (by rw [q]; exact List.mem_singleton_self _)) e
  self := fun i s Q E st hQ => pyIter_map st.map hQ
/-- tuple(map(fspath, a list of bytes)), the map object made -/
theorem tuple_of_map {l : Addr} {base : Heap} {vs : List Value} {ls : List (List UInt8)} {Q : Value → Shared → Prop} (O : Ok w base) (r : Room A 11) (hl : base.IsList l vs.toArray) (hv : BytesAre vs ls) (hz : vs.length ≤ sizeLine)
    (hh : s.heap = ((base.push (itObj l)).push (tupObj #[.ref base.objs.size])).push (mapObj (base.objs.size + 1) (.ref 94)))
    (h : ∀ T h' tk, base.get? T = none → h'.get? T = some (tupObj vs.toArray) → Keep base h' → Q (.ref T) { s with heap := h', toks := tk }) :
    wpAny (model PySem.Challenge.rw_pd0134_01.row.prog w) A (call (.type "tuple") [.ref (base.objs.size + 1 + 1)]) Q E s := by
  have k3 : Keep base s.heap := fun b o e => by rw [hh]; exact Heap.get?_push_of_some _ (Heap.get?_push_of_some _ (Heap.get?_push_of_some _ e))
  have e1 : (base.push (itObj l)).objs.size = base.objs.size + 1 := Heap.size_push ..
  have e2 : ((base.push (itObj l)).push (tupObj #[.ref base.objs.size])).objs.size = base.objs.size + 1 + 1 := by rw [Heap.size_push, e1]
  have W := (walks_map (A := A.in1.in1.in1) (I := base.objs.size + 1 + 1) (tp := base.objs.size + 1) (J := base.objs.size) O ⟨r.h, by have := r.d; show A.depth + 10 ≤ 900; (first | lia | omega), by have := r.u; show A.units + 1 + 1 + 1 + 20 * 10 ≤ 9000; (first | lia | omega)⟩ hl hv (neN (by (first | lia | omega))) (neN (by (first | lia | omega))) (new_none _)).toS
  refine call_tuple_map W (fun i s' st => ⟨_, st.map, rfl⟩) ?_ ?_ (by simp) ?_ hz
  · refine ⟨k3, ?_, ?_, ?_⟩ <;> rw [hh]
    · show Heap.get? _ _ = _; rw [← e2]; exact Heap.get?_push_size _ rfl
    · refine Heap.get?_push_of_some _ ?_; rw [← e1]; exact Heap.get?_push_size _ rfl
    · exact ⟨_, Heap.get?_push_of_some _ (Heap.get?_push_of_some _ (Heap.get?_push_size _ rfl)), rfl, rfl⟩
  · intro b hb
    rw [hh, Heap.size_push, e2]
    refine ltN ?_
    rcases List.mem_append.mp hb with hb | hb
    · have h9 := ltN (List.mem_range.mp hb); (first | lia | omega)
    · simp only [List.mem_cons, List.not_mem_nil, or_false] at hb
      rcases hb with rfl | rfl | rfl <;> (first | lia | omega)
  · intro s' acc hm hacc
    have k4 : Keep base s'.heap := fun b o e => hm.heap b o (fun q => by rw [List.mem_singleton.mp q, new_none] at e; cases e) (k3 b o e)
    have hae : acc = vs.toArray := by
      apply Array.ext_getElem?
      intro j
      cases hj : acc[j]? with
      | none =>
        have : vs.length ≤ j := by rw [← hacc.1]; exact Array.getElem?_eq_none_iff.mp hj
        simp [this]
      | some v => have := hacc.2 j v hj; simp [this]
    subst hae
    have hg : s'.gens = s.gens := hm.gens
    obtain ⟨H, g, d, tk, os⟩ := s'
    obtain ⟨H0, g0, d0, tk0, os0⟩ := s
    have hd : d = d0 := hm.drawn
    have ho : os = os0 := hm.os
    cases hg; cases hd; cases ho
    refine h _ _ tk ?_ (Heap.get?_push_size _ rfl) (fun b o e => Heap.get?_push_of_some _ (k4 b o e))
    cases e : Heap.get? base H.objs.size with
    | none => rfl
    | some o => exact absurd (Heap.lt_size (k4 _ _ e)) (Nat.lt_irrefl _)
end
end Mine
end
theorem Mine.calmLP : True := by w_top off; trivial
section
open PySem PySem.W PyProof.Rows PySem.Calls
set_option maxRecDepth 100000
set_option maxHeartbeats 4000000
namespace Mine
/-- h' keeps h but for the addresses of W -/
abbrev KeepB (W : List Addr) (h h' : Heap) : Prop := ∀ b o, b ∉ W → h.get? b = some o → h'.get? b = some o
theorem KeepB.refl (W : List Addr) (h : Heap) : KeepB W h h := fun _ _ _ e => e
theorem KeepB.trans {W : List Addr} {a b c : Heap} (x : KeepB W a b) (y : KeepB W b c) : KeepB W a c := fun _ _ n e => y _ _ n (x _ _ n e)
theorem Keep.but {h h' : Heap} (k : Keep h h') (W : List Addr) : KeepB W h h' := fun _ _ _ e => k _ _ e
theorem KeepB.one {L : Addr} {h h' : Heap} (k : ∀ b o, b ≠ L → h.get? b = some o → h'.get? b = some o) : KeepB [L] h h' := fun b o n e => k b o (fun q => n (List.mem_singleton.mpr q)) e
theorem KeepB.sb {L : Addr} {W : List Addr} {h h' : Heap} (hs : Heap.SameBut L h h') : KeepB (L :: W) h h' := fun b o n e => hs.extBut b o (fun q => n (q ▸ List.mem_cons_self ..)) e
theorem KeepB.news {h₀ h h' : Heap} {L : Addr} {news : List (Addr × Obj)} (N : News h₀ L h news) (k : KeepB [L] h h') : News h₀ L h' news :=
  fun p hp => ⟨k _ _ (fun q => (N p hp).2.1 (List.mem_singleton.mp q)) (N p hp).1, (N p hp).2⟩
theorem KeepB.newsW {h₀ h h' : Heap} {L : Addr} {W : List Addr} {news : List (Addr × Obj)} (N : News h₀ L h news) (k : KeepB (L :: W) h h') (hW : ∀ p ∈ news, p.1 ∉ W) : News h₀ L h' news :=
  fun p hp => ⟨k _ _ (fun q => (List.mem_cons.mp q).elim (N p hp).2.1 (hW p hp)) (N p hp).1, (N p hp).2⟩
section
variable {prog : Program} {w : World} {A : Around} {E : Value → Shared → Prop} {s : Shared} {env : Env}
theorem walks_range {I : Addr} (hh : A.handled = none) (a : Int) (n : Nat) : Walks prog w A I [I] [I] n (fun i v => ∃ t, v = .int (a + (i : Int)) t) (fun i h => IsRangeIter h I (a + (i : Nat) * 1) ((n : Int) - (i : Nat)) 1) :=
  let W : Walks prog w A I [I] [I] n (fun i v => i < n ∧ ∃ t, v = .int (a + i * 1) t) (fun i h => IsRangeIter h I (a + (i : Nat) * 1) ((n : Int) - (i : Nat)) 1) := (Walks.range hh I a 1 n).bound
  { sub := W.sub, frame := W.frame, done := W.done, self := W.self,
    item := fun i s Q E hi st hQ => W.item i s Q E hi st fun v h' tk hP => hQ v h' tk (by obtain ⟨_, t, rfl⟩ := hP; exact ⟨t, by rw [Int.mul_one]⟩) }
theorem src_range {r : Addr} {a b : Int} {t u v : Tok} {n : Nat} (hh : A.handled = none) (hr : IsRange s.heap r a b 1 t u v) (hsm : Builtin.Range.small a b 1 = true) (hn : Builtin.Range.rangeSize a b 1 = ((n : Nat) : Int)) :
    Src prog w A s (.ref r) n (fun i v => ∃ t, v = .int (a + (i : Int)) t) := by
  intro Q E h
  refine wpAny_pyIter_range hr hsm (h s.heap.objs.size _ _ _ (fun b o e => Heap.get?_push_of_some _ e) (new_none _) (walks_range hh a n) ?_ ?_ ?_ ?_)
  · rw [hn]
    show IsRangeIter _ _ _ _ _
    simp only [Int.natCast_zero, Int.zero_mul, Int.add_zero, Int.sub_zero]
    exact Heap.get?_push_size _ rfl
  · intro b hb; rw [List.mem_singleton.mp hb, Heap.size_push]; exact Nat.lt_succ_self _
  · intro i h st; exact ⟨_, st⟩
  · intro b hb; exact .inl (List.mem_singleton.mp hb)
/-- the end of a tree put out of sight -/
theorem hideQ {α : Type} {M : Model} {A : Around} {t : Sem α} {Q : α → Shared → Prop} {E : Value → Shared → Prop} {s : Shared} (h : ∀ Q' : α → Shared → Prop, (∀ f s', Q f s' → Q' f s') → wpAny M A t Q' E s) : wpAny M A t Q E s := h Q fun _ _ x => x
theorem hideQE {α : Type} {M : Model} {A : Around} {t : Sem α} {Q : α → Shared → Prop} {E : Value → Shared → Prop} {s : Shared} (h : ∀ (Q' : α → Shared → Prop) (E' : Value → Shared → Prop), (∀ f s', Q f s' → Q' f s') → wpAny M A t Q' E' s) : wpAny M A t Q E s := h Q E fun _ _ x => x
/-- what a turn of a loop must leave -/
def TurnEnd (s : Shared) (h₀ : Heap) (L : Addr) (W : List Addr) (J : Nat → (Str → Option Value) → List (Addr × Obj) → Prop) (Q : Flow → Shared → Prop) (i : Nat) (nw : List (Addr × Obj)) (h : Heap) (f : Flow) (s₂ : Shared) : Prop :=
  match f with
  | .next | .cont => ∃ h' tk' m₂ nw', s₂ = { s with heap := h', toks := tk' } ∧ Fr h₀ L h' m₂ ∧ J (i + 1) m₂ nw' ∧ KeepB (L :: W) h h' ∧ ∀ p ∈ nw', h'.get? p.1 = some p.2 ∧ ((p.1 ∈ nw.map (·.1)) ∨ h.get? p.1 = none)
  | .brk => Q .next s₂
  | .ret v => Q (.ret v) s₂
theorem turn_news {h₀ h h' : Heap} {L : Addr} {m : Str → Option Value} {nw nw' : List (Addr × Obj)} (F : Fr h₀ L h m) (N : News h₀ L h nw) (hn : ∀ p ∈ nw', h'.get? p.1 = some p.2 ∧ ((p.1 ∈ nw.map (·.1)) ∨ h.get? p.1 = none)) : News h₀ L h' nw' := by
  intro p hp
  obtain ⟨hg, hq⟩ := hn p hp
  rcases hq with hq | hq
  · obtain ⟨q, hq1, hq2⟩ := List.mem_map.mp hq
    exact ⟨hg, hq2 ▸ (N q hq1).2.1, hq2 ▸ (N q hq1).2.2⟩
  · refine ⟨hg, fun e => ?_, ?_⟩
    · obtain ⟨o, _, _, ho, _⟩ := F.ns; rw [← e, hq] at ho; cases ho
    · cases e : h₀.get? p.1 with
      | none => rfl
      | some o => rw [F.keep _ _ e] at hq; cases hq
/-- where a loop stands (for_free) -/
inductive FreeInv (s : Shared) (h₀ : Heap) (L I : Addr) (n : Nat) (J : Nat → (Str → Option Value) → List (Addr × Obj) → Prop) (St : Nat → Heap → Prop) (k : Nat) : Shared → Prop
  | mk (i : Nat) (h : Heap) (tk : Nat) (m : Str → Option Value) (nw : List (Addr × Obj)) : J i m nw → Fr h₀ L h m → St i h → KeepB [L] s.heap h → News h₀ L h nw → (∀ p ∈ nw, p.1 ≠ I) → i ≤ n → k = n + 1 - i → FreeInv s h₀ L I n J St k { s with heap := h, toks := tk }
/-- where a loop over enumerate stands -/
inductive EnumInv (s : Shared) (h₀ : Heap) (L e it l : Addr) (items : Array Value) (W : List Addr) (J : Nat → (Str → Option Value) → List (Addr × Obj) → Prop) (k : Nat) : Shared → Prop
  | mk (i : Nat) (h : Heap) (tk : Nat) (m : Str → Option Value) (nw : List (Addr × Obj)) (old : Value) : J i m nw → Fr h₀ L h m → IsEnum h e it ((i : Nat) : Int) old → h.IsListIter it l i → h.IsList l items → KeepB (L :: W) s.heap h → News h₀ L h nw → (∀ p ∈ nw, p.1 ≠ e ∧ p.1 ≠ it) → i ≤ items.size → k = items.size + 1 - i → EnumInv s h₀ L e it l items W J k { s with heap := h, toks := tk }
theorem for_free {iter : Expr} {x : Str} {px pos : Pos} {body : List Stmt} {n : Nat} {P : Nat → Value → Prop} {Q : Flow → Shared → Prop} {h₀ : Heap} {L : Addr} {m : Str → Option Value} {nw₀ : List (Addr × Obj)} (F₀ : Fr h₀ L s.heap m) (N₀ : News h₀ L s.heap nw₀) (hLe : env.locals = L)
    (J : Nat → (Str → Option Value) → List (Addr × Obj) → Prop)
    (hsrc : wpAny (model prog w) A (eval iter env) (fun xv s₁ => Keeps s s₁ ∧ xv ≠ .ref L ∧ Src prog w A s₁ xv n P) E s) (h0 : J 0 m nw₀)
    (step : ∀ i v h tk m₁ nw, i < n → P i v → J i m₁ nw → Fr h₀ L h (fun y => if y = x then some v else m₁ y) → News h₀ L h nw → KeepB [L] s.heap h →
      wpAny (model prog w) A (execs body env) (TurnEnd s h₀ L [] J Q i nw h) (fun _ _ => False) { s with heap := h, toks := tk })
    (hQ : ∀ h tk m' nw, J n m' nw → Fr h₀ L h m' → News h₀ L h nw → KeepB [L] s.heap h → Q .next { s with heap := h, toks := tk })
    (hx : env.kindOf x = some .local := by rfl) (hp : (env.scope.kind == .class || (env.scope.kind == .module && env.locals != env.globals)) = false := by rfl)
    (hs : ∀ x, foldedSetIterable iter env x = pure x := by intro _; rfl) :
    wpAny (model prog w) A (exec (.For (.Name x px) iter body [] pos) env) Q E s := by
  subst hLe
  refine wpAny_For (wpAny_mono hsrc (fun xv s₁ h₁ => ?_) fun _ _ e => e) hs
  obtain ⟨⟨h1, tk1, rfl, hk1⟩, hxL, hsr⟩ := h₁
  refine hsr _ _ fun I fp St h2 hk2 hI W hst hfp hlv hfx => ?_
  have up : Keep s.heap h2 := Keep.trans hk1 hk2
  have hIs : s.heap.get? I = none := by
    cases e : s.heap.get? I with
    | none => rfl
    | some o => rw [hk1 _ _ e] at hI; cases hI
  have hL0 : ∃ o, s.heap.get? env.locals = some o := by obtain ⟨o, _, _, ho, _⟩ := F₀.ns; exact ⟨o, ho⟩
  have hLI : env.locals ≠ I := fun e => by obtain ⟨o, ho⟩ := hL0; rw [e, hIs] at ho; cases ho
  have hLf : env.locals ∉ fp := fun q => (hfx _ q).elim hLI hxL
  have hIw : ∀ b o, s.heap.get? b = some o → b ∉ [I] := fun b o e q => by rw [List.mem_singleton.mp q, hIs] at e; cases e
  have hb0 : ∀ b o, h₀.get? b = some o → b ∉ [I] ∧ b ≠ env.locals := fun b o e => ⟨hIw b o (F₀.keep b o e), Nat.ne_of_lt (Nat.lt_of_lt_of_le (Heap.lt_size e) F₀.above)⟩
  refine codeAny_forLoop (FreeInv s h₀ env.locals I n J St) ?_ (n + 1)
    (.mk 0 h2 tk1 m nw₀ h0 (F₀.keeps up) hst (up.but _) (News.grown N₀ up) (fun p hp e => hIw _ _ (N₀ p hp).1 (List.mem_singleton.mpr e)) (Nat.zero_le _) rfl)
  rintro k s' ⟨i, h, tk, m₁, nw, hJi, Fi, hsti, hki, hnw, hnI, hi, rfl⟩
  by_cases hlt : i < n
  · refine W.item i _ _ _ hlt hsti fun v h₁ tk₁ hP hst₁ hk₁ => ?_
    have k1 : KeepB [env.locals] s.heap h₁ := fun b o nb e => hk₁ b o (hIw b o e) (hki b o nb e)
    have N1 : News h₀ env.locals h₁ nw := fun p hp => ⟨hk₁ _ _ (fun q => hnI p hp (List.mem_singleton.mp q)) (hnw p hp).1, (hnw p hp).2⟩
    have F1 : Fr h₀ env.locals h₁ m₁ := ⟨Fi.ns.at fun o e => hk₁ _ o (fun q => hLI (List.mem_singleton.mp q)) e, fun b o e => hk₁ b o (hb0 b o e).1 (Fi.keep b o e), Fi.above⟩
    refine wpAny_assign_Name (wpAny_storeName_local hx F1.ns (fun h₂ hn₂ hs₂ => ?_) hp)
    have F2 : Fr h₀ env.locals h₂ (fun y => if y = x then some v else m₁ y) := ⟨hn₂, fun b o e => hs₂.extBut b o (hb0 b o e).2 (F1.keep b o e), Fi.above⟩
    have k2 : KeepB [env.locals] h₁ h₂ := KeepB.sb hs₂
    have hst₂ : St (i + 1) h₂ := W.frame _ _ _ hst₁ fun b hb o e => hs₂.extBut b o (fun q => hLf (by rw [← q]; exact hb)) e
    have N2 := KeepB.news N1 k2
    refine wpAny_mono (step i v h₂ _ m₁ nw hlt hP hJi F2 N2 (KeepB.trans k1 k2)) (fun f s₃ h₃ => ?_) fun _ _ e => e.elim
    have go : ∀ s₃, TurnEnd s h₀ env.locals [] J Q i nw h₂ .next s₃ → ∃ m_1, m_1 < n + 1 - i ∧ FreeInv s h₀ env.locals I n J St m_1 s₃ := by
      rintro s₃ ⟨h', tk', m₂, nw', rfl, F3, hJ3, k3, hn3⟩
      obtain ⟨oI, hoI⟩ := hlv _ _ hst₂
      refine ⟨n + 1 - (i + 1), Nat.sub_lt_sub_left (Nat.lt_succ_of_lt hlt) (Nat.lt_succ_self i), .mk (i + 1) h' tk' m₂ nw' hJ3 F3 ?_ (KeepB.trans (KeepB.trans k1 k2) k3) (turn_news F2 N2 hn3) ?_ hlt rfl⟩
      · exact W.frame _ _ _ hst₂ fun b hb o e => k3 b o (fun q => hLf (by rw [← List.mem_singleton.mp q]; exact hb)) e
      · intro p hp e
        obtain ⟨hg, hq⟩ := hn3 p hp
        rcases hq with hq | hq
        · obtain ⟨q, hq1, hq2⟩ := List.mem_map.mp hq
          exact hnI q hq1 (hq2.trans e)
        · rw [e, hoI] at hq; cases hq
    cases f with
    | next => exact go _ h₃
    | cont => exact go _ h₃
    | brk => exact h₃
    | ret v => exact h₃
  · have hin : i = n := Nat.le_antisymm hi (Nat.not_lt.mp hlt)
    subst hin
    refine W.done _ _ _ hsti fun h₁ tk₁ hk₁ => wpAny_execs_nil ?_
    refine hQ h₁ tk₁ m₁ nw hJi ⟨Fi.ns.at fun o e => hk₁ _ o (fun q => hLI (List.mem_singleton.mp q)) e, fun b o e => hk₁ b o (hb0 b o e).1 (Fi.keep b o e), Fi.above⟩ (fun p hp => ⟨hk₁ _ _ (fun q => hnI p hp (List.mem_singleton.mp q)) (hnw p hp).1, (hnw p hp).2⟩) (fun b o nb e => hk₁ b o (hIw b o e) (hki b o nb e))
theorem for_enum2 {iter : Expr} {xi xv : Str} {pi pv pt pos : Pos} {x1} {body : List Stmt} {items : Array Value} {W : List Addr} {Q : Flow → Shared → Prop} {h₀ : Heap} {L : Addr} {m : Str → Option Value} {nw₀ : List (Addr × Obj)} (F₀ : Fr h₀ L s.heap m) (N₀ : News h₀ L s.heap nw₀) (hLe : env.locals = L)
    (hh : A.handled = none) (hWl : ∀ b ∈ W, ∃ o, s.heap.get? b = some o)
    (J : Nat → (Str → Option Value) → List (Addr × Obj) → Prop)
    (hsrc : wpAny (model prog w) A (eval iter env) (fun xval s₁ => ∃ e it l, xval = .ref e ∧ s.heap.get? e = none ∧ s.heap.get? it = none ∧ e ≠ it ∧ Keeps s s₁ ∧ IsEnum s₁.heap e it 0 .none ∧ s₁.heap.IsListIter it l 0 ∧ s₁.heap.IsList l items ∧ l ∉ L :: W ∧ l ≠ e ∧ l ≠ it) E s) (h0 : J 0 m nw₀)
    (step : ∀ i v u h tk m₁ nw, items[i]? = some v → J i m₁ nw → Fr h₀ L h (fun y => if y = xv then some v else if y = xi then some (.int (i : Nat) u) else m₁ y) → News h₀ L h nw → KeepB (L :: W) s.heap h →
      wpAny (model prog w) A (execs body env) (TurnEnd s h₀ L W J Q i nw h) (fun _ _ => False) { s with heap := h, toks := tk })
    (hQ : ∀ h tk m' nw, J items.size m' nw → Fr h₀ L h m' → News h₀ L h nw → KeepB (L :: W) s.heap h → Q .next { s with heap := h, toks := tk })
    (hxi : env.kindOf xi = some .local := by rfl) (hxv : env.kindOf xv = some .local := by rfl) (hp : (env.scope.kind == .class || (env.scope.kind == .module && env.locals != env.globals)) = false := by rfl)
    (hs : ∀ x, foldedSetIterable iter env x = pure x := by intro _; rfl) :
    wpAny (model prog w) A (exec (.For (.Tuple [.Name xi pi, .Name xv pv] x1 pt) iter body [] pos) env) Q E s := by
  subst hLe
  refine wpAny_For (wpAny_mono hsrc (fun xval s₁ h₁ => ?_) fun _ _ e => e) hs
  obtain ⟨e, it, l, rfl, hes, his, hei, ⟨h1, tk1, rfl, up⟩, he, hit, hl1, hlW', hle, hli⟩ := h₁
  refine wpAny_pyIter_enum he ?_
  have hL0 : ∃ o, s.heap.get? env.locals = some o := by obtain ⟨o, _, _, ho, _⟩ := F₀.ns; exact ⟨o, ho⟩
  have live : ∀ b o, s.heap.get? b = some o → b ≠ e ∧ b ≠ it := fun b o q => ⟨fun x => (by rw [x, hes] at q; cases q), fun x => (by rw [x, his] at q; cases q)⟩
  obtain ⟨oL, hoL⟩ := hL0
  have heL : e ≠ env.locals := (live _ _ hoL).1.symm
  have hiL : it ≠ env.locals := (live _ _ hoL).2.symm
  have hb0 : ∀ b o, h₀.get? b = some o → b ≠ e ∧ b ≠ it ∧ b ≠ env.locals := fun b o q => ⟨(live b o (F₀.keep b o q)).1, (live b o (F₀.keep b o q)).2, Nat.ne_of_lt (Nat.lt_of_lt_of_le (Heap.lt_size q) F₀.above)⟩
  have heW : e ∉ env.locals :: W := fun q => (List.mem_cons.mp q).elim heL fun q => by obtain ⟨o, ho⟩ := hWl _ q; rw [hes] at ho; cases ho
  have hiW : it ∉ env.locals :: W := fun q => (List.mem_cons.mp q).elim hiL fun q => by obtain ⟨o, ho⟩ := hWl _ q; rw [his] at ho; cases ho
  have hlL : l ≠ env.locals := fun q => hlW' (by rw [q]; exact List.mem_cons_self ..)
  refine codeAny_forLoop_any (EnumInv s h₀ env.locals e it l items W J) ?_ (items.size + 1)
    (.mk 0 h1 tk1 m nw₀ .none h0 (F₀.keeps up) he hit hl1 (Keep.but up _) (News.grown N₀ up) (fun p hp => live _ _ (N₀ p hp).1) (Nat.zero_le _) rfl)
  rintro k s' ⟨i, H, tk, m₁, nw, old, hJi, Fi, he', hit', hl', hki, hnw, hnI, hi, rfl⟩
  cases hv : items[i]? with
  | none =>
    have hsz : i = items.size := Nat.le_antisymm hi (by simpa using hv)
    refine wpAny_pyNext_enum_end hh he' hit' hl' hv fun h₁ he₁ => wpAny_execs_nil ?_
    exact hQ h₁ tk m₁ nw (hsz ▸ hJi) ⟨Fi.ns.extBut he₁ (Ne.symm hiL), fun b o q => he₁ b o (hb0 b o q).2.1 (Fi.keep b o q), Fi.above⟩ (fun p hp => ⟨he₁ _ _ (hnI p hp).2 (hnw p hp).1, (hnw p hp).2⟩) (fun b o nb q => he₁ b o (live b o q).2 (hki b o nb q))
  | some v =>
    have hlt : i < items.size := (Array.getElem?_eq_some_iff.mp hv).1
    have heH : e < H.objs.size := Heap.lt_size he'
    have hLH : env.locals < H.objs.size := Fi.ns.lt
    obtain ⟨oi, hoi, _⟩ := id hit'
    obtain ⟨ol, hol', _⟩ := id hl'
    have hiH : it < H.objs.size := Heap.lt_size hoi
    have hlH : l < H.objs.size := Heap.lt_size hol'
    refine wpAny_pyNext_enum_item he' hit' hl' hv hei fun h₁ heo hit₁ ht₁ hz₁ hk₁ => ?_
    refine wpAny_letOwnedTupleGo_enum heo fun h₂ he₂ hs₂ => ?_
    replace hs₂ : Heap.SameBut e h₁ h₂ := hs₂
    have ht₂ : h₂.IsTuple H.objs.size #[.int i tk, v] := ⟨_, (hs₂.2 _ (Nat.ne_of_gt heH)).trans ht₁, rfl, _, rfl⟩
    have hz₂ : h₂.objs.size = H.objs.size + 1 := hs₂.1.trans hz₁
    refine wpAny_assign_Tuple hh ht₂ rfl rfl fun h₃ hx₃ => ?_
    replace hx₃ : Heap.ExtBut h₂.objs.size h₂ h₃ := hx₃
    have old₃ : ∀ b o, b < H.objs.size → h₂.get? b = some o → h₃.get? b = some o := fun b o hb x => hx₃ b o (by rw [hz₂]; exact Nat.ne_of_lt (Nat.lt_succ_of_lt hb)) x
    have up3 : ∀ b o, b ≠ e → b ≠ it → H.get? b = some o → h₃.get? b = some o := fun b o b1 b2 q => old₃ b o (Heap.lt_size q) (hs₂.extBut b o b1 (hk₁ b o b1 b2 q))
    have F3 : Fr h₀ env.locals h₃ m₁ := ⟨Fi.ns.at fun o x => up3 _ o heL.symm hiL.symm x, fun b o q => up3 b o (hb0 b o q).1 (hb0 b o q).2.1 (Fi.keep b o q), Fi.above⟩
    show wpAny _ A (do holding [v] (assign (.Name xi pi) env (.int i tk)); do holding [] (assign (.Name xv pv) env v); pure ()) _ _ _
    refine wpAny_bind (wpAny_holding (wpAny_assign_Name (wpAny_storeName_local hxi F3.ns (fun h₄ hn₄ hs₄ => ?_) hp)))
    replace hs₄ : Heap.SameBut env.locals h₃ h₄ := hs₄
    refine wpAny_bind (wpAny_holding (wpAny_assign_Name (wpAny_storeName_local hxv hn₄ (fun h₅ hn₅ hs₅ => wpAny_pure ?_) hp)))
    replace hs₅ : Heap.SameBut env.locals h₄ h₅ := hs₅
    have up5 : ∀ b o, b ≠ env.locals → b ≠ e → b ≠ it → H.get? b = some o → h₅.get? b = some o := fun b o b0 b1 b2 q => hs₅.extBut b o b0 (hs₄.extBut b o b0 (up3 b o b1 b2 q))
    have F5 : Fr h₀ env.locals h₅ (fun y => if y = xv then some v else if y = xi then some (.int i tk) else m₁ y) := ⟨hn₅, fun b o q => up5 b o (hb0 b o q).2.2 (hb0 b o q).1 (hb0 b o q).2.1 (Fi.keep b o q), Fi.above⟩
    have N5 : News h₀ env.locals h₅ nw := fun p hp => ⟨up5 _ _ (hnw p hp).2.1 (hnI p hp).1 (hnI p hp).2 (hnw p hp).1, (hnw p hp).2⟩
    have k5 : KeepB (env.locals :: W) s.heap h₅ := fun b o nb q => up5 b o (fun x => nb (by rw [x]; exact List.mem_cons_self ..)) (live b o q).1 (live b o q).2 (hki b o nb q)
    have low : ∀ b o, b < H.objs.size → b ≠ env.locals → h₂.get? b = some o → h₅.get? b = some o := fun b o hb b0 x => hs₅.extBut b o b0 (hs₄.extBut b o b0 (old₃ b o hb x))
    have e5 : IsEnum h₅ e it (((i + 1 : Nat) : Nat) : Int) v := by
      have : ((i + 1 : Nat) : Int) = (i : Int) + 1 := by push_cast; rfl
      rw [this]; exact low e _ heH heL he₂
    have i5 : h₅.IsListIter it l (i + 1) := (hit₁.extBut hs₂.extBut (Ne.symm hei)).at fun o x => low it o hiH hiL x
    have l5 : h₅.IsList l items := ((hl'.at fun o x => hk₁ l o hle hli x).extBut hs₂.extBut hle).at fun o x => low l o hlH hlL x
    refine wpAny_mono (step i v tk h₅ _ m₁ nw hv hJi F5 N5 k5) (fun f s₃ h₃ => ?_) fun _ _ e => e.elim
    have go : ∀ s₃, TurnEnd s h₀ env.locals W J Q i nw h₅ .next s₃ → ∃ m_1, m_1 < items.size + 1 - i ∧ EnumInv s h₀ env.locals e it l items W J m_1 s₃ := by
      rintro s₃ ⟨h', tk', m₂, nw', rfl, F6, hJ6, k6, hn6⟩
      refine ⟨items.size + 1 - (i + 1), Nat.sub_lt_sub_left (Nat.lt_succ_of_lt hlt) (Nat.lt_succ_self i), .mk (i + 1) h' tk' m₂ nw' v hJ6 F6 (k6 _ _ heW e5) (i5.at fun o x => k6 _ o hiW x) (l5.at fun o x => k6 _ o hlW' x) (KeepB.trans k5 k6) (turn_news F5 N5 hn6) ?_ hlt rfl⟩
      intro p hp
      obtain ⟨hg, hq⟩ := hn6 p hp
      rcases hq with hq | hq
      · obtain ⟨q, hq1, hq2⟩ := List.mem_map.mp hq
        rw [← hq2]; exact hnI q hq1
      · obtain ⟨oi5, hoi5, _⟩ := i5
        exact ⟨fun x => (by rw [x, e5] at hq; cases hq), fun x => (by rw [x, hoi5] at hq; cases hq)⟩
    cases f with
    | next => exact go _ h₃
    | cont => exact go _ h₃
    | brk => exact h₃
    | ret v => exact h₃
/-- for i, c in enumerate(a list): W may change -/
theorem for_enum {iter : Expr} {xi xv : Str} {pi pv pt pos : Pos} {x1} {body : List Stmt} {l : Addr} {items : Array Value} {W : List Addr} {Q : Flow → Shared → Prop} {h₀ : Heap} {L : Addr} {m : Str → Option Value} {nw₀ : List (Addr × Obj)} (F₀ : Fr h₀ L s.heap m) (N₀ : News h₀ L s.heap nw₀) (hLe : env.locals = L)
    (hh : A.handled = none) (hl : s.heap.IsList l items) (hlL : l ≠ L) (hlW : l ∉ W) (hWl : ∀ b ∈ W, ∃ o, s.heap.get? b = some o)
    (J : Nat → (Str → Option Value) → List (Addr × Obj) → Prop)
    (hsrc : wpAny (model prog w) A (eval iter env) (fun xval s₁ => ∃ e it, xval = .ref e ∧ s.heap.get? e = none ∧ s.heap.get? it = none ∧ e ≠ it ∧ Keeps s s₁ ∧ IsEnum s₁.heap e it 0 .none ∧ s₁.heap.IsListIter it l 0) E s) (h0 : J 0 m nw₀)
    (step : ∀ i v u h tk m₁ nw, items[i]? = some v → J i m₁ nw → Fr h₀ L h (fun y => if y = xv then some v else if y = xi then some (.int (i : Nat) u) else m₁ y) → News h₀ L h nw → KeepB (L :: W) s.heap h →
      wpAny (model prog w) A (execs body env) (TurnEnd s h₀ L W J Q i nw h) (fun _ _ => False) { s with heap := h, toks := tk })
    (hQ : ∀ h tk m' nw, J items.size m' nw → Fr h₀ L h m' → News h₀ L h nw → KeepB (L :: W) s.heap h → Q .next { s with heap := h, toks := tk })
    (hxi : env.kindOf xi = some .local := by rfl) (hxv : env.kindOf xv = some .local := by rfl) (hp : (env.scope.kind == .class || (env.scope.kind == .module && env.locals != env.globals)) = false := by rfl)
    (hs : ∀ x, foldedSetIterable iter env x = pure x := by intro _; rfl) :
    wpAny (model prog w) A (exec (.For (.Tuple [.Name xi pi, .Name xv pv] x1 pt) iter body [] pos) env) Q E s := by
  refine for_enum2 F₀ N₀ hLe hh hWl J (wpAny_mono hsrc (fun xval s₁ h₁ => ?_) fun _ _ e => e) h0 step hQ hxi hxv hp hs
  obtain ⟨e, it, rfl, hes, his, hei, ⟨h1, tk1, rfl, up⟩, he, hit⟩ := h₁
  obtain ⟨oo, hoo, hol⟩ := hl
  exact ⟨e, it, l, rfl, hes, his, hei, ⟨h1, tk1, rfl, up⟩, he, hit, ⟨oo, up _ _ hoo, hol⟩, fun q => (List.mem_cons.mp q).elim hlL hlW, fun x => (by rw [x, hes] at hoo; cases hoo), fun x => (by rw [x, his] at hoo; cases hoo)⟩
end
end Mine
end
theorem Mine.calmS0 : True := by w_top off; trivial
section
open PySem PySem.W PyProof.Rows PySem.Calls
open PySem.Builtin
set_option maxRecDepth 100000
set_option maxHeartbeats 4000000
namespace Mine
theorem slot_setit_next : Slot "set_iterator" "__next__" "set_iterator.__next__" := .of (owner := "set_iterator") (n := "__next__") (by rw [typeLookup_type, builtinLookup_eq_fast]; kernel_rfl) (by decide +kernel) (by decide +kernel) (by decide +kernel)
    (by first | exact .inl (by decide +kernel) | exact .inr (by decide +kernel)) (by rw [isSubtype_type]; kernel_rfl)
theorem en_setit_next : entryFor table "set_iterator.__next__" = some Builtin.«set_iterator.__next__» := entryFor_of_tree (by kernel_rfl)
theorem en_set_iter : entryFor table "set.__iter__" = some Builtin.«frozenset.__iter__» :=
  entryFor_alias (id' := "frozenset.__iter__") (by kernel_rfl) rfl (by decide +kernel) (by kernel_rfl)
theorem ar_setit_next (a : Value) : argsOk "set_iterator.__next__" ⟨[a], []⟩ := by unfold argsOk; kernel_rfl
end Mine
end
theorem Mine.calmS1 : True := by w_top off; trivial
section
open PySem PySem.W PyProof.Rows PySem.Calls
open PySem.Builtin
set_option maxRecDepth 100000
set_option maxHeartbeats 4000000
namespace Mine
/-- the table of a set that holds True alone -/
def trueTab (led : Bool) : SetTable := { mask := 7, place := #[1], dummies := #[], finger := 0, led, moves := 0, plain := true }
theorem lay_true (led : Bool) : layNew (.fresh 0 0 led) #[] 1 (.bool true) = (#[(1, .bool true)], trueTab led, false, false) := by cases led <;> kernel_rfl!
/-- a set that holds nothing or True -/
def setObj (led : Bool) (n : Nat) (ep : Nat) : Obj := { cls := .type "set", data := if n = 0 then .set #[] 0 (.fresh 0 0 led) else .set #[(1, .bool true)] ep (trueTab led) }
section
variable {prog : Program} {w : World} {A : Around} {E : Value → Shared → Prop} {s : Shared}
theorem hash_true {Q : Int → Shared → Prop} (h : Q 1 { s with toks := s.toks + 1 }) : wpAny (model prog w) A (pyHash (.bool true)) Q E s := by
  have hT : s.TypeIs (.bool true) "bool" := rfl
  unfold pyHash
  have hv : [Value.bool true].any Value.onHeap = false := rfl
  refine wpAny_bind ?_
  rw [cRoomFor, if_neg (by rw [hv]; exact Bool.false_ne_true)]; refine wpAny_pure ?_
  refine wpAny_bind (wpAny_specialOf hT F.slot_bool_hash.lookup ?_)
  show wpAny _ _ (if (some (Value.builtin "int.__hash__") == some Value.none) = true then _ else _) Q E s
  rw [if_neg (by rw [beq_builtin_none]; exact Bool.false_ne_true)]
  refine wpAny_bind (wpAny_specialOf hT F.slot_bool_hash.lookup ?_)
  show wpAny _ _ (callSpecialIfBoundUnlessNone? (.bool true) "__hash__" _ >>= _) Q E s
  refine wpAny_bind (wpAny_callSpecialIfBoundUnlessNone?_slot hT F.slot_bool_hash
    (wpAny_call_entry F.slot_bool_hash hT entry_int_hash
      (show wpAny _ _ (do ret (← mkInt 1)) _ _ s from wpAny_ret_mkInt ?_) (args_int_hash _)))
  show wpAny _ _ (if (decide (-(2 : Int) ^ 63 ≤ 1) && decide ((1 : Int) < 2 ^ 63)) = true then _ else _) Q E _
  rw [if_pos (by decide)]
  exact wpAny_pure h
theorem eq_true {Q : Bool → Shared → Prop} (h : Q true s) : wpAny (model prog w) A (eqBool (.bool true) (.bool true)) Q E s := by
  unfold eqBool
  refine wpAny_holding ?_
  rw [if_pos (by decide)]
  exact wpAny_bind (wpAny_rule (wpAny_pure h))
theorem add_true {a : Addr} {led : Bool} {n ep : Nat} {Q : Bool → Shared → Prop} (ha : s.heap.get? a = some (setObj led n ep)) (h : ∀ h' ep' r, Heap.SameBut a s.heap h' → h'.get? a = some (setObj led 1 ep') → Q r { s with heap := h', toks := s.toks + 1 }) :
    wpAny (model prog w) A (setAdd a (.bool true)) Q E s := by
  unfold setAdd
  refine wpAny_holding (wpAny_bind (hash_true ?_))
  unfold setAddHashed setAddHashedIn
  by_cases hn : n = 0
  · subst hn
    have ha' : (({ s with toks := s.toks + 1 } : Shared).heap.get? a) = some (setObj led 0 ep) := ha
    refine wpAny_holding (wpAny_bind ?_)
    unfold setState
    refine wpAny_bind (wpAny_load ha' ?_)
    refine wpAny_pure ?_
    dsimp only
    rw [if_pos (by decide +kernel)]
    unfold setAddByScan
    refine wpAny_bind ?_
    refine wpAny_bind (wpAny_rule (wpAny_bind ?_))
    show wpAny _ _ (setScanFrom a (.bool true) 1 true [] 0) _ _ _
    unfold setScanFrom
    refine wpAny_pure ?_
    dsimp only
    refine wpAny_bind (wpAny_pure ?_)
    rw [lay_true]
    dsimp only
    refine wpAny_bind (wpAny_pure ?_)
    refine wpAny_bind ?_
    refine wpAny_storeSet_of ha' rfl ?_ (by decide)
    simp only [if_true]
    have e : (!false && (trueTab led).tooFull) = false := by cases led <;> decide +kernel
    rw [e, if_neg Bool.false_ne_true]
    refine wpAny_pure (wpAny_pure ?_)
    have g : (s.heap.update a (Obj.putSet #[(1, Value.bool true)] (trueTab led))).get? a = some (setObj led 1 1) := by
      have := Heap.get?_update_self (Obj.putSet #[(1, Value.bool true)] (trueTab led)) ha (by rfl)
      rw [this]; rfl
    exact h _ 1 true (Heap.SameBut.update s.heap a _) g
  · have e1 : setObj led n ep = setObj led 1 ep := by unfold setObj; rw [if_neg hn, if_neg (by decide)]
    rw [e1] at ha
    have ha' : (({ s with toks := s.toks + 1 } : Shared).heap.get? a) = some (setObj led 1 ep) := ha
    refine wpAny_holding (wpAny_bind ?_)
    unfold setState
    refine wpAny_bind (wpAny_load ha' ?_)
    refine wpAny_pure ?_
    dsimp only
    rw [if_pos (by decide +kernel)]
    unfold setAddByScan
    refine wpAny_bind ?_
    refine wpAny_bind (wpAny_rule (wpAny_bind ?_))
    show wpAny _ _ (setScanFrom a (.bool true) 1 true [(1, .bool true)] 0) _ _ _
    unfold setScanFrom
    rw [if_pos (by decide)]
    refine wpAny_bind ?_
    unfold setEpoch setState
    refine wpAny_bind (wpAny_bind (wpAny_load ha' (wpAny_pure (wpAny_pure ?_))))
    refine wpAny_bind (eq_true ?_)
    rw [if_pos (by decide)]
    refine wpAny_pure (wpAny_pure (wpAny_pure ?_))
    exact h _ ep _ (Heap.SameBut.refl a s.heap) ha
end
end Mine
end
theorem Mine.calmS2 : True := by w_top off; trivial
section
open PySem PySem.W PyProof.Rows PySem.Calls
open PySem.Builtin
set_option maxRecDepth 100000
set_option maxHeartbeats 4000000
namespace Mine
theorem compTurn_set (elt target iter : Expr) (scope : Scope) (pos : Pos) (it acc : Value) (env : Env) :
    compTurn (.SetComp elt [⟨target, iter, [], 0⟩] scope pos) 0 it acc env = (standAt iter.pos >>= fun _ => pyNext it >>= fun r => match r with
      | none => pure (.done .next)
      | some v => letOwnedTupleGo target it v >>= fun _ => assign target env v >>= fun _ =>
        (eval elt env >>= fun x => standAt elt.pos >>= fun _ => call (.builtin "set.add") [acc, x] >>= fun _ => pure ()) >>= fun _ =>
          again (.compLoop (.SetComp elt [⟨target, iter, [], 0⟩] scope pos) 0 it acc env)) := by rfl
inductive SetInv (s : Shared) (C D : Addr) (n : Nat) (St : Nat → Heap → Prop) (led : Bool) (k : Nat) : Shared → Prop
  | mk (i : Nat) (h' : Heap) (tk : Nat) (m' : Str → Option Value) (ep : Nat) : St i h' → h'.get? D = some (setObj led (if i = 0 then 0 else 1) ep) → h'.Ns C m' → Keep s.heap h' → i ≤ n → k = n + 1 - i → SetInv s C D n St led k { s with heap := h', toks := tk }
section
variable {prog : Program} {w : World} {A : Around} {E : Value → Shared → Prop} {R : Result → Shared → Prop} {s : Shared}
theorem setObj_type {led : Bool} {n ep : Nat} : (setObj led n ep).cls = .type "set" := rfl
theorem call_add_true {a : Addr} {led : Bool} {n ep : Nat} {Q : Value → Shared → Prop} (ha : s.heap.get? a = some (setObj led n ep))
    (h : ∀ h' ep', Heap.SameBut a s.heap h' → h'.get? a = some (setObj led 1 ep') → Q .none { s with heap := h', toks := s.toks + 1 }) :
    wpAny (model prog w) A (call (.builtin "set.add") [.ref a, .bool true]) Q E s := by
  refine wpAny_call_entry F.slot_set_add ⟨_, ha, rfl⟩ F.entry_set_add ?_ (F.args_set_add_2 _ _)
  unfold Builtin.«set.add» Builtin.Frozenset.oneOther
  simp only [List.isEmpty_nil, bind_assoc]
  unfold Builtin.Frozenset.addrOf
  refine wpAny_bind (wpAny_pure ?_)
  try dsimp only
  refine wpAny_bind (wpAny_pure ?_)
  try dsimp only
  refine wpAny_bind (add_true ha fun h' ep' r hs hg => ?_)
  show wpAny _ _ (ret Value.none) _ _ _
  exact wpAny_pure ⟨_, rfl, h h' ep' hs hg⟩
theorem compLoop_set {elt target iter : Expr} {scope : Scope} {pos : Pos} {it acc : Value} {env : Env} (I : Nat → Shared → Prop)
    (turn : ∀ n s, I n s → wpAny (model prog w) A (pyNext it) (fun r s₁ => match r with
      | none => R (.ok .next) s₁
      | some v => wpAny (model prog w) A (assign target env v) (fun _ s₂ => wpAny (model prog w) A (eval elt env) (fun x s₄ =>
              wpAny (model prog w) A (call (.builtin "set.add") [acc, x]) (fun _ s₅ => ∃ m, m < n ∧ I m s₅) (notedBy (model prog w) A env fun e s' => R (.error e) s') s₄) (notedBy (model prog w) A env fun e s' => R (.error e) s') s₂)
            (notedBy (model prog w) A env fun e s' => R (.error e) s') s₁) (notedBy (model prog w) A env fun e s' => R (.error e) s') s)
    (n : Nat) (h : I n s) (ht : ∀ v, letOwnedTupleGo target it v = pure () := by intro _; rfl) :
    codeAny (model prog w) A (.compLoop (.SetComp elt [⟨target, iter, [], 0⟩] scope pos) 0 it acc env) R s := by
  refine codeAny_loop rfl I (fun n s hI => ?_) n h
  show wpAny _ A ((compTurn (.SetComp elt [⟨target, iter, [], 0⟩] scope pos) 0 it acc env).onRaise (fun x => do noteFrame x env; theTreesLotGoes x)) _ _ s
  refine wpAny_noted ?_
  rw [compTurn_set]
  refine wpAny_bind (wpAny_standAt (wpAny_bind (wpAny_mono (turn n s hI) (fun r s₁ h₁ => ?_) fun _ _ h' => h')))
  cases r with
  | none => exact wpAny_pure h₁
  | some v =>
    refine wpAny_bind (wpAny_of_eq (ht v) ?_)
    refine wpAny_bind (wpAny_mono h₁ (fun _ s₂ h₂ => ?_) fun _ _ h' => h')
    exact wpAny_bind (wpAny_bind (wpAny_mono h₂ (fun x s₄ h₄ => wpAny_bind (wpAny_standAt (wpAny_bind (wpAny_mono h₄ (fun _ s₅ h₅ => wpAny_pure (wpAny_pure ⟨rfl, h₅⟩)) fun _ _ h' => h')))) fun _ _ h' => h'))
theorem compStart_set {elt target iter ifs rest scope pos it acc env}
    (h0 : codeAny (model prog w) A (.compLoop (.SetComp elt (⟨target, iter, ifs, 0⟩ :: rest) scope pos) 0 it acc env) R s)
    (h : wpAny (model prog w) A (pyIter it) (fun it' s' => codeAny (model prog w) A (.compLoop (.SetComp elt (⟨target, iter, ifs, 0⟩ :: rest) scope pos) 0 it' acc env) R s')
      (notedBy (model prog w) A env fun x s' => R (.error x) s') s) :
    codeAny (model prog w) A (.compStart (.SetComp elt (⟨target, iter, ifs, 0⟩ :: rest) scope pos) 0 it acc env) R s := by
  refine codeAny_of_tree ?_
  show wpAny _ _ ((compStart (.SetComp elt (⟨target, iter, ifs, 0⟩ :: rest) scope pos) 0 it acc env).onRaise (fun x => do noteFrame x env; standAt theWindowsPlace)) _ _ s
  refine wpAny_notedAt ?_
  unfold compStart
  show wpAny _ _ (ask >>= _) _ _ s
  refine wpAny_bind (wpAny_askSetting (wpAny_ite ?_))
  split
  · first
      | exact wpAny_bind (wpAny_pure (wpAny_pure (And.intro rfl h0)))
      | exact wpAny_pure (And.intro rfl h0)
  · first
      | exact wpAny_bind (wpAny_rule (wpAny_bind (wpAny_standAt (wpAny_bind (wpAny_mono h (fun it' s' h' => wpAny_pure (And.intro rfl h')) fun _ _ x => x)))))
      | (refine wpAny_bind (wpAny_rule ?_); show wpAny _ _ (standAt iter.pos >>= _) _ _ s; exact wpAny_bind (wpAny_standAt (wpAny_bind (wpAny_mono h (fun it' s' h' => wpAny_pure (And.intro rfl h')) fun _ _ x => x))))
/-- {elt for x in src}, every elt being True -/
theorem sc_true {env : Env} {elt iter : Expr} {x : Str} {px : Pos} {scope : Scope} {cl : List (Str × Addr)} {pos : Pos} {Q : Value → Shared → Prop} {n : Nat} {P : Nat → Value → Prop}
    (hsrc : wpAny (model prog w) A (eval iter env) (fun xv s₁ => Keeps s s₁ ∧ Src prog w A s₁ xv n P) E s) (hn : 0 < n)
    (he : ∀ C i v s₃ m₃ E', P i v → s₃.heap.Ns C m₃ → m₃ x = some v → Keep s.heap s₃.heap → Under s.heap C →
      wpAny (model prog w) A (eval elt (compEnvC scope cl C env)) (fun y s₄ => y = .bool true ∧ Keeps s₃ s₄) E' s₃)
    (h : ∀ D ep h' tk, s.heap.get? D = none → h'.get? D = some (setObj (!(w.params.followText "set-order")) 1 ep) → Keep s.heap h' → Q (.ref D) { s with heap := h', toks := tk })
    (hclos : closureFor scope env = pure cl := by rfl) (hcell : ∀ y ∈ scope.names, y.2 ≠ .cell := by decide) (hkind : scope.kind = .function := by rfl)
    (hnames : ∀ y ∈ scope.names, y.2 = .local → scope.names.lookup y.1 = some .local := by decide) (hx : scope.names.lookup x = some .local := by decide)
    (hs : ∀ x, foldedSetIterable iter env x = pure x := by intro _; rfl) :
    wpAny (model prog w) A (eval (.SetComp elt [⟨.Name x px, iter, [], 0⟩] scope pos) env) Q E s := by
  rw [arm_eval_SetComp]
  refine wpAny_comprehension_free (use := none) rfl hs hclos hkind hnames (wpAny_mono hsrc (fun xv s₁ h₁ => ?_) fun _ _ e => e)
  obtain ⟨⟨h1, tk1, rfl, hk1⟩, hsr⟩ := h₁
  refine hsr _ _ fun I fp St h2 hk2 hI W hst hfp _ _ => ?_
  have up : Keep s.heap h2 := Keep.trans hk1 hk2
  have hIs : s.heap.get? I = none := by
    cases e : s.heap.get? I with
    | none => rfl
    | some o => rw [hk1 _ _ e] at hI; cases hI
  have ne : ∀ b o, s.heap.get? b = some o → b ∉ [I] := fun b o e hb => by rw [List.mem_singleton.mp hb, hIs] at e; cases e
  unfold newSet setsByText
  refine wpAny_bind (wpAny_bind (wpAny_askSetting (wpAny_pure ?_)))
  dsimp only
  have hled : ∃ led, led = !(model prog w).w.params.followText "set-order" := ⟨_, rfl⟩
  obtain ⟨led, hled⟩ := hled
  have hled' : led = !(w.params.followText "set-order") := hled
  rw [← hled]
  simp only [newObj]
  refine wpAny_bind (wpAny_alloc (wpAny_pure ?_))
  refine wpAny_newFunctionEnv hcell (by intro y hy; simp at hy) (fun h₁ hns₁ hsb₁ => ?_) hkind
  dsimp only at hns₁ hsb₁ ⊢
  generalize hH2 : h2.push { cls := .type "set", dict := none, data := .set #[] 0 (.fresh 0 0 led) } = H2 at hns₁ hsb₁ ⊢
  have hC : H2.objs.size = h2.objs.size + 1 := by rw [← hH2, Heap.size_push]
  have hDC : h2.objs.size ≠ H2.objs.size := by rw [hC]; exact Nat.ne_of_lt (Nat.lt_succ_self _)
  have below : ∀ b, b < h2.objs.size → b ≠ H2.objs.size ∧ b ≠ h2.objs.size := fun b hb => ⟨by rw [hC]; exact Nat.ne_of_lt (Nat.lt_succ_of_lt hb), Nat.ne_of_lt hb⟩
  have hDf : h2.objs.size ∉ fp := fun hm => Nat.lt_irrefl _ (hfp _ hm)
  have hCf : H2.objs.size ∉ fp := fun hm => by have := hfp _ hm; rw [hC] at this; exact Nat.lt_irrefl _ (Nat.lt_of_succ_lt this)
  have old : ∀ b o, h2.get? b = some o → h₁.get? b = some o := fun b o e => hsb₁.extBut b o (below b (Heap.lt_size e)).1 (Heap.get?_push_of_some _ (hH2 ▸ Heap.get?_push_of_some _ e))
  have hacc : h₁.get? h2.objs.size = some (setObj led 0 0) := hsb₁.extBut _ _ hDC (Heap.get?_push_of_some _ (hH2 ▸ Heap.get?_push_size _ rfl))
  have hst₁ : St 0 h₁ := W.frame _ _ _ hst fun b _ o e => old b o e
  have hun : Under s.heap H2.objs.size := fun b o e => by rw [hC]; exact Nat.lt_succ_of_lt (Heap.lt_size (up _ _ e))
  have fresh : h2.get? h2.objs.size = none := new_none _
  have hDs : s.heap.get? h2.objs.size = none := by
    cases e : s.heap.get? h2.objs.size with
    | none => rfl
    | some o => rw [up _ _ e] at fresh; cases fresh
  have hCs : s.heap.get? H2.objs.size = none := hun.none
  have hIC : H2.objs.size ∉ [I] := fun q => hCf (W.sub _ q)
  have hID : h2.objs.size ∉ [I] := fun q => hDf (W.sub _ q)
  have loop : ∀ tk₀, codeAny (model prog w) A (.compLoop (.SetComp elt [⟨.Name x px, iter, [], 0⟩] scope pos) 0 (.ref I) (.ref h2.objs.size) (compEnvC scope cl H2.objs.size env))
        (compPost (model prog w) A E none Q (.ref h2.objs.size) H2.objs.size) { s with heap := h₁, toks := tk₀ } := by
    intro tk₀
    refine compLoop_set (SetInv s H2.objs.size h2.objs.size n St led) ?_ (n + 1) (.mk 0 h₁ tk₀ _ 0 hst₁ hacc hns₁ (fun b o e => old b o (up b o e)) (Nat.zero_le _) rfl)
    rintro k s' ⟨i, H, tk, m', ep, hsti, hSi, hni, hki, hi, rfl⟩
    by_cases hlt : i < n
    · refine W.item i _ _ _ hlt hsti fun v h₃ tk₃ hPv hst₃ hk₃ => ?_
      refine wpAny_assign_Name (wpAny_storeName_local (lookup_relabel_local hx) (hni.at' fun o e => hk₃ _ o hIC e) (fun h₄ hn₄ hs₄ => ?_) (by simp [compEnvC, relabel, hkind]))
      replace hs₄ : Heap.SameBut H2.objs.size h₃ h₄ := hs₄
      have k4 : Keep s.heap h₄ := fun b o e => hs₄.extBut b o (fun q => by rw [q, hCs] at e; cases e) (hk₃ b o (ne b o e) (hki b o e))
      have hst₄ : St (i + 1) h₄ := W.frame _ _ _ hst₃ fun b hb o e => hs₄.extBut b o (fun q => hCf (q ▸ hb)) e
      have hS₄ : h₄.get? h2.objs.size = some (setObj led (if i = 0 then 0 else 1) ep) := hs₄.extBut _ _ hDC (hk₃ _ _ hID hSi)
      refine wpAny_mono (he H2.objs.size i v _ _ _ hPv hn₄ (by simp) k4 hun) (fun y s₅ h₅ => ?_) fun _ _ e => e
      obtain ⟨rfl, h₅, tk₅, rfl, hk₅⟩ := h₅
      refine call_add_true (hk₅ _ _ hS₄) fun h₆ ep₆ hs₆ hg₆ => ?_
      replace hs₆ : Heap.SameBut h2.objs.size h₅ h₆ := hs₆
      refine ⟨n + 1 - (i + 1), Nat.sub_lt_sub_left (Nat.lt_succ_of_lt hlt) (Nat.lt_succ_self i), .mk (i + 1) h₆ _ _ ep₆ (W.frame _ _ _ hst₄ fun b hb o e => hs₆.extBut b o (fun q => hDf (q ▸ hb)) (hk₅ b o e)) ?_ ((hn₄.keeps hk₅).sameBut hs₆ (Ne.symm hDC)) (fun b o e => hs₆.extBut b o (fun q => by rw [q, hDs] at e; cases e) (hk₅ b o (k4 b o e))) hlt rfl⟩
      rw [if_neg (Nat.succ_ne_zero i)]; exact hg₆
    · have hin : i = n := Nat.le_antisymm hi (Nat.not_lt.mp hlt)
      subst hin
      refine W.done _ _ _ hsti fun h₃ tk₃ hk₃ => ?_
      refine ⟨m', hni.at' fun o e => hk₃ _ o hIC e, fun h₄ hs₄ => ?_⟩
      replace hs₄ : Heap.SameBut H2.objs.size h₃ h₄ := hs₄
      rw [if_neg (Nat.pos_iff_ne_zero.mp hn)] at hSi
      exact h h2.objs.size ep h₄ tk₃ hDs (hled' ▸ hs₄.extBut _ _ hDC (hk₃ _ _ hID hSi)) fun b o e => hs₄.extBut b o (fun q => by rw [q, hCs] at e; cases e) (hk₃ b o (ne b o e) (hki b o e))
  exact compStart_set (loop _) (W.self 0 _ _ _ hst₁ (loop _))
end
end Mine
end
theorem Mine.calmS3 : True := by w_top off; trivial
section
open PySem PySem.W PyProof.Rows PySem.Calls
open PySem.Builtin
set_option maxRecDepth 100000
set_option maxHeartbeats 4000000
namespace Mine
abbrev sitObj (D : Addr) (i j : Int) (ep : Nat) : Obj := { cls := .type "set_iterator", data := .fields #[.int i 0, .int j 0, .ref D, .int 1 0, .int ep 0] }
section
variable {prog : Program} {w : World} {A : Around} {E : Value → Shared → Prop} {s : Shared}
theorem set_state {a : Addr} {led : Bool} {ep : Nat} {Q : (Array (Int × Value) × Nat × SetTable) → Shared → Prop} (ha : s.heap.get? a = some (setObj led 1 ep)) (h : Q (#[(1, .bool true)], ep, trueTab led) s) :
    wpAny (model prog w) A (setState a) Q E s := by
  unfold setState
  refine wpAny_bind (wpAny_load ha ?_)
  exact wpAny_pure h
theorem iter_true {D : Addr} {ep : Nat} {led : Bool} {Q : Value → Shared → Prop} (hD : s.heap.get? D = some (setObj led 1 ep)) (h : Q (.ref s.heap.objs.size) { s with heap := s.heap.push (sitObj D 0 0 ep) }) :
    wpAny (model prog w) A (pyIter (.ref D)) Q E s := by
  refine wpAny_pyIter_slot ⟨_, hD, rfl⟩ F.slot_set_iter (wpAny_call_entry F.slot_set_iter ⟨_, hD, rfl⟩ en_set_iter ?_ (F.args_set_iter_1 _))
  unfold Builtin.«frozenset.__iter__» Builtin.Frozenset.slot0
  simp only [bind_assoc]
  refine wpAny_bind (wpAny_pure ?_)
  unfold Builtin.Frozenset.sizeOf setEntries setDrawn setEpoch setsByText
  dsimp only
  unfold Builtin.Frozenset.addrOf
  refine wpAny_bind (wpAny_pure ?_)
  simp only [bind_assoc]
  refine wpAny_bind (set_state hD ?_)
  refine wpAny_bind (wpAny_pure ?_)
  refine wpAny_bind (wpAny_pure ?_)
  refine wpAny_bind (set_state hD ?_)
  refine wpAny_bind (wpAny_askSetting ?_)
  refine wpAny_bind (wpAny_pure ?_)
  refine wpAny_bind (wpAny_pure ?_)
  have e : ∀ b : Bool, (!b && (!(trueTab led).plain && decide ((#[((1 : Int), Value.bool true)] : Array (Int × Value)).size > 1))) = false := by intro b; cases b <;> rfl
  show wpAny _ _ (if (!_ && (!(trueTab led).plain && decide ((#[((1 : Int), Value.bool true)] : Array (Int × Value)).size > 1))) = true then _ else _) _ _ _
  rw [e, if_neg Bool.false_ne_true]
  refine wpAny_bind (wpAny_pure ?_)
  refine wpAny_bind (set_state hD ?_)
  refine wpAny_bind (wpAny_pure ?_)
  refine wpAny_bind (wpAny_newObj_type ?_)
  exact wpAny_pure ⟨_, rfl, "set_iterator", _, ⟨_, Heap.get?_push_size _ rfl, rfl⟩, slot_setit_next.lookup, h⟩
theorem setnext {D : Addr} {ep : Nat} {slot given : Nat} {r : Option (Value × Nat)} {Q : Option (Value × Nat) → Shared → Prop} (hD : s.heap.get? D = some (setObj (!(w.params.followText "set-order")) 1 ep))
    (hr : (w.params.followText "set-order" = true ∧ ((given = 0 ∧ r = some (.bool true, slot)) ∨ (given = 1 ∧ r = none))) ∨ (w.params.followText "set-order" = false ∧ ((slot = 0 ∧ r = some (.bool true, 2)) ∨ (slot = 2 ∧ r = none))))
    (h : Q r s) : wpAny (model prog w) A (setNext D slot given ep) Q E s := by
  unfold setNext setsByText
  simp only [bind_assoc]
  refine wpAny_bind (set_state hD ?_)
  dsimp only
  refine wpAny_bind (wpAny_askSetting ?_)
  refine wpAny_bind (wpAny_pure ?_)
  show wpAny _ _ (if w.params.followText "set-order" = true then _ else _) _ _ _
  rcases hr with ⟨hb, hr⟩ | ⟨hb, hr⟩
  · rw [hb, if_pos rfl, if_neg (by simp)]
    rw [hb] at hD
    refine wpAny_bind ?_
    unfold setWalk setsByText
    simp only [bind_assoc]
    refine wpAny_bind (set_state hD ?_)
    refine wpAny_bind (wpAny_askSetting ?_)
    refine wpAny_bind (wpAny_pure ?_)
    show wpAny _ _ (if w.params.followText "set-order" = true then _ else _) _ _ _
    rw [hb, if_pos rfl]
    refine wpAny_bind (wpAny_askSetting (wpAny_pure ?_))
    have e : pickOrder (w.params.setOrder D ep) #[((1 : Int), Value.bool true)] = #[(1, .bool true)] := by
      unfold pickOrder
      show pickOrder.go _ 1 0 [((1 : Int), Value.bool true)] #[] = _
      unfold pickOrder.go
      simp [Nat.mod_one, pickOrder.go]
    show wpAny _ _ (pure ((pickOrder (w.params.setOrder D ep) #[((1 : Int), Value.bool true)])[given]?.map _)) _ _ _
    rw [e]
    refine wpAny_pure ?_
    rcases hr with ⟨rfl, rfl⟩ | ⟨rfl, rfl⟩
    · exact h
    · exact h
  · rw [hb, if_neg Bool.false_ne_true]
    rw [if_neg (by exact Bool.false_ne_true)]
    refine wpAny_bind (m := _) ?_
    refine wpAny_pure ?_
    refine wpAny_pure ?_
    rcases hr with ⟨rfl, rfl⟩ | ⟨rfl, rfl⟩
    · exact h
    · exact h
theorem next_true {D I : Addr} {ep : Nat} {Q : Option Value → Shared → Prop} (hD : s.heap.get? D = some (setObj (!(w.params.followText "set-order")) 1 ep)) (hI : s.heap.get? I = some (sitObj D 0 0 ep))
    (h : ∀ h' (k : Nat), h'.get? I = some (sitObj D k 1 ep) → (w.params.followText "set-order" = true ∨ (w.params.followText "set-order" = false ∧ k = 2)) → Heap.SameBut I s.heap h' → Q (some (.bool true)) { s with heap := h' }) : wpAny (model prog w) A (pyNext (.ref I)) Q E s := by
  unfold pyNext
  refine wpAny_bind (wpAny_attempt (wpAny_callSpecial?_slot (name := Str.ofString "__next__") ⟨_, hI, rfl⟩ slot_setit_next
    (wpAny_call_entry slot_setit_next ⟨_, hI, rfl⟩ en_setit_next ?_ (ar_setit_next _))))
  unfold Builtin.«set_iterator.__next__»
  refine wpAny_bind (wpAny_pure ?_)
  refine wpAny_bind (wpAny_fieldsOf hI rfl ?_)
  dsimp only
  unfold setEntries
  refine wpAny_bind (wpAny_bind (set_state hD (wpAny_pure ?_)))
  dsimp only
  rw [if_neg (by decide)]
  cases hb : w.params.followText "set-order" with
  | true =>
    refine wpAny_bind (setnext (slot := 0) (given := 0) (r := some (.bool true, 0)) hD (.inl ⟨hb, .inl ⟨rfl, rfl⟩⟩) ?_)
    dsimp only
    refine wpAny_bind (wpAny_setField hI rfl (by simp) ?_)
    have hI' := Heap.get?_update_self (Obj.mapFields (·.setIfInBounds 0 (rawInt ((0 : Nat) : Int)))) hI rfl
    refine wpAny_bind (wpAny_setField hI' rfl (by simp [Obj.mapFields]) ?_)
    exact wpAny_pure ⟨_, rfl, wpAny_pure (h _ 0 (Heap.get?_update_self _ hI' rfl) (.inl hb) ((Heap.SameBut.update ..).trans (Heap.SameBut.update ..)))⟩
  | false =>
    refine wpAny_bind (setnext (slot := 0) (given := 0) (r := some (.bool true, 2)) hD (.inr ⟨hb, .inl ⟨rfl, rfl⟩⟩) ?_)
    dsimp only
    refine wpAny_bind (wpAny_setField hI rfl (by simp) ?_)
    have hI' := Heap.get?_update_self (Obj.mapFields (·.setIfInBounds 0 (rawInt ((2 : Nat) : Int)))) hI rfl
    refine wpAny_bind (wpAny_setField hI' rfl (by simp [Obj.mapFields]) ?_)
    exact wpAny_pure ⟨_, rfl, wpAny_pure (h _ 2 (Heap.get?_update_self _ hI' rfl) (.inr ⟨hb, rfl⟩) ((Heap.SameBut.update ..).trans (Heap.SameBut.update ..)))⟩
theorem end_true {D I : Addr} {ep : Nat} {k : Nat} {Q : Option Value → Shared → Prop} (hh : A.handled = none) (hD : s.heap.get? D = some (setObj (!(w.params.followText "set-order")) 1 ep)) (hI : s.heap.get? I = some (sitObj D k 1 ep))
    (hk : w.params.followText "set-order" = true ∨ (w.params.followText "set-order" = false ∧ k = 2))
    (h : ∀ h', Heap.ExtBut I s.heap h' → Q none { s with heap := h' }) : wpAny (model prog w) A (pyNext (.ref I)) Q E s := by
  unfold pyNext
  refine wpAny_bind (wpAny_attempt (wpAny_callSpecial?_slot (name := Str.ofString "__next__") ⟨_, hI, rfl⟩ slot_setit_next
    (wpAny_call_entry slot_setit_next ⟨_, hI, rfl⟩ en_setit_next ?_ (ar_setit_next _))))
  unfold Builtin.«set_iterator.__next__»
  refine wpAny_bind (wpAny_pure ?_)
  refine wpAny_bind (wpAny_fieldsOf hI rfl ?_)
  dsimp only
  unfold setEntries
  refine wpAny_bind (wpAny_bind (set_state hD (wpAny_pure ?_)))
  dsimp only
  rw [if_neg (by decide)]
  refine wpAny_bind (setnext (slot := k) (given := 1) (r := none) hD (hk.elim (fun hb => .inl ⟨hb, .inr ⟨rfl, rfl⟩⟩) fun hb => .inr ⟨hb.1, .inr ⟨hb.2, rfl⟩⟩) ?_)
  dsimp only
  refine wpAny_bind (wpAny_setField hI rfl (by simp) ?_)
  show wpAny _ _ (newExc (.type "StopIteration") [] >>= _) _ _ _
  refine wpAny_bind ?_
  simp only [newExc, newTuple]
  refine wpAny_bind (wpAny_newObj_type ?_ (by size_fits))
  refine wpAny_bind (m := firstArgMember _ _) (wpAny_of_eq (a := Value.none) (by first | rfl | (simp only [firstArgMember]; rfl)) ?_)
  refine wpAny_newObj_type ?_ (by size_fits)
  simp only [raiseNew]
  refine wpAny_bind (wpAny_handled ?_)
  rw [show A.in1.handled = none from hh]
  refine wpAny_bind (wpAny_pure (wpAny_throw ?_))
  refine wpAny_bind (wpAny_isInstance (T := "StopIteration") (b := true) ⟨_, Heap.get?_push_size _ rfl, rfl⟩ isSubtype_stop ?_)
  exact wpAny_pure (h _ (((Heap.SameBut.update ..).extBut.push _).push _))
/-- x, = a set that holds True alone -/
theorem unpack_true {env : Env} {y : Str} {py pt : Pos} {x1} {D : Addr} {ep : Nat} {Q : Unit → Shared → Prop} (hh : A.handled = none) (hD : s.heap.get? D = some (setObj (!(w.params.followText "set-order")) 1 ep))
    (h : ∀ h', Keep s.heap h' → wpAny (model prog w) A (assign (.Name y py) env (.bool true)) Q E { s with heap := h' }) :
    wpAny (model prog w) A (assign (.Tuple [.Name y py] x1 pt) env (.ref D)) Q E s := by
  have hDI : D ≠ s.heap.objs.size := Nat.ne_of_lt (Heap.lt_size hD)
  rw [arm_assign_Tuple]
  refine wpAny_bind (wpAny_standAt ?_)
  unfold unpack
  show wpAny _ _ (holding [.ref D] (unpackItems (.ref D) 1 none) >>= _) _ _ _
  refine wpAny_bind (wpAny_holding ?_)
  unfold unpackItems
  refine wpAny_bind ?_
  unfold notIterableAtAll
  refine wpAny_bind (wpAny_specialOf (T := "set") ⟨_, hD, rfl⟩ F.slot_set_iter.lookup ?_)
  refine wpAny_pure ?_
  simp only [Bool.false_eq_true, if_false]
  refine wpAny_bind (wpAny_holding (iter_true hD ?_))
  show wpAny _ _ (holding _ (draw _ 1) >>= _) _ _ _
  refine wpAny_bind (wpAny_holding ?_)
  show wpAny _ _ (pyNext _ >>= _) _ _ _
  have hD1 : (s.heap.push (sitObj D 0 0 ep)).get? D = _ := Heap.get?_push_of_some _ hD
  refine wpAny_bind (next_true hD1 (Heap.get?_push_size _ rfl) fun h₁ k hI₁ hk hs₁ => ?_)
  replace hs₁ : Heap.SameBut s.heap.objs.size (s.heap.push (sitObj D 0 0 ep)) h₁ := hs₁
  refine wpAny_bind (wpAny_holding ?_)
  show wpAny _ _ (pure []) _ _ _
  refine wpAny_pure (wpAny_pure ?_)
  rw [if_neg (by simp)]
  refine wpAny_bind (wpAny_holding (end_true hh (hs₁.extBut _ _ hDI hD1) hI₁ hk fun h₂ he₂ => ?_))
  replace he₂ : Heap.ExtBut s.heap.objs.size h₁ h₂ := he₂
  simp only [Option.isSome_none, Bool.false_eq_true, if_false]
  refine wpAny_pure ?_
  show wpAny _ _ (do holding [] (assign (.Name y py) env (.bool true)); pure ()) _ _ _
  refine wpAny_bind (wpAny_holding (wpAny_mono (h h₂ fun b o e => ?_) (fun _ _ q => wpAny_pure q) fun _ _ q => q))
  have hb := Nat.ne_of_lt (Heap.lt_size e)
  exact he₂ b o hb (hs₁.extBut b o hb (Heap.get?_push_of_some _ e))
end
end Mine
end
theorem Mine.calmL6 : True := by w_top off; trivial
section
open PySem PySem.W PyProof.Rows PySem.Calls
open PySem.Builtin
open AutoSeq1 (wpAny_loadPart')
open MeetsSeq3 (plain_eq_loop entry_eq_loop)
set_option maxRecDepth 100000
set_option maxHeartbeats 4000000
namespace Mine
/-- first less than second, of lists of byte strings -/
def ltL : List (List UInt8) → List (List UInt8) → Bool
  | [], [] => false
  | [], _ :: _ => true
  | _ :: _, [] => false
  | x :: xs, y :: ys => if x = y then ltL xs ys else Bytes.order x y == .lt
def gtL : List (List UInt8) → List (List UInt8) → Bool
  | [], [] => false
  | [], _ :: _ => false
  | _ :: _, [] => true
  | x :: xs, y :: ys => if x = y then gtL xs ys else Bytes.order x y == .gt
theorem order_swap : ∀ x y : List UInt8, (Bytes.order x y == .gt) = (Bytes.order y x == .lt)
  | [], [] => rfl
  | [], _ :: _ => rfl
  | _ :: _, [] => rfl
  | x :: xs, y :: ys => by
    unfold Bytes.order
    by_cases h1 : x < y
    · have h2 : ¬ y < x := by intro h; exact absurd h1 (UInt8.lt_asymm h)
      simp [h1, h2]
    · by_cases h2 : y < x
      · simp [h1, h2]
      · simp [h1, h2]; exact order_swap xs ys
theorem gtL_eq : ∀ xs ys, gtL xs ys = ltL ys xs
  | [], [] => rfl
  | [], _ :: _ => rfl
  | _ :: _, [] => rfl
  | x :: xs, y :: ys => by
    unfold gtL ltL
    by_cases h : x = y
    · simp [h, gtL_eq xs ys]
    · rw [if_neg h, if_neg (Ne.symm h), order_swap]
section
variable {prog : Program} {w : World} {A : Around} {E : Value → Shared → Prop} {s : Shared} {b c : Array UInt8} {t u : Tok}
theorem eqb_bytes {Q : Bool → Shared → Prop} (h : Q (decide (b.toList = c.toList)) s) : wpAny (model prog w) A (eqBool (.bytes b t) (.bytes c u)) Q E s := by
  unfold eqBool
  refine wpAny_holding ?_
  by_cases hab : (Value.bytes b t == Value.bytes c u) = true
  · rw [if_pos hab]
    have e : b = c := by have := eq_of_beq hab; injection this
    subst e
    exact wpAny_bind (wpAny_rule (wpAny_pure (by simpa using h)))
  · rw [if_neg hab]
    show wpAny _ _ (richCompare .Eq (.bytes b t) (.bytes c u) >>= _) _ _ _
    have e : (b.toList == c.toList) = decide (b.toList = c.toList) := by
      rw [Bool.eq_iff_iff, beq_iff_eq, decide_eq_true_iff]
    exact wpAny_bind (eq_bytes (Q := fun v s' => wpAny (model prog w) A (truthOfDropped v) Q E s') (by rw [e]; exact wpAny_truthy_bool h))
theorem BytesAre.drop : ∀ {vs : List Value} {ls : List (List UInt8)} (i : Nat), BytesAre vs ls → BytesAre (vs.drop i) (ls.drop i)
  | _, _, 0, h => by simpa using h
  | _, _, i + 1, .nil => by simpa using BytesAre.nil
  | _, _, i + 1, .cons _ r => by simpa using r.drop i
theorem loop_lt {l m : Addr} {vs us : List Value} {n n2 : Nat} {dd dd2 : Option Addr} {sl sl2 : Array (Option Value)} :
    ∀ (k i : Nat) (ls ms : List (List UInt8)), vs.length - i = k → BytesAre (vs.drop i) ls → BytesAre (us.drop i) ms → i ≤ vs.length → i ≤ us.length →
      Meets (Builtin.«list.__eq__.loop» ⟨[.ref l, .ref m, rawInt i, rawInt 0], []⟩)
      (fun _ R s => s.heap.get? l = some { cls := .type "list", dict := dd, data := .seq vs.toArray n, slots := sl } ∧ s.heap.get? m = some { cls := .type "list", dict := dd2, data := .seq us.toArray n2, slots := sl2 } ∧
        R (.ok (.ret (.bool (ltL ls ms)))) s) := by
  intro k
  induction k with
  | zero =>
    intro i ls ms hk hv hu hi hi2 prog w A R s h
    obtain ⟨hp, g, d, tk, os⟩ := s; obtain ⟨hl, hm, h⟩ := h
    have hie : i = vs.length := by (first | lia | omega)
    have hi1 : (vs.toArray[((i : Nat) : Int).toNat]? : Option Value) = none := by simp; (first | lia | omega)
    have hls : ls = [] := by
      rw [hie, List.drop_length] at hv
      cases hv; rfl
    subst hls
    wp_walk using wpAny_loadPart' hl, wpAny_loadPart' hm
    rw [hi1]
    wp_walk using wpAny_loadPart' hl, wpAny_loadPart' hm
    have e : ltL [] ms = decide (vs.toArray.size < us.toArray.size) := by
      have h9 := hu.length
      rw [List.length_drop] at h9
      simp only [List.size_toArray]
      cases ms with
      | nil => simp only [List.length_nil] at h9; simp only [ltL]; symm; rw [decide_eq_false_iff_not]; (first | lia | omega)
      | cons a r => simp only [List.length_cons] at h9; simp only [ltL]; symm; rw [decide_eq_true_iff]; (first | lia | omega)
    rw [e] at h
    exact h
  | succ k ih =>
    intro i ls ms hk hv hu hi hi2 prog w A R s h
    obtain ⟨hp, g, d, tk, os⟩ := s; obtain ⟨hl, hm, h⟩ := h
    have hlt : i < vs.length := by (first | lia | omega)
    obtain ⟨b, t, hb, hlb⟩ : ∃ b t, vs[i]? = some (.bytes b t) ∧ ls[0]? = some b.toList := by
      obtain ⟨b, t, h1, h2⟩ := hv.get (i := 0) (by rw [List.length_drop]; (first | lia | omega))
      exact ⟨b, t, by simpa using h1, h2⟩
    obtain ⟨lr, rfl⟩ : ∃ lr, ls = b.toList :: lr := by cases ls with | nil => cases hlb | cons a r => cases hlb; exact ⟨r, rfl⟩
    have hi1 : (vs.toArray[((i : Nat) : Int).toNat]? : Option Value) = some (.bytes b t) := by simpa using hb
    have hvr : BytesAre (vs.drop (i + 1)) lr := by
      have := hv.drop 1
      rw [List.drop_drop] at this
      simpa [Nat.add_comm] using this
    wp_walk using wpAny_loadPart' hl, wpAny_loadPart' hm
    rw [hi1]
    by_cases hlt2 : i < us.length
    · obtain ⟨c, u, hc, hmc⟩ : ∃ b t, us[i]? = some (.bytes b t) ∧ ms[0]? = some b.toList := by
        obtain ⟨b, t, h1, h2⟩ := hu.get (i := 0) (by rw [List.length_drop]; (first | lia | omega))
        exact ⟨b, t, by simpa using h1, h2⟩
      obtain ⟨mr, rfl⟩ : ∃ lr, ms = c.toList :: lr := by cases ms with | nil => cases hmc | cons a r => cases hmc; exact ⟨r, rfl⟩
      have hi2' : (us.toArray[((i : Nat) : Int).toNat]? : Option Value) = some (.bytes c u) := by simpa using hc
      have hur : BytesAre (us.drop (i + 1)) mr := by
        have := hu.drop 1
        rw [List.drop_drop] at this
        simpa [Nat.add_comm] using this
      rw [hi2']
      refine wpAny_bind (eqb_bytes ?_)
      by_cases hbc : b.toList = c.toList
      · rw [decide_eq_true hbc]
        wp_walk
        have hcc : ((i : Int) + 1) = ((i + 1 : Nat) : Int) := by push_cast; rfl
        rw [hcc]
        have h' : ltL (b.toList :: lr) (c.toList :: mr) = ltL lr mr := by simp only [ltL]; rw [if_pos hbc]
        rw [h'] at h
        exact ⟨plainId_quiet plain_eq_loop _, codeAny_builtin entry_eq_loop (by
          rw [Around.under_plainId plain_eq_loop _]
          exact ih (i + 1) lr mr (by (first | lia | omega)) hvr hur (by (first | lia | omega)) (by (first | lia | omega)) prog w A R _ ⟨hl, hm, h⟩)⟩
      · rw [decide_eq_false hbc]
        have h' : ltL (b.toList :: lr) (c.toList :: mr) = (Bytes.order b.toList c.toList == .lt) := by simp only [ltL]; rw [if_neg hbc]
        rw [h'] at h
        wp_walk using wpAny_loadPart' hl, wpAny_loadPart' hm
        rw [hi1, hi2']
        show wpAny _ _ (richCompare .Lt (.bytes b t) (.bytes c u) >>= _) _ _ _
        refine wpAny_bind (lt_bytes (Q := fun v s' => wpAny _ _ (ret v) _ _ s') ?_)
        exact wpAny_pure h
    · have hms : ms = [] := by
        have h9 := hu.length
        rw [List.length_drop] at h9
        cases ms with | nil => rfl | cons a r => simp at h9; (first | lia | omega)
      subst hms
      have hi2' : (us.toArray[((i : Nat) : Int).toNat]? : Option Value) = none := by simp; (first | lia | omega)
      rw [hi2']
      wp_walk using wpAny_loadPart' hl, wpAny_loadPart' hm
      have e : ltL (b.toList :: lr) [] = decide (vs.toArray.size < us.toArray.size) := by
        simp only [List.size_toArray, ltL]
        symm; rw [decide_eq_false_iff_not]; (first | lia | omega)
      rw [e] at h
      exact h
theorem list_ltB {l m : Addr} {vs us : List Value} {n n2 : Nat} {dd dd2 : Option Addr} {sl sl2 : Array (Option Value)} {ls ms : List (List UInt8)} (hv : BytesAre vs ls) (hu : BytesAre us ms) :
      Meets (Builtin.«list.__lt__» ⟨[.ref l, .ref m], []⟩)
      (fun _ R s => s.heap.get? l = some { cls := .type "list", dict := dd, data := .seq vs.toArray n, slots := sl } ∧ s.heap.get? m = some { cls := .type "list", dict := dd2, data := .seq us.toArray n2, slots := sl2 } ∧
        R (.ok (.ret (.bool (ltL ls ms)))) s) := by
  intro prog w A R s h
  obtain ⟨hp, g, d, tk, os⟩ := s; obtain ⟨hl, hm, h⟩ := h
  have f3 := AutoSeq1.sub_list_list
  wp_walk using wpAny_loadPart' hl, wpAny_loadPart' hm
  exact ⟨plainId_quiet plain_eq_loop _, codeAny_builtin entry_eq_loop (by
    rw [Around.under_plainId plain_eq_loop _]
    exact loop_lt _ 0 ls ms rfl hv hu (Nat.zero_le _) (Nat.zero_le _) prog w A R _ ⟨hl, hm, h⟩)⟩
theorem lt_lists {l m : Addr} {vs us : List Value} {ls ms : List (List UInt8)} {Q : Value → Shared → Prop} (hl : s.heap.IsList l vs.toArray) (hm : s.heap.IsList m us.toArray) (hv : BytesAre vs ls) (hu : BytesAre us ms) (hA : A.units < cLine)
    (h : Q (.bool (ltL ls ms)) s) : wpAny (model prog w) A (richCompare .Lt (.ref l) (.ref m)) Q E s := by
  obtain ⟨⟨cls, dd, data, sl⟩, ho, hc, n, hd⟩ := id hl
  obtain ⟨⟨cls2, dd2, data2, sl2⟩, ho2, hc2, n2, hd2⟩ := id hm
  simp only at hc hd hc2 hd2
  subst hc hd hc2 hd2
  exact richCompare_meets_room (op := .Lt) ⟨_, ho, rfl⟩ ⟨_, ho2, rfl⟩ F.slot_list_lt F.entry_list_lt (F.args_list_lt_2 _ _) (list_ltB hv hu) ⟨ho, ho2, fun e => (nomatch e), h⟩ hA
theorem loop_gt {l m : Addr} {vs us : List Value} {n n2 : Nat} {dd dd2 : Option Addr} {sl sl2 : Array (Option Value)} :
    ∀ (k i : Nat) (ls ms : List (List UInt8)), vs.length - i = k → BytesAre (vs.drop i) ls → BytesAre (us.drop i) ms → i ≤ vs.length → i ≤ us.length →
      Meets (Builtin.«list.__eq__.loop» ⟨[.ref l, .ref m, rawInt i, rawInt 4], []⟩)
      (fun _ R s => s.heap.get? l = some { cls := .type "list", dict := dd, data := .seq vs.toArray n, slots := sl } ∧ s.heap.get? m = some { cls := .type "list", dict := dd2, data := .seq us.toArray n2, slots := sl2 } ∧
        R (.ok (.ret (.bool (gtL ls ms)))) s) := by
  intro k
  induction k with
  | zero =>
    intro i ls ms hk hv hu hi hi2 prog w A R s h
    obtain ⟨hp, g, d, tk, os⟩ := s; obtain ⟨hl, hm, h⟩ := h
    have hie : i = vs.length := by (first | lia | omega)
    have hi1 : (vs.toArray[((i : Nat) : Int).toNat]? : Option Value) = none := by simp; (first | lia | omega)
    have hls : ls = [] := by
      rw [hie, List.drop_length] at hv
      cases hv; rfl
    subst hls
    wp_walk using wpAny_loadPart' hl, wpAny_loadPart' hm
    rw [hi1]
    wp_walk using wpAny_loadPart' hl, wpAny_loadPart' hm
    have e : gtL [] ms = decide (vs.toArray.size > us.toArray.size) := by
      have h9 := hu.length
      rw [List.length_drop] at h9
      simp only [List.size_toArray]
      cases ms with
      | nil => simp only [List.length_nil] at h9; simp only [gtL]; symm; rw [decide_eq_false_iff_not]; (first | lia | omega)
      | cons a r => simp only [List.length_cons] at h9; simp only [gtL]; symm; rw [decide_eq_false_iff_not]; (first | lia | omega)
    rw [e] at h
    exact h
  | succ k ih =>
    intro i ls ms hk hv hu hi hi2 prog w A R s h
    obtain ⟨hp, g, d, tk, os⟩ := s; obtain ⟨hl, hm, h⟩ := h
    have hlt : i < vs.length := by (first | lia | omega)
    obtain ⟨b, t, hb, hlb⟩ : ∃ b t, vs[i]? = some (.bytes b t) ∧ ls[0]? = some b.toList := by
      obtain ⟨b, t, h1, h2⟩ := hv.get (i := 0) (by rw [List.length_drop]; (first | lia | omega))
      exact ⟨b, t, by simpa using h1, h2⟩
    obtain ⟨lr, rfl⟩ : ∃ lr, ls = b.toList :: lr := by cases ls with | nil => cases hlb | cons a r => cases hlb; exact ⟨r, rfl⟩
    have hi1 : (vs.toArray[((i : Nat) : Int).toNat]? : Option Value) = some (.bytes b t) := by simpa using hb
    have hvr : BytesAre (vs.drop (i + 1)) lr := by
      have := hv.drop 1
      rw [List.drop_drop] at this
      simpa [Nat.add_comm] using this
    wp_walk using wpAny_loadPart' hl, wpAny_loadPart' hm
    rw [hi1]
    by_cases hlt2 : i < us.length
    · obtain ⟨c, u, hc, hmc⟩ : ∃ b t, us[i]? = some (.bytes b t) ∧ ms[0]? = some b.toList := by
        obtain ⟨b, t, h1, h2⟩ := hu.get (i := 0) (by rw [List.length_drop]; (first | lia | omega))
        exact ⟨b, t, by simpa using h1, h2⟩
      obtain ⟨mr, rfl⟩ : ∃ lr, ms = c.toList :: lr := by cases ms with | nil => cases hmc | cons a r => cases hmc; exact ⟨r, rfl⟩
      have hi2' : (us.toArray[((i : Nat) : Int).toNat]? : Option Value) = some (.bytes c u) := by simpa using hc
      have hur : BytesAre (us.drop (i + 1)) mr := by
        have := hu.drop 1
        rw [List.drop_drop] at this
        simpa [Nat.add_comm] using this
      rw [hi2']
      refine wpAny_bind (eqb_bytes ?_)
      by_cases hbc : b.toList = c.toList
      · rw [decide_eq_true hbc]
        wp_walk
        have hcc : ((i : Int) + 1) = ((i + 1 : Nat) : Int) := by push_cast; rfl
        rw [hcc]
        have h' : gtL (b.toList :: lr) (c.toList :: mr) = gtL lr mr := by simp only [gtL]; rw [if_pos hbc]
        rw [h'] at h
        exact ⟨plainId_quiet plain_eq_loop _, codeAny_builtin entry_eq_loop (by
          rw [Around.under_plainId plain_eq_loop _]
          exact ih (i + 1) lr mr (by (first | lia | omega)) hvr hur (by (first | lia | omega)) (by (first | lia | omega)) prog w A R _ ⟨hl, hm, h⟩)⟩
      · rw [decide_eq_false hbc]
        have h' : gtL (b.toList :: lr) (c.toList :: mr) = (Bytes.order b.toList c.toList == .gt) := by simp only [gtL]; rw [if_neg hbc]
        rw [h'] at h
        wp_walk using wpAny_loadPart' hl, wpAny_loadPart' hm
        rw [hi1, hi2']
        show wpAny _ _ (richCompare .Gt (.bytes b t) (.bytes c u) >>= _) _ _ _
        refine wpAny_bind (gt_bytes (Q := fun v s' => wpAny _ _ (ret v) _ _ s') ?_)
        exact wpAny_pure h
    · have hms : ms = [] := by
        have h9 := hu.length
        rw [List.length_drop] at h9
        cases ms with | nil => rfl | cons a r => simp at h9; (first | lia | omega)
      subst hms
      have hi2' : (us.toArray[((i : Nat) : Int).toNat]? : Option Value) = none := by simp; (first | lia | omega)
      rw [hi2']
      wp_walk using wpAny_loadPart' hl, wpAny_loadPart' hm
      have e : gtL (b.toList :: lr) [] = decide (vs.toArray.size > us.toArray.size) := by
        simp only [List.size_toArray, gtL]
        symm; rw [decide_eq_true_iff]; (first | lia | omega)
      rw [e] at h
      exact h
theorem list_gtB {l m : Addr} {vs us : List Value} {n n2 : Nat} {dd dd2 : Option Addr} {sl sl2 : Array (Option Value)} {ls ms : List (List UInt8)} (hv : BytesAre vs ls) (hu : BytesAre us ms) :
      Meets (Builtin.«list.__gt__» ⟨[.ref l, .ref m], []⟩)
      (fun _ R s => s.heap.get? l = some { cls := .type "list", dict := dd, data := .seq vs.toArray n, slots := sl } ∧ s.heap.get? m = some { cls := .type "list", dict := dd2, data := .seq us.toArray n2, slots := sl2 } ∧
        R (.ok (.ret (.bool (gtL ls ms)))) s) := by
  intro prog w A R s h
  obtain ⟨hp, g, d, tk, os⟩ := s; obtain ⟨hl, hm, h⟩ := h
  have f3 := AutoSeq1.sub_list_list
  wp_walk using wpAny_loadPart' hl, wpAny_loadPart' hm
  exact ⟨plainId_quiet plain_eq_loop _, codeAny_builtin entry_eq_loop (by
    rw [Around.under_plainId plain_eq_loop _]
    exact loop_gt _ 0 ls ms rfl hv hu (Nat.zero_le _) (Nat.zero_le _) prog w A R _ ⟨hl, hm, h⟩)⟩
theorem gt_lists {l m : Addr} {vs us : List Value} {ls ms : List (List UInt8)} {Q : Value → Shared → Prop} (hl : s.heap.IsList l vs.toArray) (hm : s.heap.IsList m us.toArray) (hv : BytesAre vs ls) (hu : BytesAre us ms) (hA : A.units < cLine)
    (h : Q (.bool (gtL ls ms)) s) : wpAny (model prog w) A (richCompare .Gt (.ref l) (.ref m)) Q E s := by
  obtain ⟨⟨cls, dd, data, sl⟩, ho, hc, n, hd⟩ := id hl
  obtain ⟨⟨cls2, dd2, data2, sl2⟩, ho2, hc2, n2, hd2⟩ := id hm
  simp only at hc hd hc2 hd2
  subst hc hd hc2 hd2
  exact richCompare_meets_room (op := .Gt) ⟨_, ho, rfl⟩ ⟨_, ho2, rfl⟩ F.slot_list_gt F.entry_list_gt (F.args_list_gt_2 _ _) (list_gtB hv hu) ⟨ho, ho2, fun e => (nomatch e), h⟩ hA
end
end Mine
end
theorem Mine.calmL7 : True := by w_top off; trivial
section
open PySem PySem.W PyProof.Rows PySem.Calls
open PySem.Builtin
set_option maxRecDepth 100000
set_option maxHeartbeats 4000000
namespace Mine
/-- v is a list of these byte strings -/
def ItemAt (h : Heap) (v : Value) (l : List (List UInt8)) : Prop := ∃ T vs, v = .ref T ∧ h.IsList T (List.toArray vs) ∧ BytesAre vs l
inductive ListsAre (h : Heap) : List Value → List (List (List UInt8)) → Prop where
  | nil : ListsAre h [] []
  | cons {v : Value} {l : List (List UInt8)} {vs : List Value} {ls : List (List (List UInt8))} : ItemAt h v l → ListsAre h vs ls → ListsAre h (v :: vs) (l :: ls)
theorem ListsAre.length {h : Heap} {vs : List Value} {ls : List (List (List UInt8))} (x : ListsAre h vs ls) : ls.length = vs.length := by
  induction x with
  | nil => rfl
  | cons _ _ ih => exact congrArg Nat.succ ih
theorem ListsAre.at {h : Heap} {vs : List Value} {ls : List (List (List UInt8))} {i : Nat} {v : Value} (x : ListsAre h vs ls) (e : vs[i]? = some v) : ∃ l, ls[i]? = some l ∧ ItemAt h v l := by
  induction x generalizing i with
  | nil => cases e
  | cons x _ ih =>
    cases i with
    | zero => cases e; exact ⟨_, rfl, x⟩
    | succ i => exact ih e
def minL : List (List (List UInt8)) → List (List UInt8)
  | [] => []
  | x :: r => r.foldl (fun c y => if ltL y c = true then y else c) x
theorem minL_take {lls : List (List (List UInt8))} {j : Nat} {y : List (List UInt8)} (h : lls[j + 1]? = some y) : minL (lls.take (j + 2)) = if ltL y (minL (lls.take (j + 1))) = true then y else minL (lls.take (j + 1)) := by
  cases lls with
  | nil => simp at h
  | cons x r =>
    have h' : r[j]? = some y := by simpa using h
    simp only [List.take_succ_cons, minL]
    rw [List.take_add_one, h', List.foldl_append]
    rfl
section
variable {prog : Program} {w : World} {A : Around} {R : Result → Shared → Prop} {s : Shared} {base : Heap} {l I S : Addr} {xs : List Value} {lls : List (List (List UInt8))}
theorem min_loop (hh : A.handled = none) (hA : A.units + 1 < cLine) (hl : base.IsList l xs.toArray) (hx : ListsAre base xs lls) (hI : base.get? I = none) (hS : base.get? S = none) (hIS : I ≠ S)
    (hR : ∀ v h' tk, ItemAt base v (minL lls) → KeepB [I, S] base h' → R (.ok (.ret v)) { s with heap := h', toks := tk }) :
    ∀ (k j : Nat) (h : Heap) (tk : Nat) (vb : Value) (c : Nat), xs.length - (j + 1) = k → j + 1 ≤ xs.length → h.IsListIter I l (j + 1) → KeepB [I, S] base h →
      h.get? S = some { cls := .type "list", dict := none, data := .seq #[vb, vb] c, slots := #[] } → ItemAt base vb (minL (lls.take (j + 1))) →
      codeAny (model prog w) A (.builtin "min.loop" ⟨[.ref I, .none, .ref S], []⟩) R { s with heap := h, toks := tk } := by
  have hname : (toString "min" ++ toString ".loop" : String) = "min.loop" := by decide
  have hlI : l ≠ I := fun q => by obtain ⟨o, e, _⟩ := hl; rw [q, hI] at e; cases e
  have W := Walks.list (prog := prog) (w := w) (A := A.in1) hh I l hlI xs.toArray
  have hsz : xs.toArray.size = xs.length := List.size_toArray ..
  have live : ∀ b o, base.get? b = some o → b ∉ [I, S] := fun b o e q => by
    simp only [List.mem_cons, List.not_mem_nil, or_false] at q
    rcases q with rfl | rfl
    · rw [hI] at e; cases e
    · rw [hS] at e; cases e
  have upL : ∀ {h : Heap} {T : Addr} {its : Array Value}, KeepB [I, S] base h → base.IsList T its → h.IsList T its := fun k x => by obtain ⟨o, e, r⟩ := x; exact ⟨o, k _ _ (live _ _ e) e, r⟩
  intro k
  induction k with
  | zero =>
    intro j h tk vb c hk hj hit hkp hSv hvb
    have hin : j + 1 = xs.length := by omega
    refine codeAny_builtin F.entry_min_loop ?_
    rw [Around.under_plainId F.plain_min_loop _]
    show wpAny _ A.in1 (seqItems? (.ref S) >>= _) _ _ _
    refine wpAny_bind (wpAny_seqItems hSv rfl ?_)
    show wpAny _ A.in1 (tryCatch (pyNext (.ref I)) _ >>= _) _ _ _
    refine wpAny_bind (wpAny_tryCatch (W.done _ _ _ ⟨by rw [hsz, ← hin]; exact hit, upL hkp hl⟩ fun h' tk' hk' => ?_))
    have hS' := hk' S _ (by simpa using Ne.symm hIS) hSv
    show wpAny _ A.in1 (updateSeq S (fun _ => #[]) >>= _) _ _ _
    refine wpAny_bind ?_
    refine wpAny_updateSeq hS' rfl (wpAny_bind (wpAny_letGo (wpAny_pure ?_)))
    refine hR vb _ tk' (by rw [hin, ← hx.length, List.take_length] at hvb; exact hvb) fun b o nb e => ?_
    simp only [List.mem_cons, List.not_mem_nil, or_false, not_or] at nb
    exact (Heap.get?_update_other _ _ (Ne.symm nb.2)).trans (hk' b o (by simpa using nb.1) (hkp b o (by simp [nb.1, nb.2]) e))
  | succ k ih =>
    intro j h tk vb c hk hj hit hkp hSv hvb
    have hlt : j + 1 < xs.length := by omega
    refine codeAny_builtin F.entry_min_loop ?_
    rw [Around.under_plainId F.plain_min_loop _]
    show wpAny _ A.in1 (seqItems? (.ref S) >>= _) _ _ _
    refine wpAny_bind (wpAny_seqItems hSv rfl ?_)
    show wpAny _ A.in1 (tryCatch (pyNext (.ref I)) _ >>= _) _ _ _
    refine wpAny_bind (wpAny_tryCatch (W.item (j + 1) _ _ _ (by rw [hsz]; exact hlt) ⟨hit, upL hkp hl⟩ fun v h' tk' hP hst' hk' => ?_))
    have hS' := hk' S _ (by simpa using Ne.symm hIS) hSv
    have hkp' : KeepB [I, S] base h' := fun b o nb e => hk' b o (fun q => nb (by rw [List.mem_singleton.mp q]; exact List.mem_cons_self ..)) (hkp b o nb e)
    obtain ⟨lv, hlv, hiv⟩ := hx.at (by simpa using hP)
    obtain ⟨T, vs, rfl, hT, hvs⟩ := hiv
    obtain ⟨U, us, rfl, hU, hus⟩ := hvb
    show wpAny _ A.in1 (tryCatch (holding [.ref T, .ref T] (richCompare .Lt (.ref T) (.ref U) >>= _)) _ >>= _) _ _ _
    refine wpAny_bind (wpAny_tryCatch (wpAny_holding (wpAny_bind (lt_lists (upL hkp' hT) (upL hkp' hU) hvs hus hA ?_))))
    refine wpAny_bind (wpAny_holding (wpAny_truthy_bool ?_))
    refine wpAny_bind (wpAny_letGo (wpAny_pure ?_))
    have hbest := minL_take hlv
    cases hb : ltL lv (minL (lls.take (j + 1))) with
    | true =>
      rw [hb, if_pos rfl] at hbest
      simp only [if_true]
      refine wpAny_bind ?_
      refine wpAny_updateSeq hS' rfl (wpAny_bind (wpAny_letGo ?_))
      rw [hname]
      refine wpAny_pure ⟨plainId_quiet F.plain_min_loop _, ih (j + 1) _ _ (.ref T) _ (by omega) hlt ?_ ?_ (Heap.get?_update_self _ hS' rfl) (hbest ▸ ⟨T, vs, rfl, hT, hvs⟩)⟩
      · obtain ⟨oI, e1, e2⟩ := hst'.1
        exact ⟨oI, (Heap.get?_update_other _ _ (Ne.symm hIS)).trans e1, e2⟩
      · intro b o nb e
        simp only [List.mem_cons, List.not_mem_nil, or_false, not_or] at nb
        exact (Heap.get?_update_other _ _ (Ne.symm nb.2)).trans (hkp' b o (by simp [nb.1, nb.2]) e)
    | false =>
      rw [hb, if_neg Bool.false_ne_true] at hbest
      simp only [Bool.false_eq_true, if_false]
      refine wpAny_bind (wpAny_letGo ?_)
      rw [hname]
      exact wpAny_pure ⟨plainId_quiet F.plain_min_loop _, ih (j + 1) _ _ (.ref U) c (by omega) hlt hst'.1 hkp' hS' (hbest ▸ ⟨U, us, rfl, hU, hus⟩)⟩
end
section
variable {prog : Program} {w : World} {A : Around} {E : Value → Shared → Prop} {s : Shared} {l : Addr} {xs : List Value} {lls : List (List (List UInt8))}
/-- min(a list of lists of byte strings) -/
theorem call_min {Q : Value → Shared → Prop} (hh : A.handled = none) (hA : A.units + 2 < cLine) (hl : s.heap.IsList l xs.toArray) (hx : ListsAre s.heap xs lls) (hn : xs ≠ [])
    (h : ∀ v h' tk, ItemAt s.heap v (minL lls) → Keep s.heap h' → Q v { s with heap := h', toks := tk }) : wpAny (model prog w) A (call (.builtin "min") [.ref l]) Q E s := by
  have hname : (toString "min" ++ toString ".loop" : String) = "min.loop" := by decide
  refine call_function_tree F.kind_min F.plain_min F.entry_min (F.args_min1 _) ?_
  show wpAny _ A.in1 (Builtin.Builtins.bindParams "min" ["key", "default"] 0 ⟨[], []⟩ >>= _) _ _ s
  refine wpAny_bind (wpAny_of_eq (show Builtin.Builtins.bindParams "min" ["key", "default"] 0 ⟨[], []⟩ = pure [none, none] from rfl) ?_)
  refine wpAny_bind (wpAny_pure ?_)
  refine wpAny_bind (wpAny_pyIter_list hl ?_)
  refine wpAny_bind (wpAny_newObj_type ?_)
  obtain ⟨I, hI⟩ : ∃ I, I = s.heap.objs.size := ⟨_, rfl⟩
  obtain ⟨S, hS⟩ : ∃ S, S = (s.heap.push { cls := .type "list_iterator", data := .fields #[.ref l, .int 0 0] }).objs.size := ⟨_, rfl⟩
  have hS1 : S = I + 1 := by rw [hS, Heap.size_push, hI]
  have hIS : I ≠ S := by rw [hS1]; exact Nat.ne_of_lt (Nat.lt_succ_self _)
  have h0 : s.heap.get? I = none := by rw [hI]; exact new_none _
  have h0S : s.heap.get? S = none := Heap.get?_none_of_le (by rw [hS1, hI]; exact Nat.le_succ _)
  have gI : (s.heap.push { cls := .type "list_iterator", data := .fields #[.ref l, .int 0 0] }).get? I = some (itObj l) := by rw [hI]; exact Heap.get?_push_size _ rfl
  have k1 : Keep s.heap (s.heap.push { cls := .type "list_iterator", data := .fields #[.ref l, .int 0 0] }) := fun b o e => Heap.get?_push_of_some _ e
  rw [← hI]
  show wpAny _ _ _ _ _ _
  rw [hname]
  generalize hH1 : s.heap.push { cls := .type "list_iterator", data := .fields #[.ref l, .int 0 0] } = H1 at hS gI k1
  try dsimp only at *
  try rw [hH1]
  rw [← hS]
  have gI2 : (H1.push { cls := .type "list", dict := none, data := .seq #[] }).get? I = some (itObj l) := Heap.get?_push_of_some _ gI
  have gS2 : (H1.push { cls := .type "list", dict := none, data := .seq #[] }).get? S = some { cls := .type "list", dict := none, data := .seq #[] } := by rw [hS]; exact Heap.get?_push_size _ rfl
  have k2 : Keep s.heap (H1.push { cls := .type "list", dict := none, data := .seq #[] }) := fun b o e => Heap.get?_push_of_some _ (k1 b o e)
  refine wpAny_pure ⟨plainId_quiet F.plain_min_loop _, ?_⟩
  have hlI : l ≠ I := fun q => by obtain ⟨o, e, _⟩ := hl; rw [q, h0] at e; cases e
  have W := Walks.list (prog := prog) (w := w) (A := A.in1) hh I l hlI xs.toArray
  have hpos : 0 < xs.length := List.length_pos_iff.mpr hn
  have upL : ∀ {T : Addr} {its : Array Value} {h' : Heap}, Keep s.heap h' → s.heap.IsList T its → h'.IsList T its := fun k x => by obtain ⟨o, e, r⟩ := x; exact ⟨o, k _ _ e, r⟩
  refine codeAny_builtin F.entry_min_loop ?_
  rw [Around.under_plainId F.plain_min_loop _]
  show wpAny _ A.in1 (seqItems? (.ref S) >>= _) _ _ _
  refine wpAny_bind (wpAny_seqItems gS2 rfl ?_)
  show wpAny _ A.in1 (tryCatch (pyNext (.ref I)) _ >>= _) _ _ _
  refine wpAny_bind (wpAny_tryCatch (W.item 0 _ _ _ (by rw [List.size_toArray]; exact hpos) ⟨⟨_, gI2, rfl, rfl⟩, upL k2 hl⟩ fun v h' tk' hP hst' hk' => ?_))
  have hS' := hk' S _ (by simpa using Ne.symm hIS) gS2
  have ne : ∀ b o, s.heap.get? b = some o → b ∉ [I] := fun b o e q => by rw [List.mem_singleton.mp q, h0] at e; cases e
  have k3 : Keep s.heap h' := fun b o e => hk' b o (ne b o e) (k2 b o e)
  obtain ⟨lv, hlv, hiv⟩ := hx.at (by simpa using hP)
  have hm1 : minL (lls.take 1) = lv := by
    cases lls with
    | nil => simp at hlv
    | cons x r => have : x = lv := by simpa using hlv
                  simp [minL, this]
  show wpAny _ A.in1 (updateSeq S (fun _ => #[v, v]) >>= _) _ _ _
  refine wpAny_bind ?_
  refine wpAny_updateSeq hS' rfl ?_
  rw [hname]
  have hSn : ∀ b o, s.heap.get? b = some o → b ≠ S := fun b o e q => by rw [q, h0S] at e; cases e
  refine wpAny_pure ⟨plainId_quiet F.plain_min_loop _, min_loop (A := A) hh (by omega) hl hx h0 h0S hIS (fun v h'' tk hv hk => h v h'' tk hv fun b o e => hk b o (fun q => (List.mem_cons.mp q).elim (fun q => ne b o e (List.mem_singleton.mpr q)) fun q => hSn b o e (List.mem_singleton.mp q)) e) _ 0 _ tk' v _ rfl (by omega) ?_ ?_ (Heap.get?_update_self _ hS' rfl) (hm1 ▸ hiv)⟩
  · obtain ⟨oI, e1, e2⟩ := hst'.1
    exact ⟨oI, (Heap.get?_update_other _ _ (Ne.symm hIS)).trans e1, e2⟩
  · intro b o nb e
    exact (Heap.get?_update_other _ _ (Ne.symm (hSn b o e))).trans (k3 b o e)
end

def maxL : List (List (List UInt8)) → List (List UInt8)
  | [] => []
  | x :: r => r.foldl (fun c y => if gtL y c = true then y else c) x
theorem maxL_take {lls : List (List (List UInt8))} {j : Nat} {y : List (List UInt8)} (h : lls[j + 1]? = some y) : maxL (lls.take (j + 2)) = if gtL y (maxL (lls.take (j + 1))) = true then y else maxL (lls.take (j + 1)) := by
  cases lls with
  | nil => simp at h
  | cons x r =>
    have h' : r[j]? = some y := by simpa using h
    simp only [List.take_succ_cons, maxL]
    rw [List.take_add_one, h', List.foldl_append]
    rfl
section
variable {prog : Program} {w : World} {A : Around} {R : Result → Shared → Prop} {s : Shared} {base : Heap} {l I S : Addr} {xs : List Value} {lls : List (List (List UInt8))}
theorem max_loop (hh : A.handled = none) (hA : A.units + 1 < cLine) (hl : base.IsList l xs.toArray) (hx : ListsAre base xs lls) (hI : base.get? I = none) (hS : base.get? S = none) (hIS : I ≠ S)
    (hR : ∀ v h' tk, ItemAt base v (maxL lls) → KeepB [I, S] base h' → R (.ok (.ret v)) { s with heap := h', toks := tk }) :
    ∀ (k j : Nat) (h : Heap) (tk : Nat) (vb : Value) (c : Nat), xs.length - (j + 1) = k → j + 1 ≤ xs.length → h.IsListIter I l (j + 1) → KeepB [I, S] base h →
      h.get? S = some { cls := .type "list", dict := none, data := .seq #[vb, vb] c, slots := #[] } → ItemAt base vb (maxL (lls.take (j + 1))) →
      codeAny (model prog w) A (.builtin "max.loop" ⟨[.ref I, .none, .ref S], []⟩) R { s with heap := h, toks := tk } := by
  have hname : (toString "max" ++ toString ".loop" : String) = "max.loop" := by decide
  have hlI : l ≠ I := fun q => by obtain ⟨o, e, _⟩ := hl; rw [q, hI] at e; cases e
  have W := Walks.list (prog := prog) (w := w) (A := A.in1) hh I l hlI xs.toArray
  have hsz : xs.toArray.size = xs.length := List.size_toArray ..
  have live : ∀ b o, base.get? b = some o → b ∉ [I, S] := fun b o e q => by
    simp only [List.mem_cons, List.not_mem_nil, or_false] at q
    rcases q with rfl | rfl
    · rw [hI] at e; cases e
    · rw [hS] at e; cases e
  have upL : ∀ {h : Heap} {T : Addr} {its : Array Value}, KeepB [I, S] base h → base.IsList T its → h.IsList T its := fun k x => by obtain ⟨o, e, r⟩ := x; exact ⟨o, k _ _ (live _ _ e) e, r⟩
  intro k
  induction k with
  | zero =>
    intro j h tk vb c hk hj hit hkp hSv hvb
    have hin : j + 1 = xs.length := by omega
    refine codeAny_builtin F.entry_max_loop ?_
    rw [Around.under_plainId F.plain_max_loop _]
    show wpAny _ A.in1 (seqItems? (.ref S) >>= _) _ _ _
    refine wpAny_bind (wpAny_seqItems hSv rfl ?_)
    show wpAny _ A.in1 (tryCatch (pyNext (.ref I)) _ >>= _) _ _ _
    refine wpAny_bind (wpAny_tryCatch (W.done _ _ _ ⟨by rw [hsz, ← hin]; exact hit, upL hkp hl⟩ fun h' tk' hk' => ?_))
    have hS' := hk' S _ (by simpa using Ne.symm hIS) hSv
    show wpAny _ A.in1 (updateSeq S (fun _ => #[]) >>= _) _ _ _
    refine wpAny_bind ?_
    refine wpAny_updateSeq hS' rfl (wpAny_bind (wpAny_letGo (wpAny_pure ?_)))
    refine hR vb _ tk' (by rw [hin, ← hx.length, List.take_length] at hvb; exact hvb) fun b o nb e => ?_
    simp only [List.mem_cons, List.not_mem_nil, or_false, not_or] at nb
    exact (Heap.get?_update_other _ _ (Ne.symm nb.2)).trans (hk' b o (by simpa using nb.1) (hkp b o (by simp [nb.1, nb.2]) e))
  | succ k ih =>
    intro j h tk vb c hk hj hit hkp hSv hvb
    have hlt : j + 1 < xs.length := by omega
    refine codeAny_builtin F.entry_max_loop ?_
    rw [Around.under_plainId F.plain_max_loop _]
    show wpAny _ A.in1 (seqItems? (.ref S) >>= _) _ _ _
    refine wpAny_bind (wpAny_seqItems hSv rfl ?_)
    show wpAny _ A.in1 (tryCatch (pyNext (.ref I)) _ >>= _) _ _ _
    refine wpAny_bind (wpAny_tryCatch (W.item (j + 1) _ _ _ (by rw [hsz]; exact hlt) ⟨hit, upL hkp hl⟩ fun v h' tk' hP hst' hk' => ?_))
    have hS' := hk' S _ (by simpa using Ne.symm hIS) hSv
    have hkp' : KeepB [I, S] base h' := fun b o nb e => hk' b o (fun q => nb (by rw [List.mem_singleton.mp q]; exact List.mem_cons_self ..)) (hkp b o nb e)
    obtain ⟨lv, hlv, hiv⟩ := hx.at (by simpa using hP)
    obtain ⟨T, vs, rfl, hT, hvs⟩ := hiv
    obtain ⟨U, us, rfl, hU, hus⟩ := hvb
    show wpAny _ A.in1 (tryCatch (holding [.ref T, .ref T] (richCompare .Gt (.ref T) (.ref U) >>= _)) _ >>= _) _ _ _
    refine wpAny_bind (wpAny_tryCatch (wpAny_holding (wpAny_bind (gt_lists (upL hkp' hT) (upL hkp' hU) hvs hus hA ?_))))
    refine wpAny_bind (wpAny_holding (wpAny_truthy_bool ?_))
    refine wpAny_bind (wpAny_letGo (wpAny_pure ?_))
    have hbest := maxL_take hlv
    cases hb : gtL lv (maxL (lls.take (j + 1))) with
    | true =>
      rw [hb, if_pos rfl] at hbest
      simp only [if_true]
      refine wpAny_bind ?_
      refine wpAny_updateSeq hS' rfl (wpAny_bind (wpAny_letGo ?_))
      rw [hname]
      refine wpAny_pure ⟨plainId_quiet F.plain_max_loop _, ih (j + 1) _ _ (.ref T) _ (by omega) hlt ?_ ?_ (Heap.get?_update_self _ hS' rfl) (hbest ▸ ⟨T, vs, rfl, hT, hvs⟩)⟩
      · obtain ⟨oI, e1, e2⟩ := hst'.1
        exact ⟨oI, (Heap.get?_update_other _ _ (Ne.symm hIS)).trans e1, e2⟩
      · intro b o nb e
        simp only [List.mem_cons, List.not_mem_nil, or_false, not_or] at nb
        exact (Heap.get?_update_other _ _ (Ne.symm nb.2)).trans (hkp' b o (by simp [nb.1, nb.2]) e)
    | false =>
      rw [hb, if_neg Bool.false_ne_true] at hbest
      simp only [Bool.false_eq_true, if_false]
      refine wpAny_bind (wpAny_letGo ?_)
      rw [hname]
      exact wpAny_pure ⟨plainId_quiet F.plain_max_loop _, ih (j + 1) _ _ (.ref U) c (by omega) hlt hst'.1 hkp' hS' (hbest ▸ ⟨U, us, rfl, hU, hus⟩)⟩
end
section
variable {prog : Program} {w : World} {A : Around} {E : Value → Shared → Prop} {s : Shared} {l : Addr} {xs : List Value} {lls : List (List (List UInt8))}
/-- max(a list of lists of byte strings) -/
theorem call_max {Q : Value → Shared → Prop} (hh : A.handled = none) (hA : A.units + 2 < cLine) (hl : s.heap.IsList l xs.toArray) (hx : ListsAre s.heap xs lls) (hn : xs ≠ [])
    (h : ∀ v h' tk, ItemAt s.heap v (maxL lls) → Keep s.heap h' → Q v { s with heap := h', toks := tk }) : wpAny (model prog w) A (call (.builtin "max") [.ref l]) Q E s := by
  have hname : (toString "max" ++ toString ".loop" : String) = "max.loop" := by decide
  refine call_function_tree F.kind_max F.plain_max F.entry_max (F.args_max1 _) ?_
  show wpAny _ A.in1 (Builtin.Builtins.bindParams "max" ["key", "default"] 0 ⟨[], []⟩ >>= _) _ _ s
  refine wpAny_bind (wpAny_of_eq (show Builtin.Builtins.bindParams "max" ["key", "default"] 0 ⟨[], []⟩ = pure [none, none] from rfl) ?_)
  refine wpAny_bind (wpAny_pure ?_)
  refine wpAny_bind (wpAny_pyIter_list hl ?_)
  refine wpAny_bind (wpAny_newObj_type ?_)
  obtain ⟨I, hI⟩ : ∃ I, I = s.heap.objs.size := ⟨_, rfl⟩
  obtain ⟨S, hS⟩ : ∃ S, S = (s.heap.push { cls := .type "list_iterator", data := .fields #[.ref l, .int 0 0] }).objs.size := ⟨_, rfl⟩
  have hS1 : S = I + 1 := by rw [hS, Heap.size_push, hI]
  have hIS : I ≠ S := by rw [hS1]; exact Nat.ne_of_lt (Nat.lt_succ_self _)
  have h0 : s.heap.get? I = none := by rw [hI]; exact new_none _
  have h0S : s.heap.get? S = none := Heap.get?_none_of_le (by rw [hS1, hI]; exact Nat.le_succ _)
  have gI : (s.heap.push { cls := .type "list_iterator", data := .fields #[.ref l, .int 0 0] }).get? I = some (itObj l) := by rw [hI]; exact Heap.get?_push_size _ rfl
  have k1 : Keep s.heap (s.heap.push { cls := .type "list_iterator", data := .fields #[.ref l, .int 0 0] }) := fun b o e => Heap.get?_push_of_some _ e
  rw [← hI]
  show wpAny _ _ _ _ _ _
  rw [hname]
  generalize hH1 : s.heap.push { cls := .type "list_iterator", data := .fields #[.ref l, .int 0 0] } = H1 at hS gI k1
  try dsimp only at *
  try rw [hH1]
  rw [← hS]
  have gI2 : (H1.push { cls := .type "list", dict := none, data := .seq #[] }).get? I = some (itObj l) := Heap.get?_push_of_some _ gI
  have gS2 : (H1.push { cls := .type "list", dict := none, data := .seq #[] }).get? S = some { cls := .type "list", dict := none, data := .seq #[] } := by rw [hS]; exact Heap.get?_push_size _ rfl
  have k2 : Keep s.heap (H1.push { cls := .type "list", dict := none, data := .seq #[] }) := fun b o e => Heap.get?_push_of_some _ (k1 b o e)
  refine wpAny_pure ⟨plainId_quiet F.plain_max_loop _, ?_⟩
  have hlI : l ≠ I := fun q => by obtain ⟨o, e, _⟩ := hl; rw [q, h0] at e; cases e
  have W := Walks.list (prog := prog) (w := w) (A := A.in1) hh I l hlI xs.toArray
  have hpos : 0 < xs.length := List.length_pos_iff.mpr hn
  have upL : ∀ {T : Addr} {its : Array Value} {h' : Heap}, Keep s.heap h' → s.heap.IsList T its → h'.IsList T its := fun k x => by obtain ⟨o, e, r⟩ := x; exact ⟨o, k _ _ e, r⟩
  refine codeAny_builtin F.entry_max_loop ?_
  rw [Around.under_plainId F.plain_max_loop _]
  show wpAny _ A.in1 (seqItems? (.ref S) >>= _) _ _ _
  refine wpAny_bind (wpAny_seqItems gS2 rfl ?_)
  show wpAny _ A.in1 (tryCatch (pyNext (.ref I)) _ >>= _) _ _ _
  refine wpAny_bind (wpAny_tryCatch (W.item 0 _ _ _ (by rw [List.size_toArray]; exact hpos) ⟨⟨_, gI2, rfl, rfl⟩, upL k2 hl⟩ fun v h' tk' hP hst' hk' => ?_))
  have hS' := hk' S _ (by simpa using Ne.symm hIS) gS2
  have ne : ∀ b o, s.heap.get? b = some o → b ∉ [I] := fun b o e q => by rw [List.mem_singleton.mp q, h0] at e; cases e
  have k3 : Keep s.heap h' := fun b o e => hk' b o (ne b o e) (k2 b o e)
  obtain ⟨lv, hlv, hiv⟩ := hx.at (by simpa using hP)
  have hm1 : maxL (lls.take 1) = lv := by
    cases lls with
    | nil => simp at hlv
    | cons x r => have : x = lv := by simpa using hlv
                  simp [maxL, this]
  show wpAny _ A.in1 (updateSeq S (fun _ => #[v, v]) >>= _) _ _ _
  refine wpAny_bind ?_
  refine wpAny_updateSeq hS' rfl ?_
  rw [hname]
  have hSn : ∀ b o, s.heap.get? b = some o → b ≠ S := fun b o e q => by rw [q, h0S] at e; cases e
  refine wpAny_pure ⟨plainId_quiet F.plain_max_loop _, max_loop (A := A) hh (by omega) hl hx h0 h0S hIS (fun v h'' tk hv hk => h v h'' tk hv fun b o e => hk b o (fun q => (List.mem_cons.mp q).elim (fun q => ne b o e (List.mem_singleton.mpr q)) fun q => hSn b o e (List.mem_singleton.mp q)) e) _ 0 _ tk' v _ rfl (by omega) ?_ ?_ (Heap.get?_update_self _ hS' rfl) (hm1 ▸ hiv)⟩
  · obtain ⟨oI, e1, e2⟩ := hst'.1
    exact ⟨oI, (Heap.get?_update_other _ _ (Ne.symm hIS)).trans e1, e2⟩
  · intro b o nb e
    exact (Heap.get?_update_other _ _ (Ne.symm (hSn b o e))).trans (k3 b o e)
end
end Mine
end
theorem Mine.calmQ0 : True := by w_top off; trivial
section
open PySem PySem.W PyProof.Rows PySem.Calls
open PySem.Builtin
set_option maxRecDepth 100000
set_option maxHeartbeats 4000000
namespace Mine
section
variable {prog : Program} {w : World} {M : Model} {A : Around} {E : Value → Shared → Prop} {s : Shared} {env : Env}
theorem ld_local {x : Str} {p : Pos} {m : Str → Option Value} {v : Value} {Q : Value → Shared → Prop} (hn : s.heap.Ns env.locals m) (hm : m x = some v) (h : Q v s)
    (hk : env.scope.kind = .function := by rfl) (hl : env.kindOf x = some .local := by rfl) (hd : (x == ("__debug__" : Str)) = false := by decide +kernel) : wpAny M A (eval (.Name x p) env) Q E s :=
  wpAny_Name (wpAny_loadName_local hk hl hn hm h) hd
theorem ld_cell {x : Str} {p : Pos} {c : Addr} {v : Value} {Q : Value → Shared → Prop} (hv : s.heap.IsCell c (some v)) (h : Q v s)
    (hk : env.scope.kind = .function := by rfl) (hl : env.kindOf x = some .cell := by rfl) (hc : env.cells.lookup x = some c := by rfl) (hd : (x == ("__debug__" : Str)) = false := by decide +kernel) : wpAny M A (eval (.Name x p) env) Q E s :=
  wpAny_Name (wpAny_loadName_cell hk hl hc hv h) hd
theorem ld_free {x : Str} {p : Pos} {c : Addr} {v : Value} {Q : Value → Shared → Prop} (hv : s.heap.IsCell c (some v)) (h : Q v s)
    (hk : env.scope.kind = .function := by rfl) (hl : env.kindOf x = some .free := by rfl) (hc : env.cells.lookup x = some c := by rfl) (hcd : (x == ("__classdict__" : Str)) = false := by decide +kernel) (hd : (x == ("__debug__" : Str)) = false := by decide +kernel) : wpAny M A (eval (.Name x p) env) Q E s :=
  wpAny_Name (wpAny_loadName_free hk hl hc hv h hcd) hd
theorem base_name {x : Str} {p : Pos} {n : Str} {whole : Sem Value} : attributeBase (.Name x p) n env whole = whole := rfl
theorem base_const {c : Const} {k : Nat} {p : Pos} {n : Str} {whole : Sem Value} : attributeBase (.Constant c k p) n env whole = whole := rfl
theorem star_lc {a : Expr} {b : List Comprehension} {c : Scope} {d pos : Pos} : backTo pos (starEach [.ListComp a b c d] env) = [(false, eval (.ListComp a b c d) env)] := rfl
theorem star_name {x : Str} {p pos : Pos} : backTo pos (starEach [.Name x p] env) = [(false, eval (.Name x p) env)] := rfl
/-- bytes.method(one argument) -/
theorem meth1 {o e : Expr} {name : Str} {apos pos : Pos} {id : String} {Q : Value → Shared → Prop} (slot : Slot "bytes" name id) (ty : typeOf (.builtin id) = pure (.type "method_descriptor"))
    (h : wpAny (model prog w) A (eval o env) (fun ov s₁ => ∃ b t, ov = .bytes b t ∧ wpAny (model prog w) A (eval e env) (fun v s₂ => wpAny (model prog w) A (call (.builtin id) [.bytes b t, v]) Q E s₂) E s₁) E s)
    (hbase : attributeBase o name env (eval o env) = eval o env := by first | exact base_name | exact base_const | rfl) (hline : (apos.endLine == pos.line) = true := by rfl) (htrees : backTo pos (starEach [e] env) = [(false, eval e env)] := by first | exact star_name | exact star_lc | rfl) :
    wpAny (model prog w) A (eval (.Call (.Attribute o name apos) [e] [] pos) env) Q E s := by
  refine wpAny_Call_method1_late hbase hline htrees (wpAny_mono h (fun ov s₁ h₁ => ?_) fun _ _ e => e)
  obtain ⟨b, t, rfl, h₁⟩ := h₁
  refine ⟨"bytes", id, FB.plainAttrs_bytes, slot, ty, rfl, (fun a e => nomatch e), ?_⟩
  exact Calls.callWith_builtin rfl (Calls.evalArgs_plain (Calls.spliced_cons (wpAny_mono h₁ (fun v s₂ h₂ => Calls.spliced_nil h₂) fun _ _ e => e)))
theorem Keeps.refl (s : Shared) : Keeps s s := ⟨s.heap, s.toks, by cases s; rfl, fun _ _ e => e⟩
theorem keeps_of {h' : Heap} {tk : Nat} (k : Keep s.heap h') : Keeps s { s with heap := h', toks := tk } := ⟨h', tk, rfl, k⟩
end
end Mine
end
theorem Mine.calmQ1 : True := by w_top off; trivial
section
open PySem PySem.W PyProof.Rows PySem.Calls
open PySem.Builtin
set_option maxRecDepth 100000
set_option maxHeartbeats 4000000
namespace Mine
/-- what stands between the slashes, the empty and the dots left out -/
def comps (l : List UInt8) : List (List UInt8) := (splitL l).filter fun c => decide (c ≠ [] ∧ c ≠ [46])
theorem paired_lists {h₀ h : Heap} {f : List UInt8 → List (List UInt8)} {vs : List Value} {ls : List (List UInt8)} {ys : List Value} (x : BytesAre vs ls)
    (y : Paired (LstIs h₀ (fun v its => ∃ b t us, v = .bytes b t ∧ its = List.toArray us ∧ BytesAre us (f b.toList)) h) vs ys) : ListsAre h ys (ls.map f) := by
  induction x generalizing ys with
  | nil => cases y; exact .nil
  | cons e _ ih =>
    cases y with
    | cons hp t =>
      obtain ⟨T, its, rfl, _, hl, b, t', us, e1, rfl, hu⟩ := hp
      cases e1
      exact .cons ⟨T, us, rfl, hl, e ▸ hu⟩ (ih t)
theorem paired_lists2 {h₀ h h2 : Heap} {f : List (List UInt8) → List (List UInt8)} {vs : List Value} {ls : List (List (List UInt8))} {ys : List Value} (x : ListsAre h vs ls)
    (y : Paired (LstIs h₀ (fun v its => ∀ l, ItemAt h v l → ∃ us, its = List.toArray us ∧ BytesAre us (f l)) h2) vs ys) : ListsAre h2 ys (ls.map f) := by
  induction x generalizing ys with
  | nil => cases y; exact .nil
  | cons e _ ih =>
    cases y with
    | cons hp t =>
      obtain ⟨T, its, rfl, _, hl, hG⟩ := hp
      obtain ⟨us, rfl, hu⟩ := hG _ e
      exact .cons ⟨T, us, rfl, hl, hu⟩ (ih t)
theorem filter_all {α : Type} (l : List α) : l.filter (fun _ => true) = l := by simp
theorem vs_eq {vs vs' : List Value} (hl : vs'.length = vs.length) (h : ∀ (j : Nat) (v : Value), vs'[j]? = some v → vs.toArray[j]? = some v) : vs' = vs := by
  apply List.ext_getElem? 
  intro j
  cases hj : vs'[j]? with
  | none =>
    have : vs.length ≤ j := by rw [← hl]; exact List.getElem?_eq_none_iff.mp hj
    rw [List.getElem?_eq_none_iff.mpr this]
  | some v => have := h j v hj; simpa using this.symm
theorem ListsAre.keeps {h h' : Heap} (k : ∀ b o, h.get? b = some o → h'.get? b = some o) : ∀ {vs : List Value} {ls : List (List (List UInt8))}, ListsAre h vs ls → ListsAre h' vs ls
  | _, _, .nil => .nil
  | _, _, .cons x r => by obtain ⟨T, us, e, ⟨o, ho, q⟩, hu⟩ := x; exact .cons ⟨T, us, e, ⟨o, k _ _ ho, q⟩, hu⟩ (r.keeps k)
section
variable {prog : Program} {w : World} {A : Around} {E : Value → Shared → Prop} {s : Shared} {env : Env}
/-- [path.split(sep) for path in paths], assigned -/
theorem split_stmt {x y sp : Str} {px p1 p2 p3 p4 p5 py spos cpos : Pos} {scope : Scope} {cl : List (Str × Addr)} {sc : Addr} {st : Tok} {h₀ : Heap} {L Tp : Addr} {m : Str → Option Value} {vs : List Value} {ls : List (List UInt8)} {paths : Str} {Q : Flow → Shared → Prop}
    (F₀ : Fr h₀ L s.heap m) (hLe : env.locals = L) (hm : m paths = some (.ref Tp)) (hT : s.heap.IsTuple Tp vs.toArray) (hh : A.handled = none) (hv : BytesAre vs ls) (hz : ∀ l ∈ ls, l.length ≤ 1000) (hn : vs.length ≤ 1000)
    (hsep : s.heap.IsCell sc (some (.bytes #[47] st))) 
    (h : ∀ D h' tk ys, h'.IsList D ys → ListsAre h' ys.toList (ls.map splitL) → s.heap.get? D = none → Fr h₀ L h' (fun z => if z = y then some (.ref D) else m z) → KeepB [L] s.heap h' → Q .next { s with heap := h', toks := tk })
    (hk : env.scope.kind = .function := by rfl) (hl : env.kindOf paths = some .local := by rfl) (hd : (paths == ("__debug__" : Str)) = false := by decide +kernel)
    (hsw : swapsWith (.ListComp (.Call (.Attribute (.Name x p1) "split" p2) [.Name sp p3] [] p4) [⟨.Name x px, .Name paths p5, [], 0⟩] scope cpos) (some (.Name y py)) spos.line env = pure true := by rfl)
    (hy : env.kindOf y = some .local := by rfl) (hp : (env.scope.kind == .class || (env.scope.kind == .module && env.locals != env.globals)) = false := by rfl)
    (hclos : closureFor scope env = pure cl := by rfl) (hcell : ∀ y ∈ scope.names, y.2 ≠ .cell := by decide) (hkind : scope.kind = .function := by rfl)
    (hnames : ∀ y ∈ scope.names, y.2 = .local → scope.names.lookup y.1 = some .local := by decide) (hx : scope.names.lookup x = some .local := by decide)
    (k1 : ∀ C, (compEnvC scope cl C env).kindOf x = some .local := by intro _; rfl) (k2 : ∀ C, (compEnvC scope cl C env).kindOf sp = some .cell := by intro _; rfl) (k3 : cl.lookup sp = some sc := by rfl)
    (d1 : (x == ("__debug__" : Str)) = false := by decide +kernel) (d2 : (sp == ("__debug__" : Str)) = false := by decide +kernel) (hbase : ∀ C, attributeBase (.Name x p1) "split" (compEnvC scope cl C env) (eval (.Name x p1) (compEnvC scope cl C env)) = eval (.Name x p1) (compEnvC scope cl C env) := by intro _; rfl)
    (hline : (p2.endLine == p4.line) = true := by rfl)
    (hs : ∀ x, foldedSetIterable (.Name paths p5) env x = pure x := by intro _; rfl) :
    wpAny (model prog w) A (exec (.Assign [.Name y py] (.ListComp (.Call (.Attribute (.Name x p1) "split" p2) [.Name sp p3] [] p4) [⟨.Name x px, .Name paths p5, [], 0⟩] scope cpos) spos) env) Q E s := by
  refine alc_freeO (n := vs.toArray.size) (P := fun i v => vs.toArray[i]? = some v) F₀ hLe (fun _ => true) (fun v its => ∃ b t us, v = .bytes b t ∧ its = List.toArray us ∧ BytesAre us (splitL b.toList))
    (ld_local (by rw [hLe]; exact F₀.ns) hm ⟨Keeps.refl s, src_tuple hh hT⟩ hk hl hd) (by rw [List.size_toArray, sizeLine_eq]; (first | lia | omega)) ?_ ?_ ?_ hsw hy hp hclos hcell hkind hnames hx hs
  · intro C i v s₃ m₃ E' _ _ _ _ _
    exact wpAny_tests_nil ⟨rfl, Keeps.refl _⟩
  · intro C i v s₃ m₃ E' hP _ hns hmx hk3 _
    obtain ⟨b, t, rfl, hlb⟩ := hv.at (by simpa using hP : vs[i]? = some v)
    have hb : b.size ≤ 1000000 := by have := hz _ (List.mem_of_getElem? hlb); simp at this; (first | lia | omega)
    refine meth1 slot_split ty_split (ld_local hns hmx ⟨b, t, rfl, ?_⟩ (by simp [compEnvC, relabel, hkind]) (k1 C) d1) (hbase C) hline rfl
    obtain ⟨oc, e1, e2⟩ := hsep
    refine ld_cell ⟨oc, hk3 _ _ e1, e2⟩ ?_ (by simp [compEnvC, relabel, hkind]) (k2 C) k3 d2
    refine call_split hb fun us tk hu => ⟨⟨_, _, rfl, new_none _, ⟨_, Heap.get?_push_size _ rfl, rfl, _, rfl⟩, b, t, us, rfl, rfl, hu⟩, keeps_of fun b o e => Heap.get?_push_of_some _ e⟩
  · intro D h' tk ys vs' hD hlD hlen hP hpair _ F₁ hkb
    have e := vs_eq (by rw [hlen, List.size_toArray]) hP
    subst e
    rw [filter_all] at hpair
    exact h D h' tk ys hlD (paired_lists hv hpair) hD F₁ (KeepB.one hkb)
end
end Mine
end
theorem Mine.calmQ2 : True := by w_top off; trivial
section
open PySem PySem.W PyProof.Rows PySem.Calls
open PySem.Builtin
set_option maxRecDepth 100000
set_option maxHeartbeats 4000000
namespace Mine
def goodB : Value → Bool
  | .bytes b _ => decide (b.toList ≠ [] ∧ b.toList ≠ [46])
  | _ => false
theorem BytesAre.filter : ∀ {us : List Value} {l : List (List UInt8)}, BytesAre us l → BytesAre (us.filter goodB) (l.filter fun c => decide (c ≠ [] ∧ c ≠ [46]))
  | _, _, .nil => .nil
  | _, _, .cons (b := b) (t := t) e r => by
    subst e
    have h := r.filter
    by_cases q : b.toList ≠ [] ∧ b.toList ≠ [46]
    · rw [List.filter_cons_of_pos (by simpa [goodB] using q), List.filter_cons_of_pos (by simpa using q)]
      exact .cons rfl h
    · rw [List.filter_cons_of_neg (by simpa [goodB] using q), List.filter_cons_of_neg (by simpa using q)]
      exact h
theorem paired_eq {l l' : List Value} (x : Paired (fun v y => y = v) l l') : l' = l := by
  induction x with
  | nil => rfl
  | cons e _ ih => rw [e, ih]
section
variable {prog : Program} {w : World} {A : Around} {E : Value → Shared → Prop} {s : Shared} {env : Env}
theorem bne_decide (x y : List UInt8) : (x != y) = decide (x ≠ y) := by
  rw [Bool.eq_iff_iff, decide_eq_true_iff]; simp
/-- [[c for c in s if c and c != curdir] for s in src], assigned -/
theorem filter_stmt {x y z cd src : Str} {px p1 p2 p3 p4 p5 p6 p7 p8 p9 py spos cpos ipos : Pos} {scope scope2 : Scope} {cl cl2 : List (Str × Addr)} {cc : Addr} {ct : Tok} {h₀ : Heap} {L D₀ : Addr} {m : Str → Option Value} {xs : List Value} {lls : List (List (List UInt8))} {Q : Flow → Shared → Prop}
    (F₀ : Fr h₀ L s.heap m) (hLe : env.locals = L) (hm : m src = some (.ref D₀)) (hD : s.heap.IsList D₀ xs.toArray) (hh : A.handled = none) (hx : ListsAre s.heap xs lls) (hn : xs.length ≤ 1000) (hz : ∀ l ∈ lls, l.length ≤ 2000 ∧ ∀ c ∈ l, c.length ≤ 2000)
    (hcd : s.heap.IsCell cc (some (.bytes #[46] ct)))
    (h : ∀ D h' tk ys, h'.IsList D ys → ListsAre h' ys.toList (lls.map fun l => l.filter fun c => decide (c ≠ [] ∧ c ≠ [46])) → s.heap.get? D = none → Fr h₀ L h' (fun q => if q = y then some (.ref D) else m q) → KeepB [L] s.heap h' → Q .next { s with heap := h', toks := tk })
    (hk : env.scope.kind = .function := by rfl) (hl : env.kindOf src = some .local := by rfl) (hd : (src == ("__debug__" : Str)) = false := by decide +kernel)
    (hsw : swapsWith (.ListComp (.ListComp (.Name z p1) [⟨.Name z p2, .Name x p3, [.BoolOp .And [.Name z p4, .Compare (.Name z p5) [.NotEq] [.Name cd p6] p7] p8], 0⟩] scope2 ipos) [⟨.Name x px, .Name src p9, [], 0⟩] scope cpos) (some (.Name y py)) spos.line env = pure true := by rfl)
    (hy : env.kindOf y = some .local := by rfl) (hp : (env.scope.kind == .class || (env.scope.kind == .module && env.locals != env.globals)) = false := by rfl)
    (hclos : closureFor scope env = pure cl := by rfl) (hcell : ∀ y ∈ scope.names, y.2 ≠ .cell := by decide) (hkind : scope.kind = .function := by rfl)
    (hnames : ∀ y ∈ scope.names, y.2 = .local → scope.names.lookup y.1 = some .local := by decide) (hxl : scope.names.lookup x = some .local := by decide)
    (hs : ∀ x, foldedSetIterable (.Name src p9) env x = pure x := by intro _; rfl)
    (hclos2 : ∀ C, closureFor scope2 (compEnvC scope cl C env) = pure cl2 := by intro _; rfl) (hcell2 : ∀ y ∈ scope2.names, y.2 ≠ .cell := by decide) (hkind2 : scope2.kind = .function := by rfl)
    (hnames2 : ∀ y ∈ scope2.names, y.2 = .local → scope2.names.lookup y.1 = some .local := by decide) (hzl : scope2.names.lookup z = some .local := by decide)
    (hs2 : ∀ C v, foldedSetIterable (.Name x p3) (compEnvC scope cl C env) v = pure v := by intro _ _; rfl)
    (k1 : ∀ C, (compEnvC scope cl C env).kindOf x = some .local := by intro _; rfl) (k2 : ∀ C C2, (compEnvC scope2 cl2 C2 (compEnvC scope cl C env)).kindOf z = some .local := by intro _ _; rfl)
    (k3 : ∀ C C2, (compEnvC scope2 cl2 C2 (compEnvC scope cl C env)).kindOf cd = some .cell := by intro _ _; rfl) (k4 : cl2.lookup cd = some cc := by rfl)
    (d1 : (x == ("__debug__" : Str)) = false := by decide +kernel) (d2 : (z == ("__debug__" : Str)) = false := by decide +kernel) (d3 : (cd == ("__debug__" : Str)) = false := by decide +kernel) :
    wpAny (model prog w) A (exec (.Assign [.Name y py] (.ListComp (.ListComp (.Name z p1) [⟨.Name z p2, .Name x p3, [.BoolOp .And [.Name z p4, .Compare (.Name z p5) [.NotEq] [.Name cd p6] p7] p8], 0⟩] scope2 ipos) [⟨.Name x px, .Name src p9, [], 0⟩] scope cpos) spos) env) Q E s := by
  refine alc_freeO (n := xs.toArray.size) (P := fun i v => xs.toArray[i]? = some v) F₀ hLe (fun _ => true) (fun v its => ∀ l, ItemAt s.heap v l → ∃ us, its = List.toArray us ∧ BytesAre us (l.filter fun c => decide (c ≠ [] ∧ c ≠ [46])))
    (ld_local (by rw [hLe]; exact F₀.ns) hm ⟨Keeps.refl s, src_list hh hD⟩ hk hl hd) (by rw [List.size_toArray, sizeLine_eq]; (first | lia | omega)) ?_ ?_ ?_ hsw hy hp hclos hcell hkind hnames hxl hs
  · intro C i v s₃ m₃ E' _ _ _ _ _
    exact wpAny_tests_nil ⟨rfl, Keeps.refl _⟩
  · intro C i v s₃ m₃ E' hP _ hns hmx hk3 _
    obtain ⟨l, hll, hi⟩ := hx.at (by simpa using hP : xs[i]? = some v)
    obtain ⟨T, us, rfl, ⟨oT, eT, rT⟩, hu⟩ := id hi
    have hzl' := hz l (List.mem_of_getElem? hll)
    have hu' := hu.length
    have hT3 : s₃.heap.IsList T us.toArray := ⟨oT, hk3 _ _ eT, rT⟩
    have e2k : ∀ C, (compEnvC scope cl C env).scope.kind = .function := fun C => by simp [compEnvC, relabel, hkind]
    have e3k : ∀ C C2, (compEnvC scope2 cl2 C2 (compEnvC scope cl C env)).scope.kind = .function := fun C C2 => by simp [compEnvC, relabel, hkind2]
    refine lc_free (n := us.toArray.size) (P := fun i v => us.toArray[i]? = some v) goodB (fun v y => y = v) (ld_local hns hmx ⟨Keeps.refl s₃, src_list hh hT3⟩ (e2k C) (k1 C) d1) (by rw [List.size_toArray, sizeLine_eq]; (first | lia | omega)) ?_ ?_ ?_ (hclos2 C) hcell2 hkind2 hnames2 hzl (hs2 C)
    · intro C2 j v2 s₄ m₄ E4 hP2 hn4 hm4 hk4 _
      obtain ⟨b, t, rfl, hlb⟩ := hu.at (by simpa using hP2 : us[j]? = some v2)
      have hb : b.size ≤ 2000 := by have := hzl'.2 _ (List.mem_of_getElem? hlb); simpa using this
      refine wpAny_tests_one (isTrue_and (isTrue_plain (ld_local hn4 hm4 (truthy_bytes (by (first | lia | omega)) ?_) (e3k C C2) (k2 C C2) d2)))
      by_cases hb0 : b.toList = []
      · have e0 : ((b.size : Int) != 0) = false := by
          have : b.size = 0 := by rw [← Array.length_toList, hb0]; rfl
          simp [this]
        rw [e0]
        simp only [Bool.false_eq_true, if_false]
        exact ⟨by simp [goodB, hb0], keeps_of (fun _ _ e => e)⟩
      · have e0 : ((b.size : Int) != 0) = true := by
          have h1 : b.toList.length ≠ 0 := fun q => hb0 (List.eq_nil_of_length_eq_zero q)
          rw [Array.length_toList] at h1
          simp; intro q; exact h1 (by simp [q])
        rw [e0]
        simp only [if_true]
        refine isTrue_and (wpAny_isTrue_Compare1 (ld_local hn4 hm4 ?_ (e3k C C2) (k2 C C2) d2))
        obtain ⟨oc, c1, c2⟩ := hcd
        refine ld_cell ⟨oc, hk4 _ _ (hk3 _ _ c1), c2⟩ (ne_bytes (wpAny_truthy_bool ?_)) (e3k C C2) (k3 C C2) k4 d3
        have e1 : (b.toList != (#[46] : Array UInt8).toList) = goodB (.bytes b t) := by
          rw [bne_decide]; simp [goodB, hb0]
        rw [e1]
        cases hg : goodB (.bytes b t) with
        | true => simp only [if_true]; exact isTrue_and_nil ⟨rfl, keeps_of (fun _ _ e => e)⟩
        | false => simp only [Bool.false_eq_true, if_false]; exact ⟨trivial, keeps_of (fun _ _ e => e)⟩
    · intro C2 j v2 s₄ m₄ E4 hP2 _ hn4 hm4 hk4 _
      exact ld_local hn4 hm4 ⟨rfl, Keeps.refl _⟩ (e3k C C2) (k2 C C2) d2
    · intro D h' tk ys vs' hDn hlD hlen hP' hpair hk'
      have e := vs_eq (by rw [hlen, List.size_toArray]) hP'
      subst e
      have e2 := paired_eq hpair
      refine ⟨⟨D, ys, rfl, hDn, hlD, fun l' hi' => ?_⟩, keeps_of hk'⟩
      obtain ⟨T', us', e3, hT', hu9⟩ := hi'
      cases e3
      have e4 : us' = vs' := by
        obtain ⟨o', a1, _, n', a2⟩ := hT'
        obtain ⟨_, n, a3⟩ := rT
        rw [eT] at a1; cases a1
        rw [a3] at a2
        cases a2; rfl
      subst e4
      exact ⟨ys.toList, by simp, by rw [e2]; exact hu9.filter⟩
  · intro D h' tk ys vs' hDn hlD hlen hP hpair _ F₁ hkb
    have e := vs_eq (by rw [hlen, List.size_toArray]) hP
    subst e
    rw [filter_all] at hpair
    have hla := paired_lists2 hx hpair
    exact h D h' tk ys hlD hla hDn F₁ (KeepB.one hkb)
end
end Mine
end
theorem Mine.calmP1 : True := by w_top off; trivial
section
set_option autoImplicit false
namespace Mine
section
variable {α : Type} [DecidableEq α]
def lex (lt : α → α → Bool) : List α → List α → Bool
  | [], [] => false
  | [], _ :: _ => true
  | _ :: _, [] => false
  | a :: r, b :: t => if a = b then lex lt r t else lt a b
structure STO (lt : α → α → Bool) : Prop where
  irr : ∀ a, lt a a = false
  tr : ∀ a b c, lt a b = true → lt b c = true → lt a c = true
  tot : ∀ a b, a ≠ b → lt a b = true ∨ lt b a = true
variable {lt : α → α → Bool}
theorem STO.asym (h : STO lt) {a b : α} (x : lt a b = true) : lt b a = false := by
  cases e : lt b a with
  | false => rfl
  | true => have := h.tr _ _ _ x e; rw [h.irr] at this; cases this
theorem STO.flip (h : STO lt) : STO (fun a b => lt b a) := ⟨h.irr, fun a b c x y => h.tr c b a y x, fun a b n => h.tot b a (Ne.symm n)⟩
theorem STO.le_trans (h : STO lt) {a b c : α} (x : lt b a = false) (y : lt c b = false) : lt c a = false := by
  cases e : lt c a with
  | false => rfl
  | true =>
    by_cases q : a = b
    · subst q; rw [e] at y; cases y
    · rcases h.tot a b q with z | z
      · have := h.tr _ _ _ e z; rw [this] at y; cases y
      · rw [z] at x; cases x
theorem STO.anti (h : STO lt) {a b : α} (x : lt b a = false) (y : lt a b = false) : a = b := by
  by_cases q : a = b
  · exact q
  · rcases h.tot a b q with z | z
    · rw [z] at y; cases y
    · rw [z] at x; cases x
theorem lex_irr (h : STO lt) : ∀ a : List α, lex lt a a = false
  | [] => rfl
  | a :: r => by simp [lex, lex_irr h r]
theorem lex_tr (h : STO lt) : ∀ a b c : List α, lex lt a b = true → lex lt b c = true → lex lt a c = true
  | [], [], _, x, _ => by simp [lex] at x
  | [], _ :: _, [], _, y => by simp [lex] at y
  | [], _ :: _, _ :: _, _, _ => rfl
  | _ :: _, [], _, x, _ => by simp [lex] at x
  | _ :: _, _ :: _, [], _, y => by simp [lex] at y
  | a :: r, b :: t, c :: u, x, y => by
    unfold lex at x y ⊢
    by_cases h1 : a = b
    · subst h1
      rw [if_pos rfl] at x
      by_cases h2 : a = c
      · subst h2; rw [if_pos rfl] at y ⊢; exact lex_tr h r t u x y
      · rw [if_neg h2] at y ⊢; exact y
    · rw [if_neg h1] at x
      by_cases h2 : b = c
      · subst h2; rw [if_neg h1]; exact x
      · rw [if_neg h2] at y
        have z := h.tr _ _ _ x y
        have h3 : a ≠ c := fun q => by subst q; rw [h.irr] at z; cases z
        rw [if_neg h3]; exact z
theorem lex_tot (h : STO lt) : ∀ a b : List α, a ≠ b → lex lt a b = true ∨ lex lt b a = true
  | [], [], n => absurd rfl n
  | [], _ :: _, _ => .inl rfl
  | _ :: _, [], _ => .inr rfl
  | a :: r, b :: t, n => by
    unfold lex
    by_cases h1 : a = b
    · subst h1
      rw [if_pos rfl, if_pos rfl]
      exact lex_tot h r t fun q => n (by rw [q])
    · rw [if_neg h1, if_neg (Ne.symm h1)]
      exact h.tot a b h1
theorem STO.lex (h : STO lt) : STO (lex lt) := ⟨lex_irr h, lex_tr h, lex_tot h⟩
/-- the first least -/
def best (lt : α → α → Bool) : α → List α → α
  | x, [] => x
  | x, y :: r => best lt (if lt y x = true then y else x) r
theorem best_mem : ∀ (x : α) (r : List α), best lt x r ∈ x :: r
  | x, [] => List.mem_cons_self ..
  | x, y :: r => by
    unfold best
    have := best_mem (if lt y x = true then y else x) r
    rcases List.mem_cons.mp this with e | e
    · rw [e]
      split
      · exact List.mem_cons_of_mem _ (List.mem_cons_self ..)
      · exact List.mem_cons_self ..
    · exact List.mem_cons_of_mem _ (List.mem_cons_of_mem _ e)
theorem best_le (h : STO lt) : ∀ (x : α) (r : List α), ∀ y ∈ x :: r, lt y (best lt x r) = false
  | x, [], y, hy => by rw [List.mem_singleton.mp hy]; exact h.irr x
  | x, z :: r, y, hy => by
    unfold best
    have ih := best_le h (if lt z x = true then z else x) r
    have h0 := ih _ (List.mem_cons_self ..)
    rcases List.mem_cons.mp hy with rfl | hy
    · by_cases q : lt z y = true
      · rw [if_pos q] at h0 ⊢
        exact h.le_trans h0 (h.asym q)
      · rw [if_neg q] at h0 ⊢; exact h0
    · rcases List.mem_cons.mp hy with rfl | hy
      · by_cases q : lt y x = true
        · rw [if_pos q] at h0 ⊢; exact h0
        · rw [if_neg q] at h0 ⊢
          exact h.le_trans h0 (by simpa using q)
      · exact ih y (List.mem_cons_of_mem _ hy)
theorem best_uniq (h : STO lt) {x : α} {r : List α} {m : α} (hm : m ∈ x :: r) (hl : ∀ y ∈ x :: r, lt y m = false) : best lt x r = m :=
  (h.anti (best_le h x r m hm) (hl _ (best_mem x r)))
/-- the longest common head -/
def lcp : List α → List α → List α
  | a :: r, b :: t => if a = b then a :: lcp r t else []
  | _, _ => []
theorem lcp_left : ∀ l m : List α, lcp l m <+: l
  | [], _ => by simp [lcp]
  | _ :: _, [] => by simp [lcp]
  | a :: r, b :: t => by
    unfold lcp
    split
    · exact List.cons_prefix_cons.mpr ⟨rfl, lcp_left r t⟩
    · exact List.nil_prefix
theorem lcp_comm : ∀ l m : List α, lcp l m = lcp m l
  | [], [] => rfl
  | [], _ :: _ => rfl
  | _ :: _, [] => rfl
  | a :: r, b :: t => by
    unfold lcp
    by_cases h : a = b
    · subst h; rw [if_pos rfl, if_pos rfl, lcp_comm r t]
    · rw [if_neg h, if_neg (Ne.symm h)]
theorem lcp_right (l m : List α) : lcp l m <+: m := lcp_comm m l ▸ lcp_left m l
theorem lcp_great : ∀ {p l m : List α}, p <+: l → p <+: m → p <+: lcp l m
  | [], _, _, _, _ => List.nil_prefix
  | a :: p, [], _, h, _ => by simp at h
  | a :: p, _ :: _, [], _, h => by simp at h
  | a :: p, b :: l, c :: m, h1, h2 => by
    obtain ⟨e1, q1⟩ := List.cons_prefix_cons.mp h1
    obtain ⟨e2, q2⟩ := List.cons_prefix_cons.mp h2
    subst e1; subst e2
    unfold lcp
    rw [if_pos rfl]
    exact List.cons_prefix_cons.mpr ⟨rfl, lcp_great q1 q2⟩
theorem prefix_antisymm {p q : List α} (h1 : p <+: q) (h2 : q <+: p) : p = q := List.IsPrefix.eq_of_length h1 (Nat.le_antisymm h1.length_le h2.length_le)
theorem lcp_self (l : List α) : lcp l l = l := prefix_antisymm (lcp_left l l) (lcp_great (List.prefix_refl _) (List.prefix_refl _))
theorem lcp_assoc (a b c : List α) : lcp (lcp a b) c = lcp a (lcp b c) := by
  apply prefix_antisymm
  · exact lcp_great ((lcp_left _ _).trans (lcp_left _ _)) (lcp_great ((lcp_left _ _).trans (lcp_right _ _)) (lcp_right _ _))
  · exact lcp_great (lcp_great (lcp_left _ _) ((lcp_right _ _).trans (lcp_left _ _))) ((lcp_right _ _).trans (lcp_right _ _))
/-- what the first and the last of three have in common, the one between has -/
theorem lcp_mid (h : STO lt) : ∀ {a b c : List α}, lex lt b a = false → lex lt c b = false → lcp a c <+: b
  | [], _, _, _, _ => by simp [lcp]
  | _ :: _, _, [], _, _ => by simp [lcp]
  | x :: a, [], z :: c, h1, _ => by simp [lex] at h1
  | x :: a, y :: b, z :: c, h1, h2 => by
    unfold lcp
    by_cases q : x = z
    · rw [if_pos q]
      subst q
      unfold lex at h1 h2
      by_cases q1 : y = x
      · subst q1
        rw [if_pos rfl] at h1 h2
        exact List.cons_prefix_cons.mpr ⟨rfl, lcp_mid h h1 h2⟩
      · rw [if_neg q1] at h1
        rw [if_neg (Ne.symm q1)] at h2
        exact absurd (h.anti h1 h2).symm q1
    · rw [if_neg q]; exact List.nil_prefix
theorem prefix_le (h : STO lt) : ∀ {a b : List α}, a <+: b → lex lt b a = false
  | [], [], _ => rfl
  | [], _ :: _, _ => rfl
  | a :: r, [], x => by simp at x
  | a :: r, b :: t, x => by
    obtain ⟨e, q⟩ := List.cons_prefix_cons.mp x
    subst e
    unfold lex
    rw [if_pos rfl]
    exact prefix_le h q
/-- the common head of all -/
def glb : List α → List (List α) → List α
  | x, [] => x
  | x, y :: r => glb (lcp x y) r
theorem glb_prefix : ∀ (x : List α) (r : List (List α)), ∀ y ∈ x :: r, glb x r <+: y
  | x, [], y, hy => by rw [List.mem_singleton.mp hy]; exact List.prefix_refl _
  | x, z :: r, y, hy => by
    unfold glb
    have ih := glb_prefix (lcp x z) r
    rcases List.mem_cons.mp hy with rfl | hy
    · exact (ih _ (List.mem_cons_self ..)).trans (lcp_left _ _)
    · rcases List.mem_cons.mp hy with rfl | hy
      · exact (ih _ (List.mem_cons_self ..)).trans (lcp_right _ _)
      · exact ih y (List.mem_cons_of_mem _ hy)
theorem glb_great : ∀ (x : List α) (r : List (List α)) {p : List α}, (∀ y ∈ x :: r, p <+: y) → p <+: glb x r
  | x, [], p, h => h x (List.mem_cons_self ..)
  | x, z :: r, p, h => by
    unfold glb
    refine glb_great (lcp x z) r fun y hy => ?_
    rcases List.mem_cons.mp hy with rfl | hy
    · exact lcp_great (h _ (List.mem_cons_self ..)) (h _ (List.mem_cons_of_mem _ (List.mem_cons_self ..)))
    · exact h y (List.mem_cons_of_mem _ (List.mem_cons_of_mem _ hy))
theorem glb_uniq {x : List α} {r : List (List α)} {p : List α} (h1 : ∀ y ∈ x :: r, p <+: y) (h2 : ∀ q : List α, (∀ y ∈ x :: r, q <+: y) → q <+: p) : glb x r = p :=
  prefix_antisymm (h2 _ (glb_prefix x r)) (glb_great x r h1)
theorem lcp_best (h : STO lt) (x : List α) (r : List (List α)) : lcp (best (lex lt) x r) (best (fun a b => lex lt b a) x r) = glb x r := by
  symm
  refine glb_uniq (fun y hy => ?_) fun q hq => lcp_great (hq _ (best_mem x r)) (hq _ (best_mem x r))
  exact lcp_mid h (best_le h.lex x r y hy) (best_le h.lex.flip x r y hy)
end
/-! the bytes of the ways -/
def letter (d : Nat) : UInt8 := UInt8.ofNat (65 + d)
def letters (ds : List Nat) : List UInt8 := ds.map letter
/-- the words on the way, what stands behind p -/
def wordsP : List Nat → List Nat → List (List UInt8)
  | _, [] => []
  | p, a :: r => letters (p ++ [a]) :: wordsP (p ++ [a]) r
def words (ds : List Nat) : List (List UInt8) := wordsP [] ds
def way (ds : List Nat) : List UInt8 := 47 :: [47].intercalate (words ds)
def Dig (ds : List Nat) : Prop := ∀ d ∈ ds, d < 16
abbrev ltN (a b : Nat) : Bool := decide (a < b)
abbrev ltU (a b : UInt8) : Bool := decide (a < b)
theorem sto_N : STO ltN := ⟨fun a => by simp [ltN], fun a b c h1 h2 => by simp [ltN] at *; (first | lia | omega), fun a b n => by simp [ltN]; (first | lia | omega)⟩
theorem sto_U : STO ltU := ⟨fun a => by simp [ltU], fun a b c h1 h2 => by simp only [ltU, decide_eq_true_eq] at *; exact UInt8.lt_trans h1 h2, fun a b n => by
  simp only [ltU, decide_eq_true_eq]
  rcases Nat.lt_trichotomy a.toNat b.toNat with h | h | h
  · exact .inl h
  · exact absurd (UInt8.toNat_inj.mp h) n
  · exact .inr h⟩
theorem letter_nat {d : Nat} (h : d < 16) : (letter d).toNat = 65 + d := by
  unfold letter
  rw [UInt8.toNat_ofNat']
  (first | lia | omega)
theorem letter_inj {a b : Nat} (ha : a < 16) (hb : b < 16) (h : letter a = letter b) : a = b := by
  have := congrArg UInt8.toNat h
  rw [letter_nat ha, letter_nat hb] at this
  (first | lia | omega)
theorem letter_lt {a b : Nat} (ha : a < 16) (hb : b < 16) : ltU (letter a) (letter b) = ltN a b := by
  have e : (letter a < letter b) ↔ a < b := by
    rw [UInt8.lt_iff_toNat_lt, letter_nat ha, letter_nat hb]; (first | lia | omega)
  by_cases h : a < b
  · simp [ltU, ltN, h, e.mpr h]
  · have := mt e.mp h
    simp [ltU, ltN, h, this]
theorem Dig.head {a : Nat} {r : List Nat} (h : Dig (a :: r)) : a < 16 := h a (List.mem_cons_self ..)
theorem Dig.tail {a : Nat} {r : List Nat} (h : Dig (a :: r)) : Dig r := fun d hd => h d (List.mem_cons_of_mem _ hd)
theorem letters_app (p q : List Nat) : letters (p ++ q) = letters p ++ letters q := List.map_append
theorem lex_app {α : Type} [DecidableEq α] {lt : α → α → Bool} : ∀ (p x y : List α), lex lt (p ++ x) (p ++ y) = lex lt x y
  | [], _, _ => rfl
  | a :: p, x, y => by simp [lex, lex_app p x y]
theorem lex_heads {a b : Nat} (ha : a < 16) (hb : b < 16) (hne : a ≠ b) (x y : List UInt8) : lex ltU (letter a :: x) (letter b :: y) = ltN a b := by
  unfold lex
  rw [if_neg (fun q => hne (letter_inj ha hb q)), letter_lt ha hb]
theorem words_eq_iff {a b : Nat} (ha : a < 16) (hb : b < 16) (p : List Nat) : letters (p ++ [a]) = letters (p ++ [b]) ↔ a = b := by
  constructor
  · intro h
    rw [letters_app, letters_app] at h
    have := List.append_cancel_left h
    exact letter_inj ha hb (by simpa [letters] using this)
  · rintro rfl; rfl
theorem lex_wordsP : ∀ (p x y : List Nat), Dig x → Dig y → lex (lex ltU) (wordsP p x) (wordsP p y) = lex ltN x y
  | _, [], [], _, _ => rfl
  | _, [], _ :: _, _, _ => rfl
  | _, _ :: _, [], _, _ => rfl
  | p, a :: x, b :: y, hx, hy => by
    unfold wordsP lex
    by_cases h : a = b
    · subst h
      rw [if_pos rfl, if_pos rfl]
      exact lex_wordsP (p ++ [a]) x y hx.tail hy.tail
    · rw [if_neg (fun q => h ((words_eq_iff hx.head hy.head p).mp q)), if_neg h, letters_app, letters_app, lex_app]
      exact lex_heads hx.head hy.head h [] []
theorem lcp_wordsP : ∀ (p x y : List Nat), Dig x → Dig y → lcp (wordsP p x) (wordsP p y) = wordsP p (lcp x y)
  | _, [], _, _, _ => by simp [wordsP, lcp]
  | _, _ :: _, [], _, _ => by simp [wordsP, lcp]
  | p, a :: x, b :: y, hx, hy => by
    unfold lcp
    by_cases h : a = b
    · subst h
      simp only [wordsP, if_true]
      rw [lcp_wordsP (p ++ [a]) x y hx.tail hy.tail]
    · have : letters (p ++ [a]) ≠ letters (p ++ [b]) := fun q => h ((words_eq_iff hx.head hy.head p).mp q)
      simp [wordsP, h, this]
theorem lcp_dig {x y : List Nat} (hx : Dig x) : Dig (lcp x y) := fun d hd => hx d ((lcp_left x y).subset hd)
theorem lcp_words {x y : List Nat} (hx : Dig x) (hy : Dig y) : lcp (words x) (words y) = words (lcp x y) := lcp_wordsP [] x y hx hy
theorem lex_words {x y : List Nat} (hx : Dig x) (hy : Dig y) : lex (lex ltU) (words x) (words y) = lex ltN x y := lex_wordsP [] x y hx hy
end Mine
end
theorem Mine.calmP2 : True := by w_top off; trivial
section
open PySem PySem.W PyProof.Rows PySem.Calls
open PySem.Builtin
set_option autoImplicit false
set_option linter.unusedSectionVars false
namespace Mine
theorem order_lex : ∀ x y : List UInt8, (Bytes.order x y == .lt) = lex ltU x y
  | [], [] => rfl
  | [], _ :: _ => rfl
  | _ :: _, [] => rfl
  | x :: xs, y :: ys => by
    unfold Bytes.order lex
    by_cases h : x = y
    · subst h
      have : ¬ x < x := UInt8.lt_irrefl x
      simp only [this, if_false, gt_iff_lt, if_true]
      exact order_lex xs ys
    · rw [if_neg h]
      by_cases h1 : x < y
      · simp [h1, ltU]
      · have h2 : y < x := by
          rcases sto_U.tot x y h with z | z
          · exact absurd (of_decide_eq_true z) h1
          · exact of_decide_eq_true z
        simp [h1, h2, ltU]
theorem ltL_lex : ∀ x y, ltL x y = lex (lex ltU) x y
  | [], [] => rfl
  | [], _ :: _ => rfl
  | _ :: _, [] => rfl
  | x :: xs, y :: ys => by
    unfold ltL lex
    by_cases h : x = y
    · rw [if_pos h, if_pos h, ltL_lex xs ys]
    · rw [if_neg h, if_neg h, order_lex]
theorem foldl_best {α : Type} (lt : α → α → Bool) : ∀ (r : List α) (x : α), r.foldl (fun c y => if lt y c = true then y else c) x = best lt x r
  | [], x => rfl
  | y :: r, x => by rw [List.foldl_cons, foldl_best lt r]; rfl
theorem minL_best (x : List (List UInt8)) (r : List (List (List UInt8))) : minL (x :: r) = best (lex (lex ltU)) x r := by
  have : (fun c y => if ltL y c = true then y else c) = (fun c y : List (List UInt8) => if lex (lex ltU) y c = true then y else c) := by funext c y; rw [ltL_lex]
  show r.foldl (fun c y => if ltL y c = true then y else c) x = _
  rw [this, foldl_best]
theorem maxL_best (x : List (List UInt8)) (r : List (List (List UInt8))) : maxL (x :: r) = best (fun a b => lex (lex ltU) b a) x r := by
  have : (fun c y => if gtL y c = true then y else c) = (fun c y : List (List UInt8) => if (fun a b => lex (lex ltU) b a) y c = true then y else c) := by funext c y; rw [gtL_eq, ltL_lex]
  show r.foldl (fun c y => if gtL y c = true then y else c) x = _
  rw [this, foldl_best]
theorem lcp_minmax (x : List (List UInt8)) (r : List (List (List UInt8))) : lcp (minL (x :: r)) (maxL (x :: r)) = glb x r := by
  rw [minL_best, maxL_best]; exact lcp_best sto_U.lex x r
/-- the loop does not run out of the greatest's items -/
theorem min_max_idx (x : List (List UInt8)) (r : List (List (List UInt8))) (k : Nat) (hk : k < (minL (x :: r)).length) (he : (minL (x :: r)).take k = (maxL (x :: r)).take k) : k < (maxL (x :: r)).length := by
  rcases Nat.lt_or_ge k (maxL (x :: r)).length with h | h
  · exact h
  · rw [List.take_of_length_le h] at he
    have h1 : maxL (x :: r) <+: minL (x :: r) := by rw [← he]; exact List.take_prefix k _
    have hmem : maxL (x :: r) ∈ x :: r := by rw [maxL_best]; exact best_mem x r
    have h2 := best_le sto_U.lex.lex x r _ hmem
    rw [← minL_best] at h2
    have h3 := prefix_le sto_U.lex h1
    have h4 := sto_U.lex.lex.anti h2 h3
    have h5 := congrArg List.length h4
    (first | lia | omega)
/-! split -/
theorem splitL_free : ∀ {w : List UInt8}, (47 : UInt8) ∉ w → splitL w = [w]
  | [], _ => rfl
  | c :: w, h => by
    have hc : c ≠ 47 := fun q => h (by rw [q]; exact List.mem_cons_self ..)
    rw [splitL, if_neg hc, splitL_free fun q => h (List.mem_cons_of_mem _ q)]
theorem splitL_app : ∀ {w : List UInt8} (r : List UInt8), (47 : UInt8) ∉ w → splitL (w ++ 47 :: r) = w :: splitL r
  | [], r, _ => by simp [splitL]
  | c :: w, r, h => by
    have hc : c ≠ 47 := fun q => h (by rw [q]; exact List.mem_cons_self ..)
    rw [List.cons_append]
    rw [splitL, if_neg hc, splitL_app r fun q => h (List.mem_cons_of_mem _ q)]
theorem inter_cons {w : List UInt8} {v : List UInt8} {r : List (List UInt8)} : [47].intercalate (w :: v :: r) = w ++ 47 :: [47].intercalate (v :: r) := by
  simp [List.intercalate]
theorem splitL_inter : ∀ {ws : List (List UInt8)}, ws ≠ [] → (∀ w ∈ ws, (47 : UInt8) ∉ w) → splitL ([47].intercalate ws) = ws
  | [], h, _ => absurd rfl h
  | [w], _, h => by
    have : [47].intercalate [w] = w := by simp [List.intercalate]
    rw [this]; exact splitL_free (h w (List.mem_cons_self ..))
  | w :: v :: r, _, h => by
    rw [inter_cons, splitL_app _ (h w (List.mem_cons_self ..)), splitL_inter (by simp) fun x hx => h x (List.mem_cons_of_mem _ hx)]
theorem letters_big {ds : List Nat} (h : Dig ds) : ∀ b ∈ letters ds, 65 ≤ b.toNat := by
  intro b hb
  obtain ⟨d, hd, rfl⟩ := List.mem_map.mp hb
  rw [letter_nat (h d hd)]; (first | lia | omega)
theorem wordsP_mem : ∀ {p ds : List Nat}, Dig p → Dig ds → ∀ w ∈ wordsP p ds, ∃ q, q ≠ [] ∧ Dig q ∧ w = letters q
  | _, [], _, _, _, hw => by simp [wordsP] at hw
  | p, a :: r, hp, hd, w, hw => by
    have hq : Dig (p ++ [a]) := fun d hm => (List.mem_append.mp hm).elim (hp d) fun q => by rw [List.mem_singleton.mp q]; exact hd.head
    rcases List.mem_cons.mp hw with rfl | hw
    · exact ⟨_, by simp, hq, rfl⟩
    · exact wordsP_mem hq hd.tail w hw
theorem words_mem {ds : List Nat} (h : Dig ds) : ∀ w ∈ words ds, w ≠ [] ∧ w ≠ [46] ∧ (47 : UInt8) ∉ w := by
  intro w hw
  obtain ⟨q, hq, hdq, rfl⟩ := wordsP_mem (p := []) (by intro d hd; simp at hd) h w hw
  refine ⟨fun e => hq (List.map_eq_nil_iff.mp e), fun e => ?_, fun e => ?_⟩
  · have := letters_big hdq 46 (by rw [e]; exact List.mem_cons_self ..)
    exact absurd this (by decide)
  · have := letters_big hdq 47 e
    exact absurd this (by decide)
theorem comps_way {ds : List Nat} (h : Dig ds) : comps (way ds) = words ds := by
  unfold comps way
  have e : splitL (47 :: [47].intercalate (words ds)) = [] :: splitL ([47].intercalate (words ds)) := by simp [splitL]
  rw [e, List.filter_cons_of_neg (by simp)]
  by_cases hw : words ds = []
  · rw [hw]; rfl
  · rw [splitL_inter hw fun w hm => (words_mem h w hm).2.2]
    rw [List.filter_eq_self]
    intro w hm
    have := words_mem h w hm
    simp [this.1, this.2.1]
theorem words_inj {x y : List Nat} (hx : Dig x) (hy : Dig y) (h : words x = words y) : x = y := by
  have h1 := lex_words hx hy
  have h2 := lex_words hy hx
  rw [h, lex_irr sto_U.lex] at h1 h2
  exact sto_N.lex.anti h2.symm h1.symm
theorem way_inj {x y : List Nat} (hx : Dig x) (hy : Dig y) (h : way x = way y) : x = y := words_inj hx hy (by rw [← comps_way hx, ← comps_way hy, h])
theorem dig_glb {x : List Nat} {r : List (List Nat)} (h : ∀ y ∈ x :: r, Dig y) : Dig (glb x r) := fun d hd => h x (List.mem_cons_self ..) d ((glb_prefix x r x (List.mem_cons_self ..)).subset hd)
theorem glb_words : ∀ {x : List Nat} {r : List (List Nat)}, (∀ y ∈ x :: r, Dig y) → glb (words x) (r.map words) = words (glb x r)
  | x, [], _ => rfl
  | x, y :: r, h => by
    have hx := h x (List.mem_cons_self ..)
    have hy := h y (List.mem_cons_of_mem _ (List.mem_cons_self ..))
    simp only [List.map_cons, glb]
    rw [lcp_words hx hy]
    exact glb_words fun z hz => (List.mem_cons.mp hz).elim (fun q => q ▸ lcp_dig hx) fun q => h z (List.mem_cons_of_mem _ (List.mem_cons_of_mem _ q))
/-! what stands behind the common head -/
theorem lcp_split {x y : List Nat} (hx : lcp x y ≠ x) (hy : lcp x y ≠ y) : ∃ a b x' y', x = lcp x y ++ a :: x' ∧ y = lcp x y ++ b :: y' ∧ a ≠ b := by
  obtain ⟨u, hu⟩ := lcp_left x y
  obtain ⟨v, hv⟩ := lcp_right x y
  generalize hp : lcp x y = p at *
  cases u with
  | nil => simp at hu; exact absurd hu hx
  | cons a x' =>
    cases v with
    | nil => simp at hv; exact absurd hv hy
    | cons b y' =>
      refine ⟨a, b, x', y', hu.symm, hv.symm, fun q => ?_⟩
      subst q
      have h1 : p ++ [a] <+: lcp x y := lcp_great ⟨x', by rw [← hu]; simp⟩ ⟨y', by rw [← hv]; simp⟩
      rw [hp] at h1
      have := h1.length_le
      simp at this
      (first | lia | omega)
theorem wordsP_app : ∀ (q p r : List Nat), wordsP q (p ++ r) = wordsP q p ++ wordsP (q ++ p) r
  | q, [], r => by simp [wordsP]
  | q, a :: p, r => by simp [wordsP, wordsP_app (q ++ [a]) p r, List.append_assoc]
def catw (ws : List (List UInt8)) : List UInt8 := ws.flatMap fun w => 47 :: w
theorem catw_inter : ∀ {ws : List (List UInt8)}, ws ≠ [] → 47 :: [47].intercalate ws = catw ws
  | [], h => absurd rfl h
  | [w], _ => by simp [List.intercalate, catw]
  | w :: v :: r, _ => by
    rw [inter_cons]
    have := catw_inter (ws := v :: r) (by simp)
    rw [this]
    simp [catw]
theorem words_ne {ds : List Nat} (h : ds ≠ []) : words ds ≠ [] := by
  cases ds with
  | nil => exact absurd rfl h
  | cons a r => simp [words, wordsP]
theorem rest_cmp {x y : List Nat} (hx : Dig x) (hy : Dig y) (h1 : lcp x y ≠ x) (h2 : lcp x y ≠ y) :
    lex ltU ((way x).drop (way (lcp x y)).length) ((way y).drop (way (lcp x y)).length) = lex ltN x y := by
  obtain ⟨a, b, x', y', ex, ey, hab⟩ := lcp_split h1 h2
  generalize hp : lcp x y = p at *
  have ha : a < 16 := hx a (by rw [ex]; simp)
  have hb : b < 16 := hy b (by rw [ey]; simp)
  have hl : lex ltN x y = ltN a b := by rw [ex, ey, lex_app]; unfold lex; rw [if_neg hab]
  rw [hl]
  by_cases hp0 : p = []
  · subst hp0
    have e : ∀ (c : Nat) (r : List Nat), (way (c :: r)).drop (way []).length = letter c :: (way (c :: r)).drop 2 := by
      intro c r
      have : way (c :: r) = 47 :: letter c :: (way (c :: r)).drop 2 := by
        unfold way words wordsP
        cases hw : wordsP ([] ++ [c]) r with
        | nil => simp [List.intercalate, letters]
        | cons v t => rw [inter_cons]; simp [letters]
      have h9 : (way []).length = 1 := by decide
      rw [h9]
      conv => lhs; rw [this]
      rfl
    rw [ex, ey]
    simp only [List.nil_append]
    rw [e, e]
    exact lex_heads ha hb hab _ _
  · have e : ∀ (c : Nat) (r : List Nat), (way (p ++ c :: r)).drop (way p).length = (47 :: letters p) ++ letter c :: catw (wordsP (p ++ [c]) r) := by
      intro c r
      have w1 : way p = catw (words p) := catw_inter (words_ne hp0)
      have w2 : way (p ++ c :: r) = catw (words p) ++ catw (wordsP p (c :: r)) := by
        have : way (p ++ c :: r) = catw (words (p ++ c :: r)) := catw_inter (words_ne (by simp))
        rw [this]
        unfold words
        rw [wordsP_app, List.nil_append]
        simp [catw]
      rw [w1, w2, List.drop_left]
      simp [catw, wordsP, letters_app, letters]
    rw [ex, ey, e, e, lex_app]
    exact lex_heads ha hb hab _ _
end Mine
end
theorem Mine.calmQ3 : True := by w_top off; trivial
section
open PySem PySem.W PyProof.Rows PySem.Calls
open PySem.Builtin
set_option maxRecDepth 100000
set_option maxHeartbeats 4000000
namespace Mine
theorem lcp_at {α : Type} [DecidableEq α] : ∀ {l m : List α} {i : Nat} {x y : α}, l.take i = m.take i → l[i]? = some x → m[i]? = some y → x ≠ y → lcp l m = l.take i
  | a :: l, b :: m, 0, x, y, _, h1, h2, h3 => by
    simp at h1 h2; subst h1 h2
    simp [lcp, h3]
  | a :: l, b :: m, i + 1, x, y, h, h1, h2, h3 => by
    simp only [List.take_succ_cons, List.cons.injEq] at h
    have := lcp_at h.2 (by simpa using h1) (by simpa using h2) h3
    simp [lcp, h.1, this]
  | [], _, _, _, _, _, h1, _, _ => by simp at h1
  | _ :: _, [], _, _, _, _, _, h2, _ => by simp at h2
theorem lcp_all {α : Type} [DecidableEq α] : ∀ {l m : List α}, l = m.take l.length → lcp l m = l
  | [], _, _ => by simp [lcp]
  | a :: l, [], h => by simp at h
  | a :: l, b :: m, h => by
    simp only [List.length_cons, List.take_succ_cons, List.cons.injEq] at h
    simp [lcp, h.1, lcp_all h.2]
theorem BytesAre.take : ∀ {vs : List Value} {ls : List (List UInt8)} (i : Nat), BytesAre vs ls → BytesAre (vs.take i) (ls.take i)
  | _, _, 0, _ => by simpa using BytesAre.nil
  | _, _, i + 1, .nil => by simpa using BytesAre.nil
  | _, _, i + 1, .cons e r => by simpa using BytesAre.cons e (r.take i)
section
variable {prog : Program} {w : World} {A : Around} {E : Value → Shared → Prop} {s : Shared} {env : Env}
theorem isList_keepB {h h' : Heap} {T : Addr} {its : Array Value} {W : List Addr} (x : h.IsList T its) (k : KeepB W h h') (hT : T ∉ W) : h'.IsList T its := by obtain ⟨o, e, r⟩ := x; exact ⟨o, k _ _ hT e, r⟩
theorem store_F {h₀ : Heap} {L : Addr} {m : Str → Option Value} {x : Str} {v : Value} {Q : Unit → Shared → Prop} (F : Fr h₀ L s.heap m) (hLe : env.locals = L)
    (h : ∀ h' tk, Fr h₀ L h' (fun y => if y = x then some v else m y) → KeepB [L] s.heap h' → Q () { s with heap := h', toks := tk })
    (hk : env.kindOf x = some .local := by rfl) (hp : (env.scope.kind == .class || (env.scope.kind == .module && env.locals != env.globals)) = false := by rfl) : wpAny (model prog w) A (storeName env x v) Q E s := by
  subst hLe
  refine wpAny_storeName_local hk F.ns (fun h' hn' hs' => ?_) hp
  replace hs' : Heap.SameBut env.locals s.heap h' := hs'
  exact h h' _ ⟨hn', fun b o e => hs'.extBut b o (Nat.ne_of_lt (Nat.lt_of_lt_of_le (Heap.lt_size e) F.above)) (F.keep b o e), F.above⟩ fun b o nb e => hs'.extBut b o (fun q => nb (by rw [q]; exact List.mem_singleton_self _)) e
theorem list_ne {h : Heap} {L T : Addr} {m : Str → Option Value} {its : Array Value} (hn : h.Ns L m) (hT : h.IsList T its) : T ≠ L := fun q => by
  obtain ⟨o, e, hc, n, hd⟩ := hT
  obtain ⟨o2, es, n2, e2, hd2, _⟩ := hn
  rw [q, e2] at e; cases e; rw [hd] at hd2; cases hd2
theorem ListsAre.keepB {h h' : Heap} {L : Addr} {m : Str → Option Value} (k : KeepB [L] h h') (hn : h.Ns L m) : ∀ {vs : List Value} {ls : List (List (List UInt8))}, ListsAre h vs ls → ListsAre h' vs ls
  | _, _, .nil => .nil
  | _, _, .cons x r => by obtain ⟨T, us, e, hl, hu⟩ := x; exact .cons ⟨T, us, e, isList_keepB hl k (fun q => list_ne hn hl (List.mem_singleton.mp q)), hu⟩ (r.keepB k hn)
theorem ItemAt.keepB {h h' : Heap} {L : Addr} {m : Str → Option Value} {v : Value} {l : List (List UInt8)} (k : KeepB [L] h h') (hn : h.Ns L m) (x : ItemAt h v l) : ItemAt h' v l := by
  obtain ⟨T, us, e, hl, hu⟩ := x; exact ⟨T, us, e, isList_keepB hl k (fun q => list_ne hn hl (List.mem_singleton.mp q)), hu⟩
theorem ListsAre.items {h : Heap} : ∀ {vs : List Value} {ls : List (List (List UInt8))}, ListsAre h vs ls → (vs = [] ↔ ls = [])
  | _, _, .nil => by simp
  | _, _, .cons _ _ => by simp
/-- for i, c in enumerate(s1): if c != s2[i]: common = s1[:i]; break -/
theorem loop_stmt {iter : Expr} {i c s1 s2 cm : Str} {pi pv pt pos q1 q2 q3 q4 q5 q6 q7 q8 q9 q10 q11 q12 q13 : Pos} {x1} {S1 S2 : Addr} {us1 us2 : List Value} {l1 l2 : List (List UInt8)} {h₀ : Heap} {L : Addr} {m : Str → Option Value} {Q : Flow → Shared → Prop}
    (F₀ : Fr h₀ L s.heap m) (hLe : env.locals = L) (hh : A.handled = none) (h1 : s.heap.IsList S1 us1.toArray) (h2 : s.heap.IsList S2 us2.toArray) (hu1 : BytesAre us1 l1) (hu2 : BytesAre us2 l2) (hn : us1.length ≤ 100000)
    (m1 : m s1 = some (.ref S1)) (m2 : m s2 = some (.ref S2)) (m3 : m cm = some (.ref S1)) (n1 : s1 ≠ i ∧ s1 ≠ c) (n2 : s2 ≠ i ∧ s2 ≠ c) (n3 : cm ≠ i ∧ cm ≠ c) (n4 : i ≠ c)
    (hidx : ∀ k, k < l1.length → l1.take k = l2.take k → k < l2.length)
    (hsrc : wpAny (model prog w) A (eval iter env) (fun xval s₁ => ∃ e it, xval = .ref e ∧ s.heap.get? e = none ∧ s.heap.get? it = none ∧ e ≠ it ∧ Keeps s s₁ ∧ IsEnum s₁.heap e it 0 .none ∧ s₁.heap.IsListIter it S1 0) E s)
    (hQ : ∀ h tk m' T ts, Fr h₀ L h m' → m' cm = some (.ref T) → h.IsList T (List.toArray ts) → BytesAre ts (lcp l1 l2) → (∀ y, y ≠ i → y ≠ c → y ≠ cm → m' y = m y) → KeepB [L] s.heap h → Q .next { s with heap := h, toks := tk })
    (hxi : env.kindOf i = some .local := by rfl) (hxv : env.kindOf c = some .local := by rfl) (hp : (env.scope.kind == .class || (env.scope.kind == .module && env.locals != env.globals)) = false := by rfl)
    (hs : ∀ x, foldedSetIterable iter env x = pure x := by intro _; rfl)
    (hk : env.scope.kind = .function := by rfl) (k1 : env.kindOf s1 = some .local := by rfl) (k2 : env.kindOf s2 = some .local := by rfl) (k3 : env.kindOf cm = some .local := by rfl)
    (d1 : (s1 == ("__debug__" : Str)) = false := by decide +kernel) (d2 : (s2 == ("__debug__" : Str)) = false := by decide +kernel) (d3 : (c == ("__debug__" : Str)) = false := by decide +kernel) (d4 : (i == ("__debug__" : Str)) = false := by decide +kernel)
    (hsw : swapsWith (.Subscript (.Name s1 q6) (.Slice none (some (.Name i q7)) none q8) q9) (some (.Name cm q10)) q11.line env = pure false := by rfl)
    (ht1 : ∀ o r, letTemporaryGo (.Name s1 q6) o r = pure () := by intro _ _; rfl) (ht2 : ∀ o r, letTemporaryGo (.Name s2 q2) o r = pure () := by intro _ _; rfl) (hm : behindInMarks .NotEq (.Subscript (.Name s2 q2) (.Name i q3) q4) = false := by with_unfolding_all rfl) :
    wpAny (model prog w) A (exec (.For (.Tuple [.Name i pi, .Name c pv] x1 pt) iter [.If (.Compare (.Name c q1) [.NotEq] [.Subscript (.Name s2 q2) (.Name i q3) q4] q5) [.Assign [.Name cm q10] (.Subscript (.Name s1 q6) (.Slice none (some (.Name i q7)) none q8) q9) q11, .Break q12] [] q13] [] pos) env) Q E s := by
  have hL0 : ∃ o, s.heap.get? L = some o := by obtain ⟨o, _, _, ho, _⟩ := F₀.ns; exact ⟨o, ho⟩
  have neL : ∀ {T : Addr} {its : Array Value}, s.heap.IsList T its → T ≠ L := fun hT q => by
    obtain ⟨o, e, hc, n, hd⟩ := hT
    obtain ⟨o2, es, n2, e2, hd2, _⟩ := F₀.ns
    rw [q, e2] at e; cases e; rw [hd] at hd2; cases hd2
  subst hLe
  refine for_enum (nw₀ := []) F₀ (fun _ hp => nomatch hp) rfl hh h1 (neL h1) (fun q => nomatch q) (fun _ hb => nomatch hb) (W := [])
    (fun k m₁ nw => nw = [] ∧ (∀ y, y ≠ i → y ≠ c → m₁ y = m y) ∧ l1.take k = l2.take k) hsrc ⟨rfl, fun _ _ _ => rfl, rfl⟩ (fun k v u h tk m₁ nw hv hJ F₁ _ hkb => ?_) (fun h tk m' nw hJ F₁ _ hkb => ?_) hxi hxv hp hs
  · obtain ⟨rfl, hmm, htk⟩ := hJ
    have hv' : us1[k]? = some v := by simpa using hv
    obtain ⟨b, t, rfl, hb⟩ := hu1.at hv'
    have hk1 : k < l1.length := (List.getElem?_eq_some_iff.mp hb).1
    have hk2 := hidx k hk1 htk
    obtain ⟨b2, t2, hb2, hl2⟩ := hu2.get (i := k) (by rw [hu2.length]; exact hk2)
    have g1 : h.IsList S1 us1.toArray := isList_keepB h1 hkb (fun q => neL h1 (List.mem_singleton.mp q))
    have g2 : h.IsList S2 us2.toArray := isList_keepB h2 hkb (fun q => neL h2 (List.mem_singleton.mp q))
    refine wpAny_execs_cons (wpAny_If (wpAny_isTrue_Compare1 (ld_local F₁.ns (v := .bytes b t) (by simp) ?_ hk hxv d3) hm))
    refine wpAny_Subscript_Name_late (ld_local F₁.ns (v := .ref S2) (by simp [n2.1, n2.2, hmm _ n2.1 n2.2, m2]) ?_ hk k2 d2) ht2
    refine ld_local F₁.ns (v := .int k u) (by simp [n4]) ?_ hk hxi d4
    refine ⟨"list", _, list_getitem_lookup, g2.typeIs, wpAny_getItem_list g2 (Int.natCast_nonneg k) ?_ (x := .bytes b2 t2) (by simpa using hb2) ?_⟩
    · have : k < us1.length := by rw [hu1.length]; exact hk1
      have h9 : (2 : Int) ^ 63 = 9223372036854775808 := by decide
      (first | lia | omega)
    refine ne_bytes (wpAny_truthy_bool ?_)
    by_cases hq : b.toList = b2.toList
    · have e : (b.toList != b2.toList) = false := by simp [hq]
      rw [e]
      simp only [Bool.false_eq_true, if_false]
      refine wpAny_execs_nil (wpAny_execs_nil ?_)
      refine ⟨h, tk, _, [], rfl, F₁, ⟨rfl, fun y y1 y2 => ?_, ?_⟩, fun _ _ _ e => e, fun _ hp => nomatch hp⟩
      · simp [y1, y2]; exact hmm y y1 y2
      · rw [List.take_add_one, List.take_add_one, htk, hb, hl2, hq]
    · have e : (b.toList != b2.toList) = true := by simpa using hq
      rw [e]
      simp only [if_true]
      refine wpAny_execs_cons (wpAny_Assign_Name (wpAny_Subscript_list_slice (ld_local F₁.ns (v := .ref S1) (by simp [n1.1, n1.2, hmm _ n1.1 n1.2, m1]) ?_ hk k1 d1) ht1) hsw)
      refine wpAny_evalPart_none (wpAny_evalPart_some (ld_local F₁.ns (v := .int k u) (by simp [n4]) ?_ hk hxi d4))
      refine ⟨S1, _, none, some (k : Int), rfl, g1, by rw [List.size_toArray, sizeLine_eq]; (first | lia | omega), .none, .int _ _, ?_⟩
      rw [slicePick_upto']
      have kp : Keep h ((h.push { cls := .type "slice", data := .fields #[.none, .int k u, .none] }).push { cls := .type "list", data := .seq (us1.toArray.toList.take k).toArray }) := fun b o e => Heap.get?_push_of_some _ (Heap.get?_push_of_some _ e)
      have sz : (h.push { cls := .type "slice", data := .fields #[.none, .int k u, .none] }).objs.size = h.objs.size + 1 := Heap.size_push ..
      have gT : ((h.push { cls := .type "slice", data := .fields #[.none, .int k u, .none] }).push { cls := .type "list", data := .seq (us1.toArray.toList.take k).toArray }).IsList (h.objs.size + 1) (us1.take k).toArray := by
        refine ⟨{ cls := .type "list", data := .seq (us1.take k).toArray }, ?_, rfl, _, rfl⟩
        rw [← sz]
        exact Heap.get?_push_size _ rfl
      have F₂ := F₁.keeps kp
      have hTL : h.objs.size + 1 ≠ env.locals := Nat.ne_of_gt (Nat.lt_succ_of_lt F₁.ns.lt)
      refine wpAny_storeName_local k3 F₂.ns (fun h' hn' hs' => ?_) hp
      refine wpAny_execs_cons (wpAny_Break ?_)
      replace hs' : Heap.SameBut env.locals _ h' := hs'
      show Q .next _
      refine hQ h' _ _ (h.objs.size + 1) (us1.take k) ⟨hn', fun b o e => hs'.extBut b o (Nat.ne_of_lt (Nat.lt_of_lt_of_le (Heap.lt_size e) F₀.above)) (F₂.keep b o e), F₀.above⟩ (by simp) (gT.extBut hs'.extBut hTL) ?_ (fun y y1 y2 y3 => ?_) (fun b o nb e => hs'.extBut b o (fun q => nb (by rw [q]; exact List.mem_singleton_self _)) (kp _ _ (hkb b o nb e)))
      · rw [lcp_at htk hb hl2 hq]; exact hu1.take k
      · simp [y1, y2, y3]; exact hmm y y1 y2
  · obtain ⟨rfl, hmm, htk⟩ := hJ
    have e : lcp l1 l2 = l1 := by
      rw [List.size_toArray, hu1.length, List.take_length] at htk
      exact lcp_all htk
    exact hQ h tk m' S1 us1 F₁ (by rw [hmm _ n3.1 n3.2, m3]) (isList_keepB h1 hkb (fun q => neL h1 (List.mem_singleton.mp q))) (by rw [e]; exact hu1) (fun y y1 y2 _ => hmm y y1 y2) hkb
end
end Mine
end
theorem Mine.calmP3 : True := by w_top off; trivial
section
open PySem PySem.W PyProof.Rows PySem.Calls
open PySem.Builtin
set_option autoImplicit false
set_option linter.unusedSectionVars false
namespace Mine
theorem way_len {ds : List Nat} (h : ds.length ≤ 4) : (way ds).length ≤ 40 := by
  match ds, h with
  | [], _ => decide
  | [a], _ => simp [way, words, wordsP, letters, List.intercalate]
  | [a, b], _ => simp [way, words, wordsP, letters, List.intercalate]
  | [a, b, c], _ => simp [way, words, wordsP, letters, List.intercalate]
  | [a, b, c, d], _ => simp [way, words, wordsP, letters, List.intercalate]
  | _ :: _ :: _ :: _ :: _ :: _, h => simp at h
theorem words_size {ds : List Nat} (h : ds.length ≤ 4) : ((words ds).map List.length).sum + (words ds).length ≤ 40 := by
  match ds, h with
  | [], _ => decide
  | [a], _ => simp [words, wordsP, letters]
  | [a, b], _ => simp [words, wordsP, letters]
  | [a, b, c], _ => simp [words, wordsP, letters]
  | [a, b, c, d], _ => simp [words, wordsP, letters]
  | _ :: _ :: _ :: _ :: _ :: _, h => simp at h
/-- four figures at most, below sixteen -/
def Num (ds : List Nat) : Prop := Dig ds ∧ ds.length ≤ 4
theorem num_glb {x : List Nat} {r : List (List Nat)} (h : ∀ y ∈ x :: r, Num y) : Num (glb x r) := by
  refine ⟨dig_glb fun y hy => (h y hy).1, ?_⟩
  exact Nat.le_trans (glb_prefix x r x (List.mem_cons_self ..)).length_le (h x (List.mem_cons_self ..)).2
theorem way_sizes {l : List (List Nat)} (h : ∀ y ∈ l, Num y) : ∀ b ∈ l.map way, b.length ≤ 40 := by
  intro b hb
  obtain ⟨y, hy, rfl⟩ := List.mem_map.mp hb
  exact way_len (h y hy).2
theorem split_sizes {l : List (List Nat)} (h : ∀ y ∈ l, Num y) : ∀ b ∈ (l.map way).map splitL, b.length ≤ 2000 ∧ ∀ c ∈ b, c.length ≤ 2000 := by
  intro b hb
  obtain ⟨y, hy, rfl⟩ := List.mem_map.mp hb
  have h1 := way_sizes h y hy
  have h2 := splitL_len y
  exact ⟨by (first | lia | omega), fun c hc => by have := h2.2 c hc; (first | lia | omega)⟩
theorem comps_ways {l : List (List Nat)} (h : ∀ y ∈ l, Num y) : ((l.map way).map splitL).map (fun l => l.filter fun c => decide (c ≠ [] ∧ c ≠ [46])) = l.map words := by
  rw [List.map_map, List.map_map]
  apply List.map_congr_left
  intro y hy
  exact comps_way (h y hy).1
theorem min_max_ways {x : List Nat} {r : List (List Nat)} (h : ∀ y ∈ x :: r, Num y) : lcp (minL ((x :: r).map words)) (maxL ((x :: r).map words)) = words (glb x r) := by
  rw [List.map_cons, lcp_minmax, glb_words fun y hy => (h y hy).1]
theorem min_len {x : List Nat} {r : List (List Nat)} (h : ∀ y ∈ x :: r, Num y) : (minL (words x :: r.map words)).length ≤ 40 := by
  have hm : minL (words x :: r.map words) ∈ (x :: r).map words := by rw [minL_best]; exact best_mem _ _
  obtain ⟨y, hy, e⟩ := List.mem_map.mp hm
  rw [← e]
  have := words_size (h y hy).2
  (first | lia | omega)
theorem way_head {l : List (List Nat)} {b : List UInt8} (hb : b ∈ l.map way) : [47] <+: b := by
  obtain ⟨y, _, rfl⟩ := List.mem_map.mp hb
  exact ⟨_, rfl⟩
end Mine
end
theorem Mine.calmCP : True := by w_top off; trivial
section
open PySem PySem.W PyProof.Rows PySem.Calls
open PySem.Builtin
set_option maxRecDepth 100000
set_option maxHeartbeats 4000000
namespace Mine
section
variable {w : World} {s : Shared} {A : Around} {Q E : Value → Shared → Prop}
theorem cp {l : Addr} {vs : List Value} {x : List Nat} {r : List (List Nat)} (O : Ok w s.heap) (rm : Room A 20) (hl : s.heap.IsList l vs.toArray) (hv : BytesAre vs ((x :: r).map way)) (hd : ∀ y ∈ x :: r, Num y) (hz : r.length ≤ 900)
    (h : ∀ b t h' tk, b.toList = way (glb x r) → Keep s.heap h' → Q (.bytes b t) { s with heap := h', toks := tk }) :
    wpAny (model PySem.Challenge.rw_pd0134_01.row.prog w) A (call (.ref 120) [.ref l]) Q E s := by
  obtain ⟨p, loose, mean, mg, mb, T⟩ := O.T
  have hvl : vs.length ≤ 1000 := by rw [hv.length]; simp; (first | lia | omega)
  have hlen : 0 < vs.length := by rw [hv.length]; simp
  have hne : vs ≠ [] := List.length_pos_iff.mp hlen
  refine enterC (n := 19) O rm (by k_is) (by k_is) (BindsTo.of_eq rfl) rfl (by decide +kernel) ?_
  intro dp un L h₁ tk cells hdp hu F N Y X
  k_cells Y
  (try simp only [List.cons_append, List.nil_append] at N)
  w_strict (iterate 14 walk1)
  have O1 : Ok w h₁ := O.keeps F.keep
  have hl1 : h₁.IsList l vs.toArray := by obtain ⟨o, ho, r⟩ := hl; exact ⟨o, F.keep _ _ ho, r⟩
  refine call_map hl1 ?_
  w_strict (iterate 1 walk1)
  refine tuple_of_map O1 ⟨rfl, by show dp + 11 ≤ 900; (first | lia | omega), by show un + 20 * 11 ≤ 9000; (first | lia | omega)⟩ hl1 hv (by rw [sizeLine_eq]; (first | lia | omega)) rfl ?_
  intro Tp h2 tk2 hT hTt hk2
  have hTs : s.heap.get? Tp = none := by
    cases e : s.heap.get? Tp with
    | none => rfl
    | some o => rw [F.keep _ _ e] at hT; cases hT
  have hTL : Tp ≠ L := fun e => by obtain ⟨o, _, _, ho, _⟩ := F.ns; rw [← e, hT] at ho; cases ho
  have F2 := F.keeps hk2
  have N2 := News.grown N hk2
  have N3 : News s.heap L h2 ((Tp, tupObj vs.toArray) :: _) := List.forall_mem_cons.mpr ⟨⟨hTt, hTL, hTs⟩, N2⟩
  clear F N N2
  w_strict (k_steps)
  refine ktl_truthyK (by k_asm) (.head _) hvl ?_
  have hem : vs.isEmpty = false := by cases vs with | nil => exact absurd rfl hne | cons _ _ => rfl
  rw [hem]
  w_strict (k_steps)
  obtain ⟨b0, t0, hx0, _⟩ := hv.get (i := 0) hlen
  refine item_tupleT (j := 0) (x := .bytes b0 t0) (l := vs) ⟨_, ((by k_asm : News _ _ _ _) _ (.head _)).1, rfl, _, rfl⟩ (by decide) (by decide) (by simp [seqIndex?]; (first | lia | omega)) hx0 ?_
  w_strict (iterate 16 walk1)
  refine wpAny_Try_except ?_
  refine hideQE fun TT TE hTT => ?_
  w_strict (iterate 1 walk1)
  refine wpAny_execs_cons ?_
  rename_i hsepd hh oc FF NN hcurd
  have sepC : hh.IsCell (L + 1) (some (.bytes #[47] _)) := ⟨_, (NN _ (.tail _ (.tail _ (.head _)))).1, hsepd⟩
  have curC : hh.IsCell (L + 1 + 1) (some (.bytes #[46] _)) := ⟨_, (NN _ (.tail _ (.head _))).1, hcurd⟩
  have tupT : hh.IsTuple Tp vs.toArray := ⟨_, (NN _ (.head _)).1, rfl, _, rfl⟩
  have cellL : ∀ {h h' : Heap} {c : Addr} {v : Option Value}, KeepB [L] h h' → c ≠ L → h.IsCell c v → h'.IsCell c v := fun k hc x => by obtain ⟨o, e, r⟩ := x; exact ⟨o, k _ _ (fun q => hc (List.mem_singleton.mp q)) e, r⟩
  have n1 : L + 1 ≠ L := Nat.succ_ne_self L
  have n2 : L + 1 + 1 ≠ L := Nat.ne_of_gt (Nat.lt_succ_of_lt (Nat.lt_succ_self L))
  refine split_stmt (vs := vs) (ls := (x :: r).map way) FF rfl (by rfl) tupT rfl hv (fun b hb => Nat.le_trans (way_sizes hd b hb) (by decide)) hvl sepC ?_
  intro D1 h3 tk3 ys1 hD1 hl1' hD1n F3 k3
  have sepC3 := cellL k3 n1 sepC
  have curC3 := cellL k3 n2 curC
  have tupT3 : h3.IsTuple Tp vs.toArray := by obtain ⟨o, e, r⟩ := tupT; exact ⟨o, k3 _ _ (fun q => hTL (List.mem_singleton.mp q)) e, r⟩
  refine wpAny_execs_cons (wpAny_Try_except ?_)
  refine hideQE fun T2 E2 hT2 => ?_
  refine wpAny_execs_cons (Assign_Tuple (sc_true (n := vs.toArray.size) (P := fun i v => vs.toArray[i]? = some v) (ld_local F3.ns (v := .ref Tp) (by rfl) ⟨Keeps.refl _, src_tuple rfl tupT3⟩) (by rw [List.size_toArray]; exact hlen) ?_ ?_) (by rfl) (by rfl))
  · intro C i v s₃ m₃ E' hP hns hmx hk3' _
    obtain ⟨b, t, rfl, hlb⟩ := hv.at (by simpa using hP : vs[i]? = some v)
    refine meth1 slot_starts ty_starts (ld_local hns hmx ⟨b, t, rfl, ?_⟩)
    obtain ⟨oc', e1, e2⟩ := sepC3
    refine ld_cell (c := L + 1) ⟨oc', hk3' _ _ e1, e2⟩ ?_
    refine call_starts fun rr hr => ?_
    have : rr = true := hr.mpr (way_head (List.mem_of_getElem? hlb))
    rw [this]
    exact ⟨rfl, Keeps.refl _⟩
  intro D2 ep h4 tk4 hD2n hD2 k4
  refine unpack_true rfl hD2 fun h5 k5 => ?_
  have F5 := (F3.keeps k4).keeps k5
  refine wpAny_assign_Name (wpAny_storeName_local (by rfl) F5.ns (fun h6 hn6 hs6 => ?_) (by rfl))
  replace hs6 : Heap.SameBut L h5 h6 := hs6
  have F6 : Fr s.heap L h6 _ := ⟨hn6, fun b o e => hs6.extBut b o (Nat.ne_of_lt (Nat.lt_of_lt_of_le (Heap.lt_size e) FF.above)) (F5.keep b o e), FF.above⟩
  have k6 : KeepB [L] h3 h6 := fun b o nb e => hs6.extBut b o (fun q => nb (by rw [q]; exact List.mem_singleton_self _)) (k5 _ _ (k4 _ _ e))
  refine wpAny_execs_nil (hT2 _ _ (wpAny_execs_nil ?_))
  clear hT2
  have D1L : D1 ≠ L := fun q => by obtain ⟨o, _, _, ho, _⟩ := FF.ns; rw [q] at hD1n; rw [show hh.get? L = none from hD1n] at ho; cases ho
  have hl6 : h6.IsList D1 ys1.toList.toArray := by rw [Array.toArray_toList]; exact isList_keepB hD1 k6 (fun q => D1L (List.mem_singleton.mp q))
  have hlA6 := hl1'.keepB k6 F3.ns
  have sepC6 := cellL k6 n1 sepC3
  have curC6 := cellL k6 n2 curC3
  have ysl : ys1.toList.length = vs.length := by rw [← hl1'.length, List.length_map, ← hv.length]
  show wpAny _ _ (execs _ _) _ _ _
  refine wpAny_execs_cons (filter_stmt (xs := ys1.toList) F6 rfl (by rfl) hl6 rfl hlA6 (by rw [ysl]; exact hvl) (split_sizes hd) curC6 ?_)
  intro D3 h7 tk7 ys2 hD3 hl7 hD3n F7 k7
  rw [comps_ways hd] at hl7
  have sepC7 := cellL k7 n1 sepC6
  have hD3' : h7.IsList D3 ys2.toList.toArray := by rw [Array.toArray_toList]; exact hD3
  have ne7 : ys2.toList ≠ [] := fun q => by have := (hl7.items.mp q); simp at this
  w_strict (iterate 8 walk1)
  refine call_min rfl (by show un + 2 < cLine; unfold cLine; (first | lia | omega)) hD3' hl7 ne7 ?_
  intro S1 h8 tk8 hi8 k8
  have hi8 := hi8
  obtain ⟨T1, us1, rfl, hT1, hu1⟩ := hi8
  have F8 := F7.keeps k8
  refine store_F F8 rfl ?_
  intro h9 tk9 F9 k9
  have hT1' : h9.IsList T1 us1.toArray := isList_keepB (isList_keepB hT1 (k8.but [L]) (fun q => list_ne F7.ns hT1 (List.mem_singleton.mp q))) k9 (fun q => list_ne F7.ns hT1 (List.mem_singleton.mp q))
  have k79 : KeepB [L] h7 h9 := (k8.but [L]).trans k9
  have hD9 := isList_keepB hD3' k79 (fun q => list_ne F7.ns hD3' (List.mem_singleton.mp q))
  have hl9 := hl7.keepB k79 F7.ns
  have sepC9 := cellL k79 n1 sepC7
  w_strict (iterate 8 walk1)
  refine call_max rfl (by show un + 2 < cLine; unfold cLine; (first | lia | omega)) hD9 hl9 ne7 ?_
  intro S2 h10 tk10 hi10 k10
  obtain ⟨T2, us2, rfl, hT2, hu2⟩ := hi10
  have F10 := F9.keeps k10
  refine store_F F10 rfl ?_
  intro h11 tk11 F11 k11
  have k9b : KeepB [L] h9 h11 := (k10.but [L]).trans k11
  have gT1 := isList_keepB hT1' k9b (fun q => list_ne F9.ns hT1' (List.mem_singleton.mp q))
  have gT2 := isList_keepB hT2 k9b (fun q => list_ne F9.ns hT2 (List.mem_singleton.mp q))
  have sepC11 := cellL k9b n1 sepC9
  refine wpAny_execs_cons (wpAny_Assign_Name (ld_local F11.ns (v := .ref T1) (by rfl) ?_))
  refine store_F F11 rfl ?_
  intro h12 tk12 F12 k12
  have jT1 := isList_keepB gT1 k12 (fun q => list_ne F11.ns gT1 (List.mem_singleton.mp q))
  have jT2 := isList_keepB gT2 k12 (fun q => list_ne F11.ns gT2 (List.mem_singleton.mp q))
  have sepC12 := cellL k12 n1 sepC11
  have hcs := lcp_minmax (words x) (r.map words)
  have hgw := glb_words (fun y hy => (hd y hy).1)
  rw [List.map_cons] at hu1 hu2
  have hsz1 := words_size (num_glb hd).2
  have hub : us1.length ≤ 100000 := by rw [hu1.length]; exact Nat.le_trans (min_len hd) (by decide)
  refine wpAny_execs_cons (loop_stmt F12 rfl rfl jT1 jT2 hu1 hu2 hub (by rfl) (by rfl) (by rfl) (by decide) (by decide) (by decide) (by decide) (min_max_idx (words x) (r.map words)) ?_ ?_)
  · w_strict (iterate 6 walk1)
    refine call_enumerate_list jT1 ?_
    intro h13 he hit hsz hk
    exact ⟨_, h12.objs.size, rfl, Heap.get?_none_of_le (Nat.le_succ _), new_none _, Nat.succ_ne_self _, keeps_of hk, he, hit⟩
  intro h13 tk13 m13 T3 ts F13 hm13 hT3 hts hmm k13
  rw [hcs, hgw] at hts
  have sepC13 := cellL k13 n1 sepC12
  show wpAny _ _ (execs _ _) _ _ _
  refine wpAny_execs_cons (wpAny_Assign_Name (wpAny_IfExp (isTrue_plain (ld_local F13.ns (v := .bool true) (by rw [hmm _ (by decide) (by decide) (by decide)]; rfl) (wpAny_truthy_bool ?_)))))
  simp only [if_true]
  refine ld_cell (c := L + 1) sepC13 ?_
  refine store_F F13 rfl ?_
  intro h14 tk14 F14 k14
  have sepC14 := cellL k14 n1 sepC13
  have hT4 := isList_keepB hT3 k14 (fun q => list_ne F13.ns hT3 (List.mem_singleton.mp q))
  refine wpAny_execs_cons (wpAny_Return_some (wpAny_BinOp (ld_local F14.ns (v := .bytes #[47] _) (by rfl) ?_)))
  refine meth1 slot_join ty_join (ld_cell (c := L + 1) sepC14 ⟨_, _, rfl, ?_⟩)
  refine ld_local F14.ns (v := .ref T3) (by rw [if_neg (by decide)]; exact hm13) ?_
  refine call_joinA hT4 hts (by (first | lia | omega)) ?_
  intro b t' tk15 hb
  have hbl : b.size ≤ 100 := by rw [← Array.length_toList, hb]; have := inter_len (words (glb x r)); (first | lia | omega)
  refine KBy.add_bytes (by show 1 + b.size ≤ 16777216; (first | lia | omega)) fun t'' k' => ?_
  refine hTT _ _ (h _ _ _ _ ?_ F14.keep)
  rw [Array.toList_append, hb]; rfl
end
end Mine
end
theorem Mine.calmP4 : True := by w_top off; trivial
section
set_option autoImplicit false
set_option linter.unusedVariables false
namespace Mine
/-- the places of the figures of n, the first one first -/
def keys (n : Nat) : List Nat := [3, 2, 1, 0].filter fun k => decide (16 ^ k ≤ n)
def digs (n : Nat) : List Nat := (keys n).map fun k => n / 16 ^ k % 16
theorem keys_0 : keys 0 = [] := by decide
theorem keys_1 {n : Nat} (h : 1 ≤ n) (h2 : n < 16) : keys n = [0] := by
  have a : ¬ 4096 ≤ n := by (first | lia | omega)
  have b : ¬ 256 ≤ n := by (first | lia | omega)
  have c : ¬ 16 ≤ n := by (first | lia | omega)
  simp [keys, List.filter, a, b, c, h]
theorem keys_2 {n : Nat} (h : 16 ≤ n) (h2 : n < 256) : keys n = [1, 0] := by
  have a : ¬ 4096 ≤ n := by (first | lia | omega)
  have b : ¬ 256 ≤ n := by (first | lia | omega)
  have c : 1 ≤ n := by (first | lia | omega)
  simp [keys, List.filter, a, b, c, h]
theorem keys_3 {n : Nat} (h : 256 ≤ n) (h2 : n < 4096) : keys n = [2, 1, 0] := by
  have a : ¬ 4096 ≤ n := by (first | lia | omega)
  have b : 16 ≤ n := by (first | lia | omega)
  have c : 1 ≤ n := by (first | lia | omega)
  simp [keys, List.filter, a, b, c, h]
theorem keys_4 {n : Nat} (h : 4096 ≤ n) : keys n = [3, 2, 1, 0] := by
  have a : 256 ≤ n := by (first | lia | omega)
  have b : 16 ≤ n := by (first | lia | omega)
  have c : 1 ≤ n := by (first | lia | omega)
  simp [keys, List.filter, a, b, c, h]
theorem digs_0 : digs 0 = [] := by decide
theorem digs_1 {n : Nat} (h : 1 ≤ n) (h2 : n < 16) : digs n = [n] := by
  unfold digs; rw [keys_1 h h2]; simp; (first | lia | omega)
theorem digs_2 {n : Nat} (h : 16 ≤ n) (h2 : n < 256) : digs n = [n / 16, n % 16] := by
  unfold digs; rw [keys_2 h h2]; simp; (first | lia | omega)
theorem digs_3 {n : Nat} (h : 256 ≤ n) (h2 : n < 4096) : digs n = [n / 256, n / 16 % 16, n % 16] := by
  unfold digs; rw [keys_3 h h2]; simp; (first | lia | omega)
theorem digs_4 {n : Nat} (h : 4096 ≤ n) (h2 : n < 65536) : digs n = [n / 4096, n / 256 % 16, n / 16 % 16, n % 16] := by
  unfold digs; rw [keys_4 h]; simp; (first | lia | omega)
theorem cases5 {P : Nat → Prop} (n : Nat) (h : n < 65536) (a : n = 0 → P n) (b : 1 ≤ n → n < 16 → P n) (c : 16 ≤ n → n < 256 → P n) (d : 256 ≤ n → n < 4096 → P n) (e : 4096 ≤ n → n < 65536 → P n) : P n := by
  by_cases h0 : n = 0
  · exact a h0
  by_cases h1 : n < 16
  · exact b (by (first | lia | omega)) h1
  by_cases h2 : n < 256
  · exact c (by (first | lia | omega)) h2
  by_cases h3 : n < 4096
  · exact d (by (first | lia | omega)) h3
  exact e (by (first | lia | omega)) h
theorem num_digs {n : Nat} (h : n < 65536) : Num (digs n) := by
  constructor
  · intro d hd
    obtain ⟨k, _, rfl⟩ := List.mem_map.mp hd
    exact Nat.mod_lt _ (by decide)
  · unfold digs keys
    rw [List.length_map]
    exact List.length_filter_le _ _
/-- the number of a list of figures -/
def val (ds : List Nat) : Nat := ds.foldl (fun a d => 16 * a + d) 0
theorem val_digs {n : Nat} (h : n < 65536) : val (digs n) = n := by
  have q1 : n / 256 = n / 16 / 16 := (Nat.div_div_eq_div_mul n 16 16).symm
  have q2 : n / 4096 = n / 256 / 16 := (Nat.div_div_eq_div_mul n 256 16).symm
  refine cases5 (P := fun n => n / 256 = n / 16 / 16 → n / 4096 = n / 256 / 16 → val (digs n) = n) n h ?_ ?_ ?_ ?_ ?_ q1 q2
  · rintro rfl _ _; decide
  · intro a b _ _; rw [digs_1 a b]; exact Nat.zero_add _
  · intro a b _ _; rw [digs_2 a b]; simp only [val, List.foldl, Nat.mul_zero, Nat.zero_add, Nat.div_add_mod]
  · intro a b q1 _; rw [digs_3 a b, q1]; simp only [val, List.foldl, Nat.mul_zero, Nat.zero_add, Nat.div_add_mod]
  · intro a b q1 q2; rw [digs_4 a b, q2, q1]; simp only [val, List.foldl, Nat.mul_zero, Nat.zero_add, Nat.div_add_mod]
theorem digs_inj {a b : Nat} (ha : a < 65536) (hb : b < 65536) (h : digs a = digs b) : a = b := by rw [← val_digs ha, ← val_digs hb, h]
/-- the words of a number, from its first figure on -/
theorem dlo {n m k : Nat} (hm : 0 < m) (a : k * m ≤ n) : k ≤ n / m := (Nat.le_div_iff_mul_le hm).mpr a
theorem dhi {n m k : Nat} (b : n < m * k) : n / m < k := Nat.div_lt_of_lt_mul b
theorem words_digs {n : Nat} (h : n < 65536) : words (digs n) = (keys n).map fun k => letters (digs (n / 16 ^ k)) := by
  refine cases5 (P := fun n => words (digs n) = (keys n).map fun k => letters (digs (n / 16 ^ k))) n h ?_ ?_ ?_ ?_ ?_
  · rintro rfl; decide
  · intro a b
    rw [keys_1 a b, digs_1 a b]
    simp only [List.map, Nat.pow_zero, Nat.div_one]
    rw [digs_1 a b]; rfl
  · intro a b
    rw [keys_2 a b, digs_2 a b]
    simp only [List.map, Nat.pow_zero, Nat.div_one, Nat.pow_one]
    rw [digs_2 a b, digs_1 (n := n / 16) (dlo (by decide) a) (dhi b)]; rfl
  · intro a b
    rw [keys_3 a b, digs_3 a b]
    have e2 : 16 ^ 2 = 256 := rfl
    simp only [List.map, Nat.pow_zero, Nat.div_one, Nat.pow_one, e2]
    rw [digs_3 a b, digs_2 (n := n / 16) (dlo (by decide) a) (dhi b), digs_1 (n := n / 256) (dlo (by decide) (Nat.le_trans (by decide) a)) (dhi b)]
    have q1 : n / 16 / 16 = n / 256 := Nat.div_div_eq_div_mul n 16 16
    rw [q1]; rfl
  · intro a b
    rw [keys_4 a, digs_4 a b]
    have e2 : 16 ^ 2 = 256 := rfl
    have e3 : 16 ^ 3 = 4096 := rfl
    simp only [List.map, Nat.pow_zero, Nat.div_one, Nat.pow_one, e2, e3]
    rw [digs_4 a b, digs_3 (n := n / 16) (dlo (by decide) a) (dhi b), digs_2 (n := n / 256) (dlo (by decide) a) (dhi b), digs_1 (n := n / 4096) (dlo (by decide) (Nat.le_trans (by decide) a)) (dhi b)]
    have q1 : n / 16 / 256 = n / 4096 := Nat.div_div_eq_div_mul n 16 256
    have q2 : n / 16 / 16 = n / 256 := Nat.div_div_eq_div_mul n 16 16
    have q3 : n / 256 / 16 = n / 4096 := Nat.div_div_eq_div_mul n 256 16
    rw [q1, q2, q3]; rfl
/-- one figure more at the end -/
theorem slo {k n f : Nat} (a : k ≤ n) : 16 * k ≤ 16 * n + f := Nat.le_trans (Nat.mul_le_mul_left 16 a) (Nat.le_add_right _ _)
theorem shi {k n f : Nat} (b : n < k) (hf : f < 16) : 16 * n + f < 16 * k := Nat.lt_of_lt_of_le (Nat.add_lt_add_left hf _) (Nat.mul_le_mul_left 16 b)
theorem digs_snoc {n f : Nat} (h : 16 * n + f < 65536) (hf : f < 16) (h0 : 16 * n + f ≠ 0) : digs (16 * n + f) = digs n ++ [f] := by
  have e0 : (16 * n + f) % 16 = f := by rw [Nat.mul_add_mod, Nat.mod_eq_of_lt hf]
  have e1 : (16 * n + f) / 16 = n := by rw [Nat.mul_add_div (by decide), Nat.div_eq_of_lt hf, Nat.add_zero]
  have e2 : (16 * n + f) / 256 = n / 16 := (Nat.div_div_eq_div_mul (16 * n + f) 16 16).symm.trans (congrArg (· / 16) e1)
  have e3 : (16 * n + f) / 4096 = n / 256 := (Nat.div_div_eq_div_mul (16 * n + f) 16 256).symm.trans (congrArg (· / 256) e1)
  have hn : n < 4096 := Nat.lt_of_mul_lt_mul_left (a := 16) (Nat.lt_of_le_of_lt (Nat.le_add_right _ f) h)
  refine cases5 (P := fun m => n = m → digs (16 * n + f) = digs n ++ [f]) n (Nat.lt_trans hn (by decide)) ?_ ?_ ?_ ?_ ?_ rfl
  · rintro rfl _
    rw [Nat.mul_zero, Nat.zero_add] at h0 ⊢
    rw [digs_1 (Nat.pos_of_ne_zero h0) hf, digs_0]; rfl
  · intro a b _; rw [digs_1 a b, digs_2 (slo a) (shi b hf), e1, e0]; rfl
  · intro a b _; rw [digs_2 a b, digs_3 (slo a) (shi b hf), e2, e1, e0]; rfl
  · intro a b _; rw [digs_3 a b, digs_4 (slo a) (shi b hf), e3, e2, e1, e0]; rfl
  · intro a _ _; exact absurd hn (Nat.not_lt.mpr a)
theorem digs_div {n : Nat} (h : n < 65536) (h0 : n ≠ 0) : digs n = digs (n / 16) ++ [n % 16] := by
  have e : 16 * (n / 16) + n % 16 = n := Nat.div_add_mod n 16
  have := digs_snoc (n := n / 16) (f := n % 16) (by rw [e]; exact h) (Nat.mod_lt _ (by decide)) (by rw [e]; exact h0)
  rwa [e] at this
theorem digs_nil {n : Nat} (h : digs n = []) (hn : n < 65536) : n = 0 := by
  have := val_digs hn
  rw [h] at this
  exact this.symm
end Mine
end
theorem Mine.calmW0 : True := by w_top off; trivial
section
open PySem PySem.W PyProof.Rows PySem.Calls
open PySem.Builtin
set_option maxRecDepth 100000
set_option maxHeartbeats 4000000
set_option linter.unusedVariables false
namespace Mine
section
variable {prog : Program} {w : World} {A : Around} {E : Value → Shared → Prop} {s : Shared} {env : Env}
/-- e reads v, as long as h stands -/
def Rd (prog : Program) (w : World) (A : Around) (env : Env) (e : Expr) (v : Value) (h : Heap) : Prop :=
  ∀ (s' : Shared) (Q : Value → Shared → Prop) (E : Value → Shared → Prop), Keep h s'.heap → Q v s' → wpAny (model prog w) A (eval e env) Q E s'
theorem Rd.local {x : Str} {p : Pos} {m : Str → Option Value} {v : Value} {h : Heap} (hn : h.Ns env.locals m) (hm : m x = some v) (hk : env.scope.kind = .function := by rfl) (hl : env.kindOf x = some .local := by rfl) (hd : (x == ("__debug__" : Str)) = false := by decide +kernel) :
    Rd prog w A env (.Name x p) v h := fun s' Q E k q => ld_local (hn.keeps k) hm q hk hl hd
theorem Rd.cell {x : Str} {p : Pos} {c : Addr} {v : Value} {h : Heap} (hc : h.IsCell c (some v)) (hk : env.scope.kind = .function := by rfl) (hl : env.kindOf x = some .cell := by rfl) (hlc : env.cells.lookup x = some c := by rfl) (hd : (x == ("__debug__" : Str)) = false := by decide +kernel) :
    Rd prog w A env (.Name x p) v h := fun s' Q E k q => ld_cell (by obtain ⟨o, e, r⟩ := hc; exact ⟨o, k _ _ e, r⟩) q hk hl hlc hd
theorem Rd.keeps {e : Expr} {v : Value} {h h' : Heap} (r : Rd prog w A env e v h) (k : Keep h h') : Rd prog w A env e v h' := fun s' Q E k' q => r s' Q E (k.trans k') q
theorem pow16 {e : Expr} {p1 p2 : Pos} {k : Nat} {t : Tok} {Q : Value → Shared → Prop} (hk : k ≤ 3) (r : Rd prog w A env e (.int (k : Int) t) s.heap) (h : ∀ t' tk, Q (.int ((16 ^ k : Nat) : Int) t') { s with toks := tk }) :
    wpAny (model prog w) A (eval (.BinOp (.Constant (.int 16) 0 p1) .Pow e p2) env) Q E s := by
  refine wpAny_BinOp (wpAny_Constant_int (r _ _ _ (fun _ _ e => e) (pow_int_small (by (first | lia | omega)) (by (first | lia | omega)) (by decide) ?_)))
  have e : (16 : Int) ^ (k : Int).toNat = ((16 ^ k : Nat) : Int) := by rw [Int.toNat_natCast]; push_cast; rfl
  rw [e]
  exact h _ _
theorem pow16_pos (k : Nat) : 0 < 16 ^ k := Nat.pow_pos (by decide)
theorem pow16_small {k : Nat} (h : k ≤ 3) : 16 ^ k ≤ 4096 := by
  have : 16 ^ k ≤ 16 ^ 3 := Nat.pow_le_pow_right (by decide) h
  exact this
/-- size >= 16 ** k -/
theorem test16 {se ke : Expr} {p1 p2 p3 : Pos} {n k : Nat} {t u : Tok} {whole : Sem Value} {Q : Bool → Shared → Prop} (hk : k ≤ 3) (r1 : Rd prog w A env se (.int (n : Int) t) s.heap) (r2 : Rd prog w A env ke (.int (k : Int) u) s.heap)
    (h : ∀ tk, Q (decide (16 ^ k ≤ n)) { s with toks := tk }) (hm : behindInMarks .GtE (.BinOp (.Constant (.int 16) 0 p1) .Pow ke p2) = false := by with_unfolding_all rfl) :
    wpAny (model prog w) A (isTrue (.Compare se [.GtE] [.BinOp (.Constant (.int 16) 0 p1) .Pow ke p2] p3) env whole) Q E s := by
  refine wpAny_isTrue_Compare1 (r1 _ _ _ (fun _ _ e => e) (pow16 hk r2 fun t' tk => PyProof.Rows.ge_int (wpAny_truthy_bool ?_))) hm
  have e : decide (((16 ^ k : Nat) : Int) ≤ (n : Int)) = decide (16 ^ k ≤ n) := by
    rw [Bool.eq_iff_iff, decide_eq_true_iff, decide_eq_true_iff]; exact Int.ofNat_le
  rw [e]
  exact h tk
/-- size // 16 ** k -/
theorem div16 {se ke : Expr} {p1 p2 p3 : Pos} {n k : Nat} {t u : Tok} {Q : Value → Shared → Prop} (hk : k ≤ 3) (r1 : Rd prog w A env se (.int (n : Int) t) s.heap) (r2 : Rd prog w A env ke (.int (k : Int) u) s.heap)
    (h : ∀ t' tk, Q (.int ((n / 16 ^ k : Nat) : Int) t') { s with toks := tk }) :
    wpAny (model prog w) A (eval (.BinOp se .FloorDiv (.BinOp (.Constant (.int 16) 0 p1) .Pow ke p2) p3) env) Q E s := by
  refine wpAny_BinOp (r1 _ _ _ (fun _ _ e => e) (pow16 hk r2 fun t' tk => floordiv_int (by have := pow16_pos k; (first | lia | omega)) ?_ (.inl (PyProof.noPylong_small (by have := pow16_small hk; rw [Int.natAbs_natCast]; (first | lia | omega))))))
  have e : (n : Int).fdiv ((16 ^ k : Nat) : Int) = ((n / 16 ^ k : Nat) : Int) := by
    rw [Int.fdiv_eq_ediv_of_nonneg _ (Int.natCast_nonneg _)]; exact (Int.natCast_ediv _ _).symm
  rw [e]
  exact h _ _
/-- 65 + size // 16 ** k % 16 -/
theorem digit16 {se ke : Expr} {p0 p1 p2 p3 p4 p5 p6 : Pos} {n k : Nat} {t u : Tok} {Q : Value → Shared → Prop} (hk : k ≤ 3) (r1 : Rd prog w A env se (.int (n : Int) t) s.heap) (r2 : Rd prog w A env ke (.int (k : Int) u) s.heap)
    (h : ∀ t' tk, Q (.int ((65 + n / 16 ^ k % 16 : Nat) : Int) t') { s with toks := tk }) :
    wpAny (model prog w) A (eval (.BinOp (.Constant (.int 65) 0 p0) .Add (.BinOp (.BinOp se .FloorDiv (.BinOp (.Constant (.int 16) 0 p1) .Pow ke p2) p3) .Mod (.Constant (.int 16) 0 p4) p5) p6) env) Q E s := by
  refine wpAny_BinOp (wpAny_Constant_int (wpAny_BinOp (div16 hk r1 r2 fun t' tk => wpAny_Constant_int (mod_int (by decide) (add_int ?_)))))
  have e : (65 : Int) + ((n / 16 ^ k : Nat) : Int).fmod 16 = ((65 + n / 16 ^ k % 16 : Nat) : Int) := by
    rw [Int.fmod_eq_emod_of_nonneg _ (by decide)]; push_cast; rfl
  rw [e]
  exact h _ _
theorem Src.weak {s₁ : Shared} {xv : Value} {n : Nat} {P P' : Nat → Value → Prop} (x : Src prog w A s₁ xv n P) (hp : ∀ i v, P i v → P' i v) : Src prog w A s₁ xv n P' := fun Q E h =>
  x Q E fun I fp St h' a b W c d e f => h I fp St h' a b
    { sub := W.sub, frame := W.frame, done := W.done, self := W.self, item := fun i s Q E hi st hQ => W.item i s Q E hi st fun v h' tk hP => hQ v h' tk (hp i v hP) } c d e f
/-- (3, 2, 1, 0) -/
theorem down_src {p0 p1 p2 p3 pt : Pos} {x1} (hh : A.handled = none) :
    wpAny (model prog w) A (eval (.Tuple [.Constant (.int 3) 0 p3, .Constant (.int 2) 0 p2, .Constant (.int 1) 0 p1, .Constant (.int 0) 0 p0] x1 pt) env)
      (fun xv s₁ => Keeps s s₁ ∧ Src prog w A s₁ xv 4 (fun i v => i < 4 ∧ ∃ t, v = .int ((3 - i : Nat) : Int) t)) E s := by
  have fin : ∀ (t3 t2 t1 t0 : Tok) (tk : Nat), Keeps s { s with heap := s.heap.push { cls := .type "tuple", data := .seq [Value.int 3 t3, .int 2 t2, .int 1 t1, .int 0 t0].toArray }, toks := tk } ∧
      Src prog w A { s with heap := s.heap.push { cls := .type "tuple", data := .seq [Value.int 3 t3, .int 2 t2, .int 1 t1, .int 0 t0].toArray }, toks := tk } (.ref s.heap.objs.size) 4 (fun i v => i < 4 ∧ ∃ t, v = .int ((3 - i : Nat) : Int) t) := by
    intro t3 t2 t1 t0 tk
    refine ⟨keeps_of fun b o e => Heap.get?_push_of_some _ e, ?_⟩
    have hT : (s.heap.push { cls := .type "tuple", data := .seq [Value.int 3 t3, .int 2 t2, .int 1 t1, .int 0 t0].toArray }).IsTuple s.heap.objs.size [Value.int 3 t3, .int 2 t2, .int 1 t1, .int 0 t0].toArray :=
      ⟨_, Heap.get?_push_size _ rfl, rfl, _, rfl⟩
    refine Src.weak (src_tuple (s := { s with heap := s.heap.push { cls := .type "tuple", data := .seq [Value.int 3 t3, .int 2 t2, .int 1 t1, .int 0 t0].toArray }, toks := tk }) hh hT) fun i v hv => ?_
    match i, hv with
    | 0, hv => exact ⟨by decide, _, (Option.some.inj hv).symm⟩
    | 1, hv => exact ⟨by decide, _, (Option.some.inj hv).symm⟩
    | 2, hv => exact ⟨by decide, _, (Option.some.inj hv).symm⟩
    | 3, hv => exact ⟨by decide, _, (Option.some.inj hv).symm⟩
    | i + 4, hv => simp at hv
  refine wpAny_Tuple_spliced ?_
  refine spliced_cons (wpAny_Constant_int (k := 0) (pos := p3) (spliced_cons (wpAny_Constant_int (k := 0) (pos := p2) (spliced_cons (wpAny_Constant_int (k := 0) (pos := p1) (spliced_cons (wpAny_Constant_int (k := 0) (pos := p0) (spliced_nil ?_))))))))
  exact ⟨by rw [sizeLine_eq]; show 4 ≤ 16777216; decide, fin _ _ _ _ _⟩
end
end Mine
end
theorem Mine.calmG0 : True := by w_top off; trivial
section
open PySem PySem.W PyProof.Rows PySem.Calls
open PySem.Builtin
set_option maxRecDepth 100000
set_option maxHeartbeats 4000000
namespace Mine
section
variable {w : World} {A : Around} {E : Value → Shared → Prop} {s : Shared} {env : Env}
abbrev mdl (w : World) : Model := model PySem.Challenge.rw_pd0134_01.row.prog w
/-- a function of the text's -/
def FnK (w : World) (f : Addr) : Prop := ∃ oc od fd sl, (hd.heap_1 w.params).lookup f = some ⟨oc, od, .func fd, sl⟩
theorem FnK.at {f : Addr} {h : Heap} (x : FnK w f) (O : Ok w h) : FnAt f h := by obtain ⟨oc, od, fd, sl, e⟩ := x; exact ⟨oc, od, fd, sl, O.X _ _ e⟩
theorem ld_glob {x : Str} {p : Pos} {v : Value} {Q : Value → Shared → Prop} (O : Ok w s.heap) (e : nsIn (hd.heap_1 w.params) mainGlobals x = some (some v)) (h : Q v s)
    (hg : env.globals = mainGlobals := by rfl) (hk : env.scope.kind = .function := by rfl) (hx : env.kindOf x = some .globalImplicit := by rfl) (hd : (x == ("__debug__" : Str)) = false := by decide +kernel) :
    wpAny (mdl w) A (eval (.Name x p) env) Q E s := by
  obtain ⟨pr, loose, mean, mg, mb, T⟩ := O.T
  exact Name_function_global hk hx (loadGlobal_global (env := env) (by rw [hg]; exact (topRead_of T).g) (mg_of O.X (topRead_of T).g e) h) hd
theorem call1 {x : Str} {f : Addr} {e : Expr} {p1 pos : Pos} {Q : Value → Shared → Prop} (O : Ok w s.heap) (hn : nsIn (hd.heap_1 w.params) mainGlobals x = some (some (.ref f))) (hf : FnK w f)
    (h : wpAny (mdl w) A (eval e env) (fun v s₁ => Keep s.heap s₁.heap ∧ wpAny (mdl w) A (call (.ref f) [v]) Q E s₁) E s)
    (hg : env.globals = mainGlobals := by rfl) (hk : env.scope.kind = .function := by rfl) (hx : env.kindOf x = some .globalImplicit := by rfl) (hd : (x == ("__debug__" : Str)) = false := by decide +kernel)
    (he : starEach [e] env = [(false, eval e env)] := by rfl) : wpAny (mdl w) A (eval (.Call (.Name x p1) [e] [] pos) env) Q E s := by
  refine Call_name1 he (ld_glob O hn ?_ hg hk hx hd)
  have fk := hf.at O
  have := callWith_F (M := mdl w) (A := A) (E := E) (env := env) (pos := pos) (first := []) (Q := Q) (e := e) (rest := []) fk (by
    rw [he]
    refine spliced_cons (wpAny_mono h (fun v s₁ h₁ => ?_) fun _ _ x => x)
    exact spliced_nil ⟨by obtain ⟨oc, od, fd, sl, e⟩ := fk; exact ⟨oc, od, fd, sl, h₁.1 _ _ e⟩, h₁.2⟩) he rfl
  rw [he] at this
  exact this
theorem call2 {x : Str} {f : Addr} {e1 e2 : Expr} {p1 pos : Pos} {Q : Value → Shared → Prop} (O : Ok w s.heap) (hn : nsIn (hd.heap_1 w.params) mainGlobals x = some (some (.ref f))) (hf : FnK w f)
    (h : wpAny (mdl w) A (eval e1 env) (fun v s₁ => wpAny (mdl w) A (eval e2 env) (fun u s₂ => Keep s.heap s₂.heap ∧ wpAny (mdl w) A (call (.ref f) [v, u]) Q E s₂) E s₁) E s)
    (hg : env.globals = mainGlobals := by rfl) (hk : env.scope.kind = .function := by rfl) (hx : env.kindOf x = some .globalImplicit := by rfl) (hd : (x == ("__debug__" : Str)) = false := by decide +kernel)
    (he : starEach [e1, e2] env = [(false, eval e1 env), (false, eval e2 env)] := by rfl) (he2 : starEach [e2] env = [(false, eval e2 env)] := by rfl) : wpAny (mdl w) A (eval (.Call (.Name x p1) [e1, e2] [] pos) env) Q E s := by
  show wpAny (mdl w) A (do callWith pos (← eval (.Name x p1) env) [] (backTo pos (starEach [e1, e2] env)) (backToKw pos (keywordEach [] env))) Q E s
  refine wpAny_bind (ld_glob O hn ?_ hg hk hx hd)
  have fk := hf.at O
  refine callWith_F (M := mdl w) (A := A) (E := E) (env := env) (pos := pos) (first := []) (Q := Q) (e := e1) (rest := [e2]) fk ?_ (by rw [he, he2]) (by rw [he2]; rfl)
  rw [he]
  refine spliced_cons (wpAny_mono h (fun v s₁ h₁ => spliced_cons (wpAny_mono h₁ (fun u s₂ h₂ => ?_) fun _ _ x => x)) fun _ _ x => x)
  exact spliced_nil ⟨by obtain ⟨oc, od, fd, sl, e⟩ := fk; exact ⟨oc, od, fd, sl, h₂.1 _ _ e⟩, h₂.2⟩
end
end Mine
end
theorem Mine.calmG1 : True := by w_top off; trivial
section
open PySem PySem.W PyProof.Rows PySem.Calls
open PySem.Builtin
set_option maxRecDepth 100000
set_option maxHeartbeats 4000000
namespace Mine
section
variable {w : World} {A : Around} {E : Value → Shared → Prop} {s : Shared} {env : Env}
theorem ld_boot {x : Str} {p : Pos} {v : Value} {Q : Value → Shared → Prop} (O : Ok w s.heap) (e : nsIn (hd.heap_1 w.params) mainGlobals x = some none) (hb : bootBuiltins x = some v) (h : Q v s)
    (hg : env.globals = mainGlobals := by rfl) (hbl : env.builtins = builtinsNs := by rfl) (hk : env.scope.kind = .function := by rfl) (hx : env.kindOf x = some .globalImplicit := by rfl) (hd : (x == ("__debug__" : Str)) = false := by decide +kernel) (hn : x ≠ "__name__" := by decide +kernel) :
    wpAny (mdl w) A (eval (.Name x p) env) Q E s := by
  obtain ⟨pr, loose, mean, mg, mb, T⟩ := O.T
  have R := topRead_of T
  exact Name_function_global hk hx (loadGlobal_builtin (env := env) (by rw [hg]; exact R.g) (mg_none_of O.X R.g e) (by rw [hbl]; exact R.b) ((R.builtins x hn).trans hb) h) hd
theorem callB1 {x : Str} {id : String} {e : Expr} {p1 pos : Pos} {Q : Value → Shared → Prop} (O : Ok w s.heap) (hn : nsIn (hd.heap_1 w.params) mainGlobals x = some none) (hb : bootBuiltins x = some (.builtin id))
    (h : wpAny (mdl w) A (eval e env) (fun v s₁ => wpAny (mdl w) A (call (.builtin id) [v]) Q E s₁) E s)
    (hg : env.globals = mainGlobals := by rfl) (hbl : env.builtins = builtinsNs := by rfl) (hk : env.scope.kind = .function := by rfl) (hx : env.kindOf x = some .globalImplicit := by rfl) (hd : (x == ("__debug__" : Str)) = false := by decide +kernel) (hnn : x ≠ "__name__" := by decide +kernel)
    (he : starEach [e] env = [(false, eval e env)] := by rfl) : wpAny (mdl w) A (eval (.Call (.Name x p1) [e] [] pos) env) Q E s := by
  refine Call_name1 he (ld_boot O hn hb ?_ hg hbl hk hx hd hnn)
  exact callWith_builtin rfl (evalArgs_plain (spliced_cons (wpAny_mono h (fun v s₁ h₁ => spliced_nil h₁) fun _ _ x => x)))
theorem callT1 {x : Str} {T : String} {e : Expr} {p1 pos : Pos} {Q : Value → Shared → Prop} (O : Ok w s.heap) (hn : nsIn (hd.heap_1 w.params) mainGlobals x = some none) (hb : bootBuiltins x = some (.type T))
    (h : wpAny (mdl w) A (eval e env) (fun v s₁ => wpAny (mdl w) A (call (.type T) [v]) Q E s₁) E s)
    (hg : env.globals = mainGlobals := by rfl) (hbl : env.builtins = builtinsNs := by rfl) (hk : env.scope.kind = .function := by rfl) (hx : env.kindOf x = some .globalImplicit := by rfl) (hd : (x == ("__debug__" : Str)) = false := by decide +kernel) (hnn : x ≠ "__name__" := by decide +kernel)
    (he : starEach [e] env = [(false, eval e env)] := by rfl) : wpAny (mdl w) A (eval (.Call (.Name x p1) [e] [] pos) env) Q E s := by
  refine Call_name1 he (ld_boot O hn hb ?_ hg hbl hk hx hd hnn)
  exact PySem.callWith_type rfl (evalArgs_plain (spliced_cons (wpAny_mono h (fun v s₁ h₁ => spliced_nil h₁) fun _ _ x => x)))
theorem callB2 {x : Str} {id : String} {e1 e2 : Expr} {p1 pos : Pos} {Q : Value → Shared → Prop} (O : Ok w s.heap) (hn : nsIn (hd.heap_1 w.params) mainGlobals x = some none) (hb : bootBuiltins x = some (.builtin id))
    (h : wpAny (mdl w) A (eval e1 env) (fun v s₁ => wpAny (mdl w) A (eval e2 env) (fun u s₂ => wpAny (mdl w) A (call (.builtin id) [v, u]) Q E s₂) E s₁) E s)
    (hg : env.globals = mainGlobals := by rfl) (hbl : env.builtins = builtinsNs := by rfl) (hk : env.scope.kind = .function := by rfl) (hx : env.kindOf x = some .globalImplicit := by rfl) (hd : (x == ("__debug__" : Str)) = false := by decide +kernel) (hnn : x ≠ "__name__" := by decide +kernel)
    (he : starEach [e1, e2] env = [(false, eval e1 env), (false, eval e2 env)] := by rfl) : wpAny (mdl w) A (eval (.Call (.Name x p1) [e1, e2] [] pos) env) Q E s := by
  show wpAny (mdl w) A (do callWith pos (← eval (.Name x p1) env) [] (backTo pos (starEach [e1, e2] env)) (backToKw pos (keywordEach [] env))) Q E s
  refine wpAny_bind (ld_boot O hn hb ?_ hg hbl hk hx hd hnn)
  rw [he]
  exact callWith_builtin rfl (evalArgs_plain (spliced_cons (wpAny_mono h (fun v s₁ h₁ => spliced_cons (wpAny_mono h₁ (fun u s₂ h₂ => spliced_nil h₂) fun _ _ x => x)) fun _ _ x => x)))
end
end Mine
end
theorem Mine.calmN0 : True := by w_top off; trivial
section
open PySem PySem.W PyProof.Rows PySem.Calls
open PySem.Builtin
set_option maxRecDepth 100000
set_option maxHeartbeats 4000000
set_option linter.unusedVariables false
namespace Mine
def met (x y : Nat) : Nat := if x = y then x else if y < x then met (x / 16) y else met x (y / 16)
termination_by x + y
decreasing_by all_goals (first | lia | omega)
theorem half16 {a b : Nat} (h : b < a) : a / 16 < a := Nat.div_lt_self (Nat.lt_of_le_of_lt (Nat.zero_le _) h) (by decide)
inductive MetInv (s : Shared) (L : Addr) (x y : Nat) (k : Nat) : Shared → Prop
  | mk (h' : Heap) (tk : Nat) (m₁ : Str → Option Value) (a b : Nat) (t1 t2 : Tok) : Fr s.heap L h' m₁ → m₁ "x" = some (.int ((a : Nat) : Int) t1) → m₁ "y" = some (.int ((b : Nat) : Int) t2) → met a b = met x y → a < 65536 → b < 65536 → k = a + b → MetInv s L x y k { s with heap := h', toks := tk }
section
variable {w : World} {s : Shared} {A : Around} {Q E : Value → Shared → Prop}
theorem met_c {x y : Nat} {t u : Tok} (hx : x < 65536) (hy : y < 65536) (O : Ok w s.heap) (rm : Room A 5) (h : ∀ t h' tk, Keep s.heap h' → Q (.int ((met x y : Nat) : Int) t) { s with heap := h', toks := tk }) :
    wpAny (mdl w) A (call (.ref 177) [.int (x : Int) t, .int (y : Int) u]) Q E s := by
  obtain ⟨p, loose, mean, mg, mb, T⟩ := O.T
  refine enter (n := 4) O rm (by k_is) (by k_is) (BindsTo.of_eq rfl) (locs rfl) ?_
  intro dp un L h₁ tk hdp hu F N X
  refine wpAny_execs_cons ?_
  refine wpAny_While ?_
  refine codeAny_whileLoop (MetInv s L x y) ?_ (x + y) (.mk h₁ tk _ x y _ _ F (by rfl) (by rfl) rfl hx hy rfl)
  rintro k s' ⟨h2, tk2, m₁, a, b, t1, t2, F2, e1, e2, hm, ha, hb, rfl⟩
  refine wpAny_isTrue_Compare1 ?_
  refine ld_local F2.ns e1 ?_
  refine ld_local F2.ns e2 ?_
  refine PyProof.Rows.ne_int ?_
  refine wpAny_truthy_bool ?_
  by_cases hab : a = b
  · subst hab
    simp only [bne_self_eq_false, Bool.false_eq_true, if_false]
    refine wpAny_execs_nil ?_
    show wpAny _ _ (execs _ _) _ _ _
    refine wpAny_execs_cons ?_
    refine wpAny_Return_some ?_
    refine ld_local F2.ns e1 ?_
    have : met a a = a := by unfold met; simp
    rw [this] at hm
    have := h t1 h2 tk2 F2.keep
    rw [← hm] at this
    exact this
  have hne : ((a : Int) != (b : Int)) = true := bne_iff_ne.mpr (by (first | lia | omega))
  rw [hne]
  simp only [if_true]
  refine wpAny_execs_cons ?_
  refine wpAny_If ?_
  refine wpAny_isTrue_Compare1 ?_
  refine ld_local F2.ns e1 ?_
  refine ld_local F2.ns e2 ?_
  refine PyProof.Rows.gt_int ?_
  refine wpAny_truthy_bool ?_
  by_cases hlt : b < a
  · have hd : decide ((b : Int) < (a : Int)) = true := decide_eq_true (by (first | lia | omega))
    rw [hd]
    simp only [if_true]
    refine wpAny_execs_cons ?_
    refine wpAny_Assign_Name ?_
    refine wpAny_BinOp ?_
    refine ld_local F2.ns e1 ?_
    refine wpAny_Constant_int ?_
    refine floordiv_int (by decide) ?_ (.inl (PyProof.noPylong_small (by decide)))
    have q1 : (a : Int).fdiv 16 = ((a / 16 : Nat) : Int) := by rw [Int.fdiv_eq_ediv_of_nonneg _ (by decide)]; exact (Int.natCast_ediv _ _).symm
    rw [q1]
    refine store_F F2 rfl ?_
    intro h3 tk3 F3 k3
    refine wpAny_execs_nil ?_
    refine wpAny_execs_nil ?_
    refine ⟨a / 16 + b, Nat.add_lt_add_right (half16 hlt) b, .mk h3 tk3 _ (a / 16) b _ t2 F3 (by rfl) e2 ?_ (Nat.lt_of_le_of_lt (Nat.div_le_self _ _) ha) hb rfl⟩
    rw [← hm]
    conv => rhs; unfold met
    rw [if_neg hab, if_pos hlt]
  · have hd : decide ((b : Int) < (a : Int)) = false := decide_eq_false (by (first | lia | omega))
    rw [hd]
    simp only [Bool.false_eq_true, if_false]
    refine wpAny_execs_cons ?_
    refine wpAny_Assign_Name ?_
    refine wpAny_BinOp ?_
    refine ld_local F2.ns e2 ?_
    refine wpAny_Constant_int ?_
    refine floordiv_int (by decide) ?_ (.inl (PyProof.noPylong_small (by decide)))
    have q1 : (b : Int).fdiv 16 = ((b / 16 : Nat) : Int) := by rw [Int.fdiv_eq_ediv_of_nonneg _ (by decide)]; exact (Int.natCast_ediv _ _).symm
    rw [q1]
    refine store_F F2 rfl ?_
    intro h3 tk3 F3 k3
    refine wpAny_execs_nil ?_
    refine wpAny_execs_nil ?_
    refine ⟨a + b / 16, Nat.add_lt_add_left (half16 (Nat.lt_of_le_of_ne (Nat.not_lt.mp hlt) hab)) a, .mk h3 tk3 _ a (b / 16) t1 _ F3 e1 (by rfl) ?_ ha (Nat.lt_of_le_of_lt (Nat.div_le_self _ _) hb) rfl⟩
    rw [← hm]
    conv => rhs; unfold met
    rw [if_neg hab, if_neg hlt]
end
end Mine
end
theorem Mine.calmN1 : True := by w_top off; trivial
section
open PySem PySem.W PyProof.Rows PySem.Calls
open PySem.Builtin
set_option maxRecDepth 100000
set_option maxHeartbeats 4000000
set_option linter.unusedVariables false
namespace Mine
theorem wordsP_len : ∀ (ds p : List Nat), (wordsP p ds).length = ds.length
  | [], _ => rfl
  | a :: r, p => by simp [wordsP, wordsP_len r]
theorem parts_way {ds : List Nat} (h : Dig ds) : ((splitL (way ds)).filter fun c => decide (c ≠ [])) = words ds := by
  unfold way
  have e : splitL (47 :: [47].intercalate (words ds)) = [] :: splitL ([47].intercalate (words ds)) := by simp [splitL]
  rw [e, List.filter_cons_of_neg (by simp)]
  by_cases hw : words ds = []
  · rw [hw]; rfl
  · rw [splitL_inter hw fun w hm => (words_mem h w hm).2.2]
    rw [List.filter_eq_self]
    intro w hm
    have := words_mem h w hm
    simp [this.1]
def goodN : Value → Bool
  | .bytes b _ => decide (b.toList ≠ [])
  | _ => false
theorem BytesAre.filterN : ∀ {us : List Value} {l : List (List UInt8)}, BytesAre us l → BytesAre (us.filter goodN) (l.filter fun c => decide (c ≠ []))
  | _, _, .nil => .nil
  | _, _, .cons (b := b) (t := t) e r => by
    subst e
    have h := r.filterN
    by_cases q : b.toList ≠ []
    · rw [List.filter_cons_of_pos (by simpa [goodN] using q), List.filter_cons_of_pos (by simpa using q)]
      exact .cons rfl h
    · rw [List.filter_cons_of_neg (by simpa [goodN] using q), List.filter_cons_of_neg (by simpa using q)]
      exact h
theorem bytesAre_of : ∀ {vs : List Value} {ls : List (List UInt8)}, vs.length = ls.length → (∀ (j : Nat) (v : Value), vs[j]? = some v → ∃ bb t, v = .bytes bb t ∧ ls[j]? = some bb.toList) → BytesAre vs ls
  | [], [], _, _ => .nil
  | v :: vs, l :: ls, hl, h => by
    obtain ⟨bb, t, rfl, e⟩ := h 0 v rfl
    exact .cons (Option.some.inj e).symm (bytesAre_of (by simpa using hl) fun j v hv => h (j + 1) v hv)
section
variable {w : World} {s : Shared} {A : Around} {Q E : Value → Shared → Prop}
theorem depth_c {ds : List Nat} {b : Array UInt8} {t : Tok} (hb : b.toList = way ds) (hd : Num ds) (O : Ok w s.heap) (rm : Room A 5) (h : ∀ t h' tk, Keep s.heap h' → Q (.int ((ds.length : Nat) : Int) t) { s with heap := h', toks := tk }) :
    wpAny (mdl w) A (call (.ref 187) [.bytes b t]) Q E s := by
  obtain ⟨p, loose, mean, mg, mb, T⟩ := O.T
  refine enter (n := 4) O rm (by k_is) (by k_is) (BindsTo.of_eq rfl) (locs rfl) ?_
  intro dp un L h₁ tk hdp hu F N X
  have hlen : b.size ≤ 50 := by rw [← Array.length_toList, hb]; have := way_len hd.2; (first | lia | omega)
  refine wpAny_execs_cons ?_
  refine wpAny_Return_some ?_
  refine callB1 (O.keeps F.keep) (by k_is) boot_len ?_
  refine wpAny_mono (Q := fun v s₁ => ∃ D ys h' tk, v = .ref D ∧ s₁ = { s with heap := h', toks := tk } ∧ Keep h₁ h' ∧ h'.IsList D ys ∧ ys.size = ds.length) (E := fun _ _ => False) ?_ ?_ fun _ _ e => e
  · refine lc_free (n := (splitL b.toList).length) (P := fun i v => ∃ bb t, v = .bytes bb t ∧ (splitL b.toList)[i]? = some bb.toList) goodN (fun v y => y = v) ?_ ?_ ?_ ?_ ?_
    · refine meth1 slot_split ty_split ?_ base_name (by rfl) (by rfl)
      refine ld_local F.ns (v := .bytes b t) (by rfl) ?_
      refine ⟨_, _, rfl, ?_⟩
      refine Constant_bytes ?_
      refine call_split (by (first | lia | omega)) fun us tk hu => ?_
      refine ⟨keeps_of fun b o e => Heap.get?_push_of_some _ e, ?_⟩
      have hl : us.toArray.size = (splitL b.toList).length := by rw [List.size_toArray]; exact hu.length
      rw [← hl]
      refine Src.weak (src_list rfl ⟨_, Heap.get?_push_size _ rfl, rfl, _, rfl⟩) fun i v hv => ?_
      exact hu.at (by simpa using hv)
    · rw [sizeLine_eq]; have := (splitL_len b.toList).1; simp only [Array.length_toList] at this; (first | lia | omega)
    · intro C i v s₃ m₃ E' hP hns hm hk _
      obtain ⟨bb, tb, rfl, hbb⟩ := hP
      have hs : bb.size ≤ 50 := by have := (splitL_len b.toList).2 _ (List.mem_of_getElem? hbb); simp only [Array.length_toList] at this; (first | lia | omega)
      refine wpAny_tests_one (wpAny_isTrue_Compare1 ?_)
      refine ld_local hns hm ?_
      refine Constant_bytes ?_
      refine ne_bytes ?_
      refine wpAny_truthy_bool ?_
      exact ⟨by simp [goodN, bne_decide], keeps_of fun _ _ e => e⟩
    · intro C i v s₃ m₃ E' hP _ hns hm hk hu'
      exact ld_local hns hm ⟨rfl, Keeps.refl _⟩
    · intro D h' tk ys vs hD hl hlen' hP hpair hk
      have hys := paired_eq hpair
      refine ⟨D, ys, h', _, rfl, rfl, hk, hl, ?_⟩
      have hv : BytesAre vs (splitL b.toList) := bytesAre_of hlen' hP
      have := hv.filterN.length
      rw [hb, parts_way hd.1] at this
      rw [← Array.length_toList, hys, this]
      exact wordsP_len ds []
  · rintro v s₁ ⟨D, ys, h', tk', rfl, rfl, hk, hl, hs⟩
    refine call_len_list hl (by have := hd.2; (first | lia | omega)) ?_
    rw [hs]
    exact h _ h' _ (Keep.trans F.keep hk)
end
end Mine
end
theorem Mine.calmN2 : True := by w_top off; trivial
section
open PySem PySem.W PyProof.Rows PySem.Calls
set_option maxRecDepth 100000
set_option maxHeartbeats 4000000
namespace Mine
end Mine
end
theorem Mine.calmN3 : True := by w_top off; trivial
section
open PySem PySem.W PyProof.Rows PySem.Calls
open PySem.Builtin
set_option maxRecDepth 100000
set_option maxHeartbeats 4000000
set_option linter.unusedVariables false
namespace Mine
theorem paired_nats {vs ys : List Value} (h : Paired (fun _ y => ∃ d : Nat, d < 65536 ∧ ∃ u, y = .int ((d : Nat) : Int) u) vs ys) : ∃ ds : List Nat, IntsAre ys (ds.map fun d => ((d : Nat) : Int)) ∧ ds.length = vs.length ∧ ∀ d ∈ ds, d < 65536 := by
  induction h with
  | nil => exact ⟨[], .nil, rfl, fun _ q => nomatch q⟩
  | cons e _ ih =>
    obtain ⟨d, hd, u, rfl⟩ := e
    obtain ⟨ds, h1, h2, h3⟩ := ih
    exact ⟨d :: ds, .cons _ u h1, by simp [h2], fun x hx => (List.mem_cons.mp hx).elim (fun q => q ▸ hd) (h3 x)⟩
theorem intsAre_mem {vs : List Value} {ns : List Int} (x : IntsAre vs ns) : ∀ v ∈ vs, ∃ a t, v = Value.int a t := by
  induction x with
  | nil => exact fun _ q => nomatch q
  | cons n t _ ih => exact List.forall_mem_cons.mpr ⟨⟨n, t, rfl⟩, ih⟩
inductive NumJ (C : Addr) (i : Nat) (m : Str → Option Value) : List (Addr × Obj) → Prop
  | mk (o : Obj) (vs : List Value) (nn : Nat) : o.cls = .type "list" → o.data = .seq (List.toArray vs) nn → (∀ v ∈ vs, ∃ a t, v = Value.int a t) → vs.length = 8 → m "cells" = some (.ref C) → NumJ C i m [(C, o)]
section
variable {w : World} {s : Shared} {A : Around} {Q E : Value → Shared → Prop}
/-- LIST[:63] of a short list -/
theorem slice63 {prog : Program} {env : Env} {value : Expr} {p0 p1 pos : Pos} {l : Addr} {its : Array Value} (rl : Rd prog w A env value (.ref l) s.heap) (hl : s.heap.IsList l its) (hz : its.size ≤ 63)
    (h : ∀ o1 tk, Q (.ref (s.heap.objs.size + 1)) { s with heap := (s.heap.push o1).push { cls := .type "list", data := .seq its }, toks := tk }) (ht : ∀ o r, letTemporaryGo value o r = pure () := by intro _ _; rfl) :
    wpAny (model prog w) A (eval (.Subscript value (.Slice none (some (.Constant (.int 63) 0 p0)) none p1) pos) env) Q E s := by
  have e63 : slicePick its none (some 63) none = its := by
    rw [show (some (63 : Int)) = some ((63 : Nat) : Int) from rfl, slicePick_upto', List.take_of_length_le (by rw [Array.length_toList]; exact hz), Array.toArray_toList]
  refine wpAny_Subscript_list_slice (rl _ _ _ (Keep.refl _) ?_) ht
  refine wpAny_evalPart_none ?_
  refine wpAny_evalPart_some ?_
  refine wpAny_Constant_int ?_
  refine ⟨l, its, none, some 63, rfl, hl, by rw [sizeLine_eq]; (first | lia | omega), .none, .int _ _, ?_⟩
  rw [e63]
  exact h _ _
theorem numbers_c {S : Addr} {its : Array Value} {ns : List Int} (hS : s.heap.IsList S its) (hi : IntsAre its.toList ns) (hn : ns.length ≤ 63) (O : Ok w s.heap) (rm : Room A 5)
    (h : ∀ D h' tk (ds : List Nat) ys, h'.IsList D ys → IntsAre ys.toList (ds.map fun d => ((d : Nat) : Int)) → ds.length = 8 → (∀ d ∈ ds, d < 65536) → s.heap.get? D = none → Keep s.heap h' → Q (.ref D) { s with heap := h', toks := tk }) :
    wpAny (mdl w) A (call (.ref 148) [.ref S]) Q E s := by
  obtain ⟨p, loose, mean, mg, mb, T⟩ := O.T
  refine enter (n := 4) O rm (by k_is) (by k_is) (BindsTo.of_eq (binds := [("script", .ref S)]) rfl) (locs rfl) ?_
  intro dp un L h₁ tk hdp hu F N X
  w_strict (iterate 22 walk1)
  rename_i C h1 _ h2 F2 N2
  have hS2 : h2.IsList S its := by obtain ⟨o, e, r⟩ := hS; exact ⟨o, F2.keep _ _ e, r⟩
  have hits : its.size ≤ 63 := by have := hi.length; rw [Array.length_toList] at this; (first | lia | omega)
  have O2 : Ok w h2 := O.keeps F2.keep
  have hC2 := (N2 _ (.head _))
  refine wpAny_execs_cons ?_
  refine for_enum2 (items := its) (W := [C]) F2 N2 rfl rfl ?hW (NumJ C) ?hsrc ?h0 ?step ?hQ
  case hW => intro b hb; rw [List.mem_singleton.mp hb]; exact ⟨_, hC2.1⟩
  case h0 => exact .mk _ _ _ rfl rfl (by simp) rfl rfl
  case hsrc =>
    refine callT1 O2 (by k_is) boot_enumerate ?_
    refine slice63 (Rd.local F2.ns (v := .ref S) (by rfl)) hS2 hits fun o1 tk9 => ?_
    have sz : ∀ o1 o2 : Obj, ((h2.push o1).push o2).objs.size = h2.objs.size + 2 := fun o1 o2 => by rw [Heap.size_push, Heap.size_push]
    have hl : ∀ o1 : Obj, ((h2.push o1).push { cls := .type "list", data := .seq its }).IsList (h2.objs.size + 1) its := fun o1 => by
      refine ⟨{ cls := .type "list", data := .seq its }, ?_, rfl, _, rfl⟩
      rw [show h2.objs.size + 1 = (h2.push o1).objs.size from (Heap.size_push ..).symm]
      exact Heap.get?_push_size _ rfl
    have k3 : ∀ o1 o2 : Obj, Keep h2 ((h2.push o1).push o2) := fun o1 o2 b o e => Heap.get?_push_of_some _ (Heap.get?_push_of_some _ e)
    have hLs : L < h2.objs.size := F2.ns.lt
    have hCs : C < h2.objs.size := Heap.lt_size hC2.1
    refine call_enumerate_list (hl _) fun h4 he hit hz hk => ?_
    have a1 : ∀ o1 o2 : Obj, h2.objs.size ≤ ((h2.push o1).push o2).objs.size + 1 := fun o1 o2 => by rw [sz]; (first | lia | omega)
    have a2 : ∀ o1 o2 : Obj, h2.objs.size ≤ ((h2.push o1).push o2).objs.size := fun o1 o2 => by rw [sz]; (first | lia | omega)
    have a3 : ∀ o1 o2 : Obj, h2.objs.size + 1 ≠ ((h2.push o1).push o2).objs.size + 1 := fun o1 o2 => by rw [sz]; (first | lia | omega)
    have a4 : ∀ o1 o2 : Obj, h2.objs.size + 1 ≠ ((h2.push o1).push o2).objs.size := fun o1 o2 => by rw [sz]; (first | lia | omega)
    refine ⟨_, _, h2.objs.size + 1, rfl, Heap.get?_none_of_le (a1 _ _), Heap.get?_none_of_le (a2 _ _), Nat.succ_ne_self _, keeps_of (fun b o e => hk _ _ (k3 _ _ _ _ e)), he, hit, ?_, ?_, a3 _ _, a4 _ _⟩
    · obtain ⟨o, e, r⟩ := hl o1
      exact ⟨o, hk _ _ e, r⟩
    · intro q
      rcases List.mem_cons.mp q with q | q
      · exact Nat.ne_of_gt (Nat.lt_succ_of_lt hLs) q
      · exact Nat.ne_of_gt (Nat.lt_succ_of_lt hCs) (List.mem_singleton.mp q)
  case step =>
    rintro i v u h3 tk3 m₁ nw hv ⟨o, vs, nn, hcls, hdat, hall, hlen, hm⟩ F3 N3 k3
    refine hideQ fun T hT => ?_
    obtain ⟨z, zt, rfl⟩ := intsAre_mem hi v (by rw [Array.mem_toList_iff]; exact Array.mem_of_getElem? hv)
    have hC3 : h3.IsList C vs.toArray := ⟨o, (N3 _ (.head _)).1, hcls, nn, hdat⟩
    have hk8 : i % 8 < vs.length := by rw [hlen]; exact Nat.mod_lt _ (by decide)
    have e8 : ((i : Nat) : Int).fmod 8 = ((i % 8 : Nat) : Int) := by rw [Int.fmod_eq_emod_of_nonneg _ (by decide)]; push_cast; rfl
    obtain ⟨y, yt, hy⟩ := hall vs[i % 8] (List.getElem_mem hk8)
    refine wpAny_execs_cons ?_
    refine wpAny_AugAssign_Subscript_any ?_
    refine ld_local F3.ns (v := .ref C) (by simp only [if_neg (show (Str.ofString "cells" ≠ Str.ofString "x") by decide), if_neg (show (Str.ofString "cells" ≠ Str.ofString "k") by decide)]; exact hm) ?_
    refine wpAny_BinOp ?_
    refine ld_local F3.ns (v := .int (i : Nat) u) (by rfl) ?_
    refine wpAny_Constant_int ?_
    refine mod_int (by decide) ?_
    rw [e8]
    have h63 : ((i % 8 : Nat) : Int) < 2 ^ 63 := by have : i % 8 < 8 := Nat.mod_lt _ (by decide); (first | lia | omega)
    refine wpAny_getItem_list hC3 (Int.natCast_nonneg _) h63 (x := .int y yt) (by rw [Int.toNat_natCast]; simp [hk8, hy]) ?_
    refine wpAny_BinOp ?_
    refine ld_local F3.ns (v := .int z zt) (by rfl) ?_
    refine wpAny_BinOp ?_
    refine wpAny_Constant_int ?_
    refine wpAny_Constant_int ?_
    refine pow_int_small (by decide) (by decide) (by decide) ?_
    refine mod_int (by decide) ?_
    refine PyProof.Rows.iadd_int ?_
    refine wpAny_setItem_list hC3 (Int.natCast_nonneg _) h63 (by simp; (first | lia | omega)) fun h4 hC4 hs4 => ?_
    refine wpAny_execs_nil ?_
    obtain ⟨o4, ho4, hc4, n4, hd4⟩ := hC4
    have hCL : C ≠ L := (N3 _ (.head _)).2.1
    have hC0 := (N3 _ (.head _)).2.2
    refine hT _ _ ⟨h4, _, _, [(C, o4)], rfl, ⟨F3.ns.extBut hs4.extBut (Ne.symm hCL), fun b o e => hs4.extBut b o (fun q => by rw [q, hC0] at e; cases e) (F3.keep b o e), F3.above⟩, ?_, ?_, ?_⟩
    · refine .mk o4 (vs.set (i % 8) (.int _ _)) n4 hc4 (by rw [hd4]; simp; rfl) ?_ (by simpa using hlen) ?_
      · intro v hv
        rcases List.mem_or_eq_of_mem_set hv with q | rfl
        · exact hall v q
        · exact ⟨_, _, rfl⟩
      · simp only [if_neg (show (Str.ofString "cells" ≠ Str.ofString "x") by decide), if_neg (show (Str.ofString "cells" ≠ Str.ofString "k") by decide)]; exact hm
    · exact fun b o nb e => hs4.extBut b o (fun q => nb (by rw [q]; simp)) e
    · intro p hp
      rw [List.mem_singleton.mp hp]
      exact ⟨ho4, .inl (by simp)⟩
  case hQ =>
    rintro h3 tk3 m' nw ⟨o, vs, nn, hcls, hdat, hall, hlen, hm⟩ F3 N3 k3
    have hC3 : h3.IsList C vs.toArray := ⟨o, (N3 _ (.head _)).1, hcls, nn, hdat⟩
    refine wpAny_execs_cons ?_
    refine wpAny_Return_some ?_
    refine lc_free (n := vs.toArray.size) (P := fun i v => vs.toArray[i]? = some v) (fun _ => true) (fun _ y => ∃ d : Nat, d < 65536 ∧ ∃ u, y = .int ((d : Nat) : Int) u) (ld_local F3.ns hm ⟨Keeps.refl _, src_list rfl hC3⟩) (by rw [List.size_toArray, hlen, sizeLine_eq]; decide) ?_ ?_ ?_
    · intro C i v s₃ m₃ E' hP hns hm hk _
      exact wpAny_tests_nil ⟨rfl, Keeps.refl _⟩
    · intro C2 i v s₃ m₃ E' hP _ hns hm3 hk hu'
      obtain ⟨z, zt, rfl⟩ := hall v (List.mem_of_getElem? (by simpa using hP))
      refine wpAny_BinOp ?_
      refine ld_local hns hm3 ?_
      refine wpAny_BinOp ?_
      refine wpAny_Constant_int ?_
      refine wpAny_Constant_int ?_
      refine pow_int_small (by decide) (by decide) (by decide) ?_
      refine mod_int (by decide) ?_
      refine ⟨⟨(z.fmod 65536).toNat, ?_, _, congrArg (fun q => Value.int q _) (Int.toNat_of_nonneg (Int.fmod_nonneg_of_pos z (b := 65536) (by decide))).symm⟩, keeps_of fun _ _ e => e⟩
      have := Int.fmod_nonneg_of_pos z (b := 65536) (by decide)
      have := Int.fmod_lt_of_pos z (b := 65536) (by decide)
      (first | lia | omega)
    · intro D h' tk ys vs' hD hl hlen' hP hpair hk
      rw [show vs'.filter (fun _ => true) = vs' from List.filter_eq_self.mpr (fun _ _ => rfl)] at hpair
      obtain ⟨ds, q1, q2, q3⟩ := paired_nats hpair
      have hDs : s.heap.get? D = none := by
        cases e : s.heap.get? D with
        | none => rfl
        | some o => have := F3.keep _ _ e; rw [hD] at this; cases this
      exact h D h' _ ds ys hl q1 (by rw [q2, hlen', List.size_toArray, hlen]) q3 hDs (Keep.trans F3.keep hk)
end
end Mine
end
theorem Mine.calmN4 : True := by w_top off; trivial
section
open PySem PySem.W PyProof.Rows PySem.Calls
open PySem.Builtin
set_option maxRecDepth 100000
set_option maxHeartbeats 4000000
set_option linter.unusedVariables false
namespace Mine
/-- a set of naturals at P -/
def SetN (w : World) (h : Heap) (P : Addr) (S : Nat → Bool) : Prop :=
  ∃ o S' n, h.get? P = some o ∧ o.SetObjOf (intKind PySem.Challenge.rw_pd0134_01.row.prog w) S' n ∧ n < 4096 ∧ ∀ k : Nat, S' ((k : Nat) : Int) = S k
theorem SetN.keeps {w : World} {h h' : Heap} {P : Addr} {S : Nat → Bool} (x : SetN w h P S) (k : Keep h h') : SetN w h' P S := by
  obtain ⟨o, S', n, e, r⟩ := x; exact ⟨o, S', n, k _ _ e, r⟩
abbrev intsL (ds : List Nat) : List Int := ds.map fun d => ((d : Nat) : Int)
theorem IsList.keeps' {h h' : Heap} {D : Addr} {ys : Array Value} (x : h.IsList D ys) (k : Keep h h') : h'.IsList D ys := by obtain ⟨o, e, r⟩ := x; exact ⟨o, k _ _ e, r⟩
section
variable {w : World} {s : Shared} {A : Around} {Q E : Value → Shared → Prop}
theorem add_lists0 {prog : Program} {l b : Addr} {vs ws : List Value} (hl : s.heap.IsList l vs.toArray) (hb : s.heap.IsList b ws.toArray)
    (h : Q (.ref s.heap.objs.size) { s with heap := s.heap.push { cls := .type "list", data := .seq (vs ++ ws).toArray } })
    (hsz : vs.length + ws.length ≤ sizeLine) :
    wpAny (model prog w) A (binaryOp .Add (.ref l) (.ref b)) Q E s := by
  obtain ⟨⟨cls, dd, data, sl⟩, ho, hc, n, hd⟩ := id hl
  obtain ⟨⟨cls2, dd2, data2, sl2⟩, ho2, hc2, n2, hd2⟩ := id hb
  simp only at hc hd hc2 hd2
  subst hc hd hc2 hd2
  have e : vs.toArray ++ ws.toArray = (vs ++ ws).toArray := by simp
  refine concat_meets ⟨_, ho, rfl⟩ ⟨_, ho2, rfl⟩ noFill_list_add seq_list_add PySem.F.slot_list_add PySem.F.entry_list_add (PySem.F.args_list_add_2 _ _) (list_addW l b vs.toArray ws.toArray n n2 dd dd2 sl sl2 (by simpa using hsz)) ⟨ho, ho2, ?_⟩
  rw [e]
  exact h
/-- what a call of _law_walked answers -/
def WalkC (w : World) (D P : Addr) (ds : List Nat) (S : Nat → Bool) (k n : Nat) (r : List Nat) : Prop :=
  ∀ (s : Shared) (A : Around) (Q E : Value → Shared → Prop) (t : Tok) (ys : Array Value), Ok w s.heap → Room A k → s.heap.IsList D ys → IntsAre ys.toList (intsL ds) → SetN w s.heap P S →
    (∀ R h' tk zs, h'.IsList R zs → IntsAre zs.toList (intsL r) → s.heap.get? R = none → Keep s.heap h' → Q (.ref R) { s with heap := h', toks := tk }) →
    wpAny (mdl w) A (call (.ref 182) [.int (n : Int) t, .ref D, .ref P]) Q E s
def isN (n : Nat) : Value → Bool
  | .int a _ => a == (n : Int)
  | _ => false
theorem ints_filter {n : Nat} {vs : List Value} {ds : List Nat} (x : IntsAre vs (intsL ds)) : IntsAre (vs.filter (isN n)) (intsL (ds.filter (· == n))) := by
  induction ds generalizing vs with
  | nil => cases x; exact .nil
  | cons d ds ih =>
    cases x with
    | cons _ t r =>
      by_cases q : d = n
      · rw [List.filter_cons_of_pos (by simp [isN, q]), List.filter_cons_of_pos (by simp [q])]
        exact .cons _ t (ih r)
      · rw [List.filter_cons_of_neg (by simp [isN]; (first | lia | omega)), List.filter_cons_of_neg (by simp [q])]
        exact ih r
def kids (S : Nat → Bool) (R : Nat → List Nat) (n k : Nat) : List Nat := (List.range k).flatMap fun f => if (16 * n + f != n && S (16 * n + f)) = true then R (16 * n + f) else []
theorem kids_succ (S : Nat → Bool) (R : Nat → List Nat) (n k : Nat) : kids S R n (k + 1) = kids S R n k ++ if (16 * n + k != n && S (16 * n + k)) = true then R (16 * n + k) else [] := by
  unfold kids; rw [List.range_succ, List.flatMap_append]; simp
theorem kids_len {S : Nat → Bool} {R : Nat → List Nat} {n B : Nat} (h : ∀ f, f < 16 → (16 * n + f != n && S (16 * n + f)) = true → (R (16 * n + f)).length ≤ B) : ∀ k, k ≤ 16 → (kids S R n k).length ≤ k * B
  | 0, _ => by simp [kids]
  | k + 1, hk => by
    have ih := kids_len h k (by (first | lia | omega))
    have e : (k + 1) * B = k * B + B := Nat.succ_mul k B
    rw [kids_succ, List.length_append, e]
    by_cases hc : (16 * n + k != n && S (16 * n + k)) = true
    · rw [if_pos hc]
      have := h k (by (first | lia | omega)) hc
      (first | lia | omega)
    · rw [if_neg hc]
      simp only [List.length_nil]
      (first | lia | omega)
inductive WalkJ (S : Nat → Bool) (R : Nat → List Nat) (n : Nat) (ds : List Nat) (D P : Addr) (i : Nat) (m : Str → Option Value) : List (Addr × Obj) → Prop
  | mk (R1 : Addr) (o : Obj) (zs : List Value) (nn : Nat) : o.cls = .type "list" → o.data = .seq (List.toArray zs) nn → IntsAre zs (intsL (ds.filter (· == n) ++ kids S R n i)) → m "found" = some (.ref R1) → m "sizes" = some (.ref D) → m "above" = some (.ref P) → WalkJ S R n ds D P i m [(R1, o)]
theorem walked_step {D P : Addr} {ds : List Nat} {S : Nat → Bool} {R : Nat → List Nat} {k n : Nat} (hn : n < 65536) (hds : ds.length ≤ 8)
    (hrec : ∀ f, f < 16 → (16 * n + f != n && S (16 * n + f)) = true → WalkC w D P ds S k (16 * n + f) (R (16 * n + f)) ∧ (R (16 * n + f)).length ≤ 900000) :
    WalkC w D P ds S (k + 1) n (ds.filter (· == n) ++ kids S R n 16) := by
  intro s A Q E t ys O rm hD hys hP h
  obtain ⟨p, loose, mean, mg, mb, T⟩ := O.T
  refine enterC (n := k) O rm (by k_is) (by k_is) (BindsTo.of_eq (binds := [("size", .int (n : Int) t), ("sizes", .ref D), ("above", .ref P)]) rfl) rfl (by decide +kernel) ?_
  intro dp un L h₁ tk cells hdp hu F N Y X
  k_cells Y
  (try simp only [List.cons_append, List.nil_append] at N)
  rename_i o1 d1
  have sizeC : h₁.IsCell (L + 1) (some (.int (n : Int) t)) := ⟨_, (N _ (.head _)).1, d1⟩
  have hcL : L + 1 ≠ L := Nat.succ_ne_self _
  clear d1 N
  have O1 : Ok w h₁ := O.keeps F.keep
  have hD1 := IsList.keeps' hD F.keep
  have hysl : ys.size = ds.length := by have := hys.length; rw [Array.length_toList, List.length_map] at this; exact this
  refine wpAny_execs_cons ?_
  refine alc_free F rfl (n := ys.size) (P := fun i v => ys[i]? = some v) (isN n) (fun v y => y = v) (ld_local F.ns (v := .ref D) (by rfl) ⟨Keeps.refl _, src_list rfl hD1⟩) (by rw [sizeLine_eq]; (first | lia | omega)) ?_ ?_ ?_
  · intro C i v s₃ m₃ E' hP' hns hm hk _
    obtain ⟨a, ta, rfl⟩ := intsAre_mem hys v (by rw [Array.mem_toList_iff]; exact Array.mem_of_getElem? hP')
    have c3 : s₃.heap.IsCell (L + 1) (some (.int (n : Int) t)) := by obtain ⟨o, e, r⟩ := sizeC; exact ⟨o, hk _ _ e, r⟩
    refine wpAny_tests_one (wpAny_isTrue_Compare1 ?_)
    refine ld_local hns hm ?_
    refine (Rd.cell (c := L + 1) c3) _ _ _ (Keep.refl _) ?_
    refine PyProof.Rows.eq_int ?_
    refine wpAny_truthy_bool ?_
    exact ⟨rfl, keeps_of fun _ _ e => e⟩
  · intro C i v s₃ m₃ E' hP' _ hns hm hk hu'
    exact ld_local hns hm ⟨rfl, Keeps.refl _⟩
  intro R0 h2 tk2 zs vs hR0 hl2 hlen hPv hpair F2 k2
  have hvs : vs = ys.toList := vs_eq (by rw [hlen, Array.length_toList]) (by simpa using hPv)
  have hzs : IntsAre zs.toList (intsL (ds.filter (· == n))) := by rw [paired_eq hpair, hvs]; exact ints_filter hys
  have sizeC2 : h2.IsCell (L + 1) (some (.int (n : Int) t)) := by obtain ⟨o, e, r⟩ := sizeC; exact ⟨o, k2 _ _ hcL e, r⟩
  have hRb : s.heap.get? R0 = none := by
    cases e : s.heap.get? R0 with
    | none => rfl
    | some o => have := F.keep _ _ e; rw [hR0] at this; cases this
  have hRL : R0 ≠ L := list_ne F2.ns hl2
  obtain ⟨oR, eR, cR, nR, dR⟩ := hl2
  have hk0 : kids S R n 0 = [] := rfl
  refine wpAny_execs_cons ?_
  refine for_free (nw₀ := [(R0, oR)]) (n := 16) F2 (fun q hq => by rw [List.mem_singleton.mp hq]; exact ⟨eR, hRL, hRb⟩) rfl
    (WalkJ S R n ds D P)
    (P := fun i v => ∃ t, v = .int (0 + (i : Int)) t) ?_ (.mk R0 oR zs.toList nR cR (by rw [dR]) (by rw [hk0, List.append_nil]; exact hzs) (by rfl) (by rfl) (by rfl)) ?_ ?_
  · refine callT1 (O.keeps F2.keep) (by k_is) boot_range ?_
    refine wpAny_Constant_int ?_
    refine call_range_1 ?_
    refine ⟨keeps_of fun b o e => Heap.get?_push_of_some _ e, fun q => ?_, src_range rfl (IsRange.new ..) (by decide) (by decide)⟩
    have hlt : L < h2.objs.size := F2.ns.lt
    injection q with q
    exact Nat.ne_of_gt hlt q
  · rintro i v h3 tk3 m₁ nw hi ⟨tv, rfl⟩ ⟨R1, o, zs1, nn, oc, od, hz1, e1, e2, e3⟩ F3 N3 k3
    refine hideQ fun T hT => ?_
    have ei : (0 : Int) + (i : Int) = (i : Int) := by (first | lia | omega)
    rw [ei] at F3
    have eb : (16 : Int) * (n : Int) + (i : Int) = ((16 * n + i : Nat) : Int) := by push_cast; rfl
    have sizeC3 : h3.IsCell (L + 1) (some (.int (n : Int) t)) := by obtain ⟨o, e, r⟩ := sizeC2; exact ⟨o, k3 _ _ (fun q => hcL (List.mem_singleton.mp q)) e, r⟩
    have hl3 : h3.IsList R1 zs1.toArray := ⟨o, (N3 _ (.head _)).1, oc, nn, od⟩
    have hR1L := (N3 _ (.head _)).2.1
    refine wpAny_execs_cons ?_
    refine wpAny_Assign_Name ?_
    refine wpAny_BinOp ?_
    refine wpAny_BinOp ?_
    refine wpAny_Constant_int ?_
    refine (Rd.cell (c := L + 1) sizeC3) _ _ _ (Keep.refl _) ?_
    refine PyProof.Rows.mul_int ?_ (PySem.IntMulOk.of_right (PySem.intBits_le_64 (by (first | lia | omega)) (by (first | lia | omega))))
    refine ld_local F3.ns (v := .int (i : Int) tv) (by rfl) ?_
    refine PyProof.Rows.add_int ?_
    rw [eb]
    refine store_F F3 rfl ?_
    intro h4 tk4 F4 k4
    have sizeC4 : h4.IsCell (L + 1) (some (.int (n : Int) t)) := by obtain ⟨o, e, r⟩ := sizeC3; exact ⟨o, k4 _ _ (fun q => hcL (List.mem_singleton.mp q)) e, r⟩
    have hl4 := isList_keepB hl3 k4 (fun q => hR1L (List.mem_singleton.mp q))
    have hP4 : SetN w h4 P S := hP.keeps F4.keep
    have f1 : (fun y => if y = Str.ofString "below" then some (Value.int ((16 * n + i : Nat) : Int) (tk3 + 1 + 1 + 1)) else if y = Str.ofString "figure" then some (Value.int (i : Int) tv) else m₁ y) "found" = some (.ref R1) := by
      simp only [if_neg (show (Str.ofString "found" ≠ Str.ofString "below") by decide), if_neg (show (Str.ofString "found" ≠ Str.ofString "figure") by decide)]; exact e1
    have f2 : ∀ x, (fun y => if y = Str.ofString "below" then some x else if y = Str.ofString "figure" then some (Value.int (i : Int) tv) else m₁ y) "sizes" = some (.ref D) := fun x => by
      simp only [if_neg (show (Str.ofString "sizes" ≠ Str.ofString "below") by decide), if_neg (show (Str.ofString "sizes" ≠ Str.ofString "figure") by decide)]; exact e2
    have f3 : ∀ x, (fun y => if y = Str.ofString "below" then some x else if y = Str.ofString "figure" then some (Value.int (i : Int) tv) else m₁ y) "above" = some (.ref P) := fun x => by
      simp only [if_neg (show (Str.ofString "above" ≠ Str.ofString "below") by decide), if_neg (show (Str.ofString "above" ≠ Str.ofString "figure") by decide)]; exact e3
    have skip : (16 * n + i != n && S (16 * n + i)) = false → kids S R n (i + 1) = kids S R n i := fun q => by rw [kids_succ, q]; simp
    have take : (16 * n + i != n && S (16 * n + i)) = true → kids S R n (i + 1) = kids S R n i ++ R (16 * n + i) := fun q => by rw [kids_succ, q]; simp
    have ec : (((16 * n + i : Nat) : Int) != (n : Int)) = (16 * n + i != n) := by
      rw [Bool.eq_iff_iff, bne_iff_ne, bne_iff_ne]; (first | lia | omega)
    refine wpAny_execs_cons ?_
    refine wpAny_If ?_
    refine isTrue_and ?_
    refine wpAny_isTrue_Compare1 ?_
    refine ld_local F4.ns (v := .int ((16 * n + i : Nat) : Int) _) (by rfl) ?_
    refine (Rd.cell (c := L + 1) sizeC4) _ _ _ (Keep.refl _) ?_
    refine PyProof.Rows.ne_int ?_
    refine wpAny_truthy_bool ?_
    rw [ec]
    cases c1 : (16 * n + i != n)
    · simp only [Bool.false_eq_true, if_false]
      refine wpAny_execs_nil ?_
      refine wpAny_execs_nil ?_
      have q : (16 * n + i != n && S (16 * n + i)) = false := by rw [c1]; rfl
      refine hT _ _ ⟨h4, _, _, [(R1, o)], rfl, F4, .mk R1 o zs1 nn oc od (by rw [skip q]; exact hz1) f1 (f2 _) (f3 _), k4, fun p hp => ?_⟩
      rw [List.mem_singleton.mp hp]
      exact ⟨k4 _ _ (fun q => hR1L (List.mem_singleton.mp q)) (N3 _ (.head _)).1, .inl (by simp)⟩
    · simp only [if_true]
      refine isTrue_and ?_
      refine wpAny_isTrue_Compare1 ?_
      refine ld_local F4.ns (v := .int ((16 * n + i : Nat) : Int) _) (by rfl) ?_
      refine ld_local F4.ns (v := .ref P) (f3 _) ?_
      obtain ⟨oP, S', nP, eP, so, hn4, hS⟩ := id hP4
      refine wpAny_inSet_of (intKind_is _ _ _ _) rfl (so.setOf eP hn4) ?_
      rw [hS]
      refine wpAny_truthy_bool ?_
      cases c2 : S (16 * n + i)
      · simp only [Bool.false_eq_true, if_false]
        refine wpAny_execs_nil ?_
        refine wpAny_execs_nil ?_
        have q : (16 * n + i != n && S (16 * n + i)) = false := by rw [c1, c2]; rfl
        refine hT _ _ ⟨h4, _, _, [(R1, o)], rfl, F4, .mk R1 o zs1 nn oc od (by rw [skip q]; exact hz1) f1 (f2 _) (f3 _), k4, fun p hp => ?_⟩
        rw [List.mem_singleton.mp hp]
        exact ⟨k4 _ _ (fun q => hR1L (List.mem_singleton.mp q)) (N3 _ (.head _)).1, .inl (by simp)⟩
      · simp only [if_true]
        refine isTrue_and_nil ?_
        simp only [if_true]
        have q : (16 * n + i != n && S (16 * n + i)) = true := by rw [c1, c2]; rfl
        obtain ⟨hw, hwl⟩ := hrec i hi q
        have O4 : Ok w h4 := O.keeps F4.keep
        have fk : FnAt 182 h4 := FnK.at (w := w) ⟨_, _, _, _, by k_is⟩ O4
        refine wpAny_execs_cons ?_
        refine wpAny_Assign_Name ?_
        refine wpAny_BinOp ?_
        refine ld_local F4.ns (v := .ref R1) f1 ?_
        refine wpAny_bind (ld_glob (v := .ref 182) O4 (by k_is) ?_)
        refine callWith_F fk ?_ (by rfl) (by rfl)
        refine spliced_cons ?_
        show wpAny _ _ (eval _ _) _ _ _
        refine ld_local F4.ns (v := .int ((16 * n + i : Nat) : Int) _) (by rfl) ?_
        refine spliced_cons ?_
        show wpAny _ _ (eval _ _) _ _ _
        refine ld_local F4.ns (v := .ref D) (f2 _) ?_
        refine spliced_cons ?_
        show wpAny _ _ (eval _ _) _ _ _
        refine ld_local F4.ns (v := .ref P) (f3 _) ?_
        refine spliced_nil ⟨fk, ?_⟩
        refine hw _ _ _ _ _ ys O4 ⟨rfl, hdp, hu⟩ (IsList.keeps' hD F4.keep) hys hP4 fun R2 h5 tk5 zs2 hl5 hz2 hR2 k5 => ?_
        have F5 := F4.keeps k5
        have hl51 := IsList.keeps' hl4 k5
        have z1 : zs1.length ≤ 8 + 16 * 900000 := by
          rw [hz1.length, List.length_map, List.length_append]
          have h1 := List.length_filter_le (· == n) ds
          have h2 := kids_len (S := S) (R := R) (n := n) (B := 900000) (fun f hf hq => (hrec f hf hq).2) i (by (first | lia | omega))
          have h3 : i * 900000 ≤ 16 * 900000 := Nat.mul_le_mul_right _ (by (first | lia | omega))
          (first | lia | omega)
        have z2 : zs2.size ≤ 900000 := by
          have := hz2.length; rw [Array.length_toList, List.length_map] at this; (first | lia | omega)
        refine add_lists0 (vs := zs1) (ws := zs2.toList) hl51 (by rw [Array.toArray_toList]; exact hl5) ?_ (by rw [sizeLine_eq]; have e9 : zs2.toList.length = zs2.size := Array.length_toList; (first | lia | omega))
        have k6 : ∀ o : Obj, Keep h5 (h5.push o) := fun o b oo e => Heap.get?_push_of_some _ e
        have F6 := F5.keeps (k6 { cls := .type "list", data := .seq (zs1 ++ zs2.toList).toArray })
        refine store_F F6 rfl ?_
        intro h7 tk7 F7 k7
        have hz5 : h5.objs.size ≠ L := Nat.ne_of_gt F5.ns.lt
        refine wpAny_execs_nil ?_
        refine wpAny_execs_nil ?_
        refine hT _ _ ⟨h7, _, _, [(h5.objs.size, { cls := .type "list", data := .seq (zs1 ++ zs2.toList).toArray })], rfl, F7, .mk h5.objs.size _ (zs1 ++ zs2.toList) 0 rfl rfl ?_ (by rfl) ?_ ?_, ?_, ?_⟩
        · rw [take q, ← List.append_assoc]
          show IntsAre _ (List.map _ _)
          rw [List.map_append]
          exact hz1.append hz2
        · simp only [if_neg (show (Str.ofString "sizes" ≠ Str.ofString "found") by decide)]; exact f2 _
        · simp only [if_neg (show (Str.ofString "above" ≠ Str.ofString "found") by decide)]; exact f3 _
        · exact fun b o nb e => k7 _ _ nb (k6 _ _ _ (k5 _ _ (k4 _ _ nb e)))
        · intro p hp
          rw [List.mem_singleton.mp hp]
          refine ⟨k7 _ _ (fun q => hz5 (List.mem_singleton.mp q)) (Heap.get?_push_size _ rfl), .inr ?_⟩
          cases e : h3.get? h5.objs.size with
          | none => rfl
          | some o => exact absurd (Heap.lt_size (k5 _ _ (k4 _ _ (fun q => hz5 (List.mem_singleton.mp q)) e))) (Nat.lt_irrefl _)
  · rintro h3 tk3 m' nw ⟨R1, o, zs1, nn, oc, od, hz1, e1, e2, e3⟩ F3 N3 k3
    have hl3 : h3.IsList R1 zs1.toArray := ⟨o, (N3 _ (.head _)).1, oc, nn, od⟩
    refine wpAny_execs_cons ?_
    refine wpAny_Return_some ?_
    refine ld_local F3.ns e1 ?_
    exact h R1 h3 _ zs1.toArray hl3 hz1 (N3 _ (.head _)).2.2 F3.keep
end
end Mine
end
theorem Mine.calmP6 : True := by w_top off; trivial
section
set_option maxRecDepth 100000
set_option linter.unusedVariables false
namespace Mine
theorem val_app_ge (p q : List Nat) : val p ≤ val (p ++ q) := by
  unfold val
  rw [List.foldl_append]
  generalize p.foldl (fun a d => 16 * a + d) 0 = a
  induction q generalizing a with
  | nil => exact Nat.le_refl _
  | cons d q ih => rw [List.foldl_cons]; exact Nat.le_trans (by (first | lia | omega)) (ih (16 * a + d))
theorem prefix_val {a b : Nat} (ha : a < 65536) (hb : b < 65536) (h : digs a <+: digs b) : a ≤ b := by
  obtain ⟨q, e⟩ := h
  rw [← val_digs ha, ← val_digs hb, ← e]
  exact val_app_ge _ _
theorem lcp_drop {p y : List Nat} {c : Nat} (h : ¬ (p ++ [c]) <+: y) : lcp (p ++ [c]) y = lcp p y := by
  refine prefix_antisymm ?_ (lcp_great ((lcp_left p y).trans (List.prefix_append _ _)) (lcp_right p y))
  have h1 := lcp_left (p ++ [c]) y
  have h2 := lcp_right (p ++ [c]) y
  rcases List.prefix_concat_iff.mp h1 with e | e
  · exfalso; apply h; rw [← e]; exact h2
  · exact lcp_great e h2
theorem met_lcp : ∀ (k a b : Nat), a + b ≤ k → a < 65536 → b < 65536 → digs (met a b) = lcp (digs a) (digs b) ∧ met a b < 65536 := by
  intro k
  induction k with
  | zero =>
    intro a b h ha hb
    have : a = 0 := by (first | lia | omega)
    have : b = 0 := by (first | lia | omega)
    subst a b
    unfold met
    rw [if_pos rfl, lcp_self]
    exact ⟨rfl, ha⟩
  | succ k ih =>
    intro a b h ha hb
    unfold met
    by_cases hab : a = b
    · subst hab; rw [if_pos rfl, lcp_self]; exact ⟨rfl, ha⟩
    · rw [if_neg hab]
      by_cases hlt : b < a
      · rw [if_pos hlt]
        have := ih (a / 16) b (by (first | lia | omega)) (by (first | lia | omega)) hb
        refine ⟨?_, this.2⟩
        rw [this.1, digs_div ha (by (first | lia | omega)), lcp_drop]
        intro hp
        rw [← digs_div ha (by (first | lia | omega))] at hp
        have := prefix_val ha hb hp
        (first | lia | omega)
      · rw [if_neg hlt]
        have := ih a (b / 16) (by (first | lia | omega)) ha (by (first | lia | omega))
        refine ⟨?_, this.2⟩
        rw [this.1, lcp_comm (digs a) (digs b), digs_div hb (by (first | lia | omega)), lcp_drop, lcp_comm]
        intro hp
        rw [← digs_div hb (by (first | lia | omega))] at hp
        have := prefix_val hb ha hp
        (first | lia | omega)
/-! the head of all -/
theorem glb_perm {x y : List Nat} {r q : List (List Nat)} (h : (x :: r).Perm (y :: q)) : glb x r = glb y q :=
  glb_uniq (fun z hz => glb_prefix y q z (h.mem_iff.mp hz)) fun p hp => glb_great y q fun z hz => hp z (h.mem_iff.mpr hz)
theorem glb_ends {x y : List Nat} {r : List (List Nat)} (hs : (x :: r ++ [y]).Pairwise (fun a b => lex ltN b a = false)) : glb x (r ++ [y]) = lcp x y := by
  refine glb_uniq (fun z hz => ?_) fun p hp => lcp_great (hp x (.head _)) (hp y (by simp))
  have hz' : z ∈ x :: (r ++ [y]) := hz
  rw [← List.cons_append] at hz'
  rcases List.mem_append.mp hz' with q | q
  · rcases List.mem_cons.mp q with rfl | q
    · exact lcp_left _ _
    · rw [List.pairwise_append] at hs
      exact lcp_mid sto_N ((List.pairwise_cons.mp hs.1).1 z q) (hs.2.2 z (.tail _ q) y (by simp))
  · rw [List.mem_singleton.mp q]; exact lcp_right _ _
/-! counting -/
/-- the heads of x longer than n -/
def heads (x : List Nat) (n : Nat) : List (List Nat) := (List.range (x.length - n)).map fun i => x.take (n + i + 1)
theorem heads_mem {x p : List Nat} {n : Nat} : p ∈ heads x n ↔ p <+: x ∧ n < p.length := by
  unfold heads
  rw [List.mem_map]
  constructor
  · rintro ⟨i, hi, rfl⟩
    rw [List.mem_range] at hi
    exact ⟨List.take_prefix _ _, by rw [List.length_take]; (first | lia | omega)⟩
  · rintro ⟨hp, hn⟩
    have hl := hp.length_le
    refine ⟨p.length - n - 1, List.mem_range.mpr (by (first | lia | omega)), ?_⟩
    rw [show n + (p.length - n - 1) + 1 = p.length by (first | lia | omega)]
    exact (List.prefix_iff_eq_take.mp hp).symm
theorem heads_len (x : List Nat) (n : Nat) : (heads x n).length = x.length - n := by simp [heads]
theorem heads_nodup (x : List Nat) (n : Nat) : (heads x n).Nodup := by
  unfold heads
  refine List.pairwise_map.mpr (List.Pairwise.imp_of_mem ?_ (List.nodup_range (n := x.length - n)))
  intro i j hi hj hne e
  apply hne
  rw [List.mem_range] at hi hj
  have := congrArg List.length e
  rw [List.length_take, List.length_take] at this
  (first | lia | omega)
/-- every head once, at its last bearer -/
def nodes : List (List Nat) → List (List Nat)
  | [] => []
  | [x] => heads x 0
  | x :: y :: r => heads x (lcp x y).length ++ nodes (y :: r)
theorem nodes_mem : ∀ {l : List (List Nat)} {p : List Nat}, p ∈ nodes l ↔ p ≠ [] ∧ ∃ z ∈ l, p <+: z
  | [], p => by simp [nodes]
  | [x], p => by
    simp only [nodes, heads_mem, List.mem_singleton, exists_eq_left]
    constructor
    · rintro ⟨h, hl⟩; exact ⟨fun e => by rw [e] at hl; simp at hl, h⟩
    · rintro ⟨h, hl⟩; exact ⟨hl, by cases p with | nil => exact absurd rfl h | cons _ _ => simp⟩
  | x :: y :: r, p => by
    simp only [nodes, List.mem_append, heads_mem, nodes_mem (l := y :: r)]
    constructor
    · rintro (⟨h, hl⟩ | ⟨h, z, hz, hp⟩)
      · exact ⟨fun e => by rw [e] at hl; simp at hl, x, .head _, h⟩
      · exact ⟨h, z, .tail _ hz, hp⟩
    · rintro ⟨h, z, hz, hp⟩
      rcases List.mem_cons.mp hz with rfl | hz
      · by_cases hl : (lcp z y).length < p.length
        · exact .inl ⟨hp, hl⟩
        · refine .inr ⟨h, y, .head _, ?_⟩
          have : p <+: lcp z y := List.prefix_of_prefix_length_le hp (lcp_left z y) (by (first | lia | omega))
          exact this.trans (lcp_right z y)
      · exact .inr ⟨h, z, hz, hp⟩
theorem nodes_nodup : ∀ {l : List (List Nat)}, l.Pairwise (fun a b => lex ltN b a = false) → (nodes l).Nodup
  | [], _ => List.nodup_nil
  | [x], _ => heads_nodup x 0
  | x :: y :: r, h => by
    have h1 := List.pairwise_cons.mp h
    refine List.nodup_append.mpr ⟨heads_nodup _ _, nodes_nodup h1.2, ?_⟩
    intro p hp q hq e
    subst e
    obtain ⟨hpx, hl⟩ := heads_mem.mp hp
    obtain ⟨_, z, hz, hpz⟩ := nodes_mem.mp hq
    have hpy : p <+: y := by
      rcases List.mem_cons.mp hz with rfl | hz'
      · exact hpz
      · exact (lcp_great hpx hpz).trans (lcp_mid sto_N (h1.1 y (.head _)) ((List.pairwise_cons.mp h1.2).1 z hz'))
    have := (lcp_great hpx hpy).length_le
    (first | lia | omega)
def between : List (List Nat) → List Nat
  | [] => []
  | [_] => []
  | x :: y :: r => (lcp x y).length :: between (y :: r)
theorem nodes_len : ∀ (l : List (List Nat)), (nodes l).length + (between l).sum = (l.map List.length).sum
  | [] => rfl
  | [x] => by simp [nodes, between, heads_len]
  | x :: y :: r => by
    have ih := nodes_len (y :: r)
    have := (lcp_left x y).length_le
    simp only [nodes, between, List.length_append, heads_len, List.sum_cons, List.map_cons] at *
    (first | lia | omega)
theorem len_of_mem {U V : List (List Nat)} (hU : U.Nodup) (hV : V.Nodup) (h : ∀ p, p ∈ U ↔ p ∈ V) : U.length = V.length := ((List.perm_ext_iff_of_nodup hU hV).mpr h).length_eq
end Mine
end
theorem Mine.calmP7 : True := by w_top off; trivial
section
set_option maxRecDepth 100000
set_option linter.unusedVariables false
namespace Mine
def walkR (ds : List Nat) (S : Nat → Bool) : Nat → Nat → List Nat
  | 0, n => ds.filter (· == n) ++ kids S (fun _ => []) n 16
  | k + 1, n => ds.filter (· == n) ++ kids S (walkR ds S k) n 16
theorem digs_four {n : Nat} (h : n < 65536) (h4 : 4 ≤ (digs n).length) : 4096 ≤ n := by
  refine cases5 (P := fun n => 4 ≤ (digs n).length → 4096 ≤ n) n h ?_ ?_ ?_ ?_ ?_ h4
  · rintro rfl q; simp [digs_0] at q
  · intro a b q; rw [digs_1 a b] at q; simp at q
  · intro a b q; rw [digs_2 a b] at q; simp at q
  · intro a b q; rw [digs_3 a b] at q; simp at q
  · intro a b q; exact a
/-- S holds the heads of ds -/
def HeadSet (ds : List Nat) (S : Nat → Bool) : Prop := ∀ m, S m = true ↔ m ≠ 0 ∧ m < 65536 ∧ ∃ d ∈ ds, digs m <+: digs d
section
variable {ds : List Nat} {S : Nat → Bool}
theorem HeadSet.child (hS : HeadSet ds S) {n f : Nat} (hf : f < 16) (q : (16 * n + f != n && S (16 * n + f)) = true) : 16 * n + f < 65536 ∧ digs (16 * n + f) = digs n ++ [f] := by
  rw [Bool.and_eq_true] at q
  have := (hS _).mp q.2
  exact ⟨this.2.1, digs_snoc this.2.1 hf this.1⟩
theorem walked {w : PySem.World} {D P : PySem.Addr} (hS : HeadSet ds S) (hl : ds.length ≤ 8) : ∀ k n, k ≤ 4 → n < 65536 → 4 ≤ k + (digs n).length → WalkC w D P ds S (k + 1) n (walkR ds S k n) ∧ (walkR ds S k n).length ≤ 8 * 17 ^ k
  | 0, n, _, hn, h4 => by
    have hb : ∀ f, f < 16 → (16 * n + f != n && S (16 * n + f)) = true → False := fun f hf q => by
      have := (hS.child hf q).1
      have := digs_four hn (by (first | lia | omega))
      (first | lia | omega)
    refine ⟨walked_step (R := fun _ => []) (k := 0) hn hl fun f hf q => (hb f hf q).elim, ?_⟩
    unfold walkR
    have h1 := List.length_filter_le (· == n) ds
    have h2 := kids_len (S := S) (R := fun _ => []) (n := n) (B := 0) (fun f hf q => by simp) 16 (by (first | lia | omega))
    rw [List.length_append]
    (first | lia | omega)
  | k + 1, n, hk, hn, h4 => by
    have hr : ∀ f, f < 16 → (16 * n + f != n && S (16 * n + f)) = true → WalkC w D P ds S (k + 1) (16 * n + f) (walkR ds S k (16 * n + f)) ∧ (walkR ds S k (16 * n + f)).length ≤ 8 * 17 ^ k := fun f hf q => by
      obtain ⟨c1, c2⟩ := hS.child hf q
      exact walked hS hl k (16 * n + f) (by (first | lia | omega)) c1 (by rw [c2, List.length_append, List.length_singleton]; (first | lia | omega))
    have h17 : 17 ^ k ≤ 17 ^ 3 := Nat.pow_le_pow_right (by decide) (by (first | lia | omega))
    have h0 : (17 : Nat) ^ 3 = 4913 := by decide
    refine ⟨walked_step (k := k + 1) hn hl fun f hf q => ⟨(hr f hf q).1, Nat.le_trans (hr f hf q).2 (by (first | lia | omega))⟩, ?_⟩
    unfold walkR
    have h1 := List.length_filter_le (· == n) ds
    have h2 := kids_len (S := S) (R := walkR ds S k) (n := n) (B := 8 * 17 ^ k) (fun f hf q => (hr f hf q).2) 16 (by (first | lia | omega))
    rw [List.length_append, Nat.pow_succ]
    have h3 : 1 ≤ 17 ^ k := Nat.pow_pos (by decide)
    (first | lia | omega)
theorem kids_mem {R : Nat → List Nat} {n a : Nat} : ∀ {j}, a ∈ kids S R n j → ∃ f, f < j ∧ (16 * n + f != n && S (16 * n + f)) = true ∧ a ∈ R (16 * n + f)
  | 0, h => by simp [kids] at h
  | j + 1, h => by
    rw [kids_succ] at h
    rcases List.mem_append.mp h with h | h
    · obtain ⟨f, h1, h2⟩ := kids_mem h; exact ⟨f, by (first | lia | omega), h2⟩
    · split at h
      · rename_i q; exact ⟨j, by (first | lia | omega), q, h⟩
      · simp at h
theorem walk_mem (hS : HeadSet ds S) : ∀ k n a, a ∈ walkR ds S k n → a ∈ ds ∧ digs n <+: digs a
  | 0, n, a, h => by
    unfold walkR at h
    rcases List.mem_append.mp h with h | h
    · obtain ⟨h1, h2⟩ := List.mem_filter.mp h
      have : a = n := by simpa using h2
      exact ⟨h1, by rw [this]; exact List.prefix_refl _⟩
    · obtain ⟨f, _, _, hm⟩ := kids_mem h; simp at hm
  | k + 1, n, a, h => by
    unfold walkR at h
    rcases List.mem_append.mp h with h | h
    · obtain ⟨h1, h2⟩ := List.mem_filter.mp h
      have : a = n := by simpa using h2
      exact ⟨h1, by rw [this]; exact List.prefix_refl _⟩
    · obtain ⟨f, hf, q, hm⟩ := kids_mem h
      obtain ⟨h1, h2⟩ := walk_mem hS k _ a hm
      rw [(hS.child hf q).2] at h2
      exact ⟨h1, (List.prefix_append _ _).trans h2⟩
theorem kids_count {R : Nat → List Nat} {n a c f0 : Nat} (h : ∀ f, f < 16 → (if (16 * n + f != n && S (16 * n + f)) = true then R (16 * n + f) else []).count a = if f = f0 then c else 0) : ∀ j, j ≤ 16 → (kids S R n j).count a = if f0 < j then c else 0
  | 0, _ => by simp [kids]
  | j + 1, hj => by
    rw [kids_succ, List.count_append, kids_count h j (by (first | lia | omega)), h j (by (first | lia | omega))]
    by_cases h1 : f0 < j
    · rw [if_pos h1, if_neg (by (first | lia | omega)), if_pos (by (first | lia | omega))]; rfl
    · rw [if_neg h1]
      by_cases h2 : j = f0
      · rw [if_pos h2, if_pos (by (first | lia | omega)), Nat.zero_add]
      · rw [if_neg h2, if_neg (by (first | lia | omega))]
theorem self_count (n a : Nat) : (ds.filter (· == n)).count a = if a = n then ds.count a else 0 := by
  by_cases h : a = n
  · rw [if_pos h, List.count_filter (by simpa using h)]
  · rw [if_neg h, List.count_eq_zero]
    intro q
    exact h (by simpa using (List.mem_filter.mp q).2)
theorem app_single_prefix {p y : List Nat} {f g : Nat} (h1 : p ++ [f] <+: y) (h2 : p ++ [g] <+: y) : f = g := by
  obtain ⟨u, rfl⟩ := h1
  obtain ⟨v, e⟩ := h2
  simp at e
  exact e.1.symm
theorem walk_count (hS : HeadSet ds S) (hds : ∀ d ∈ ds, d < 65536) : ∀ k n a, n < 65536 → 4 ≤ k + (digs n).length → a ∈ ds → (walkR ds S k n).count a = if digs n <+: digs a then ds.count a else 0
  | 0, n, a, hn, h4, ha => by
    unfold walkR
    have hz : (kids S (fun _ => []) n 16).count a = 0 := by
      rw [List.count_eq_zero]; intro q; obtain ⟨f, _, _, hm⟩ := kids_mem q; simp at hm
    rw [List.count_append, hz, self_count, Nat.add_zero]
    by_cases hp : digs n <+: digs a
    · have : digs n = digs a := hp.eq_of_length (Nat.le_antisymm hp.length_le (by have := (num_digs (hds a ha)).2; (first | lia | omega)))
      rw [if_pos hp, if_pos (digs_inj hn (hds a ha) this).symm]
    · rw [if_neg hp, if_neg (fun e => hp (by rw [e]; exact List.prefix_refl _))]
  | k + 1, n, a, hn, h4, ha => by
    unfold walkR
    rw [List.count_append, self_count]
    have term : ∀ f, f < 16 → (if (16 * n + f != n && S (16 * n + f)) = true then walkR ds S k (16 * n + f) else []).count a = if digs n ++ [f] <+: digs a ∧ (16 * n + f ≠ 0) then ds.count a else 0 := by
      intro f hf
      by_cases q : (16 * n + f != n && S (16 * n + f)) = true
      · obtain ⟨c1, c2⟩ := hS.child hf q
        rw [if_pos q, walk_count hS hds k _ a c1 (by rw [c2, List.length_append, List.length_singleton]; (first | lia | omega)) ha, c2]
        have h0 : 16 * n + f ≠ 0 := ((hS _).mp (by rw [Bool.and_eq_true] at q; exact q.2)).1
        by_cases hp : digs n ++ [f] <+: digs a
        · rw [if_pos hp, if_pos ⟨hp, h0⟩]
        · rw [if_neg hp, if_neg (fun x => hp x.1)]
      · rw [if_neg q, List.count_nil, if_neg]
        rintro ⟨hp, h0⟩
        apply q
        have hlt : 16 * n + f < 65536 := by
          have h1 := hp.length_le
          rw [List.length_append, List.length_singleton] at h1
          have h2 := (num_digs (hds a ha)).2
          have h3 : n < 4096 := by
            rcases Nat.lt_or_ge n 4096 with q | q
            · exact q
            · rw [digs_4 q hn] at h1; simp at h1; (first | lia | omega)
          (first | lia | omega)
        rw [Bool.and_eq_true]
        exact ⟨by simp; (first | lia | omega), (hS _).mpr ⟨h0, hlt, a, ha, by rw [digs_snoc hlt hf h0]; exact hp⟩⟩
    by_cases hp : digs n <+: digs a
    · rw [if_pos hp]
      by_cases he : a = n
      · subst he
        rw [if_pos rfl, kids_count (f0 := 16) (c := 0) (fun f hf => ?_) 16 (by (first | lia | omega))]
        · simp
        · rw [term f hf, if_neg (fun x => by have h9 := x.1.length_le; rw [List.length_append, List.length_singleton] at h9; (first | lia | omega)), if_neg (by (first | lia | omega))]
      · rw [if_neg he]
        obtain ⟨u, hu⟩ := hp
        cases u with
        | nil => exact absurd (digs_inj (hds a ha) hn (by rw [← hu]; simp)) he
        | cons f0 r =>
          have hf0 : f0 < 16 := (num_digs (hds a ha)).1 f0 (by rw [← hu]; simp)
          have hpre : digs n ++ [f0] <+: digs a := ⟨r, by rw [← hu]; simp⟩
          have hnz : 16 * n + f0 ≠ 0 := by
            intro q
            have hn0 : n = 0 := by (first | lia | omega)
            have hf : f0 = 0 := by (first | lia | omega)
            subst hn0 hf
            rw [digs_0] at hu
            have ha0 := hds a ha
            refine cases5 (P := fun a => [] ++ 0 :: r = digs a → False) a ha0 ?_ ?_ ?_ ?_ ?_ hu
            · rintro rfl e; simp [digs_0] at e
            · intro x y e; rw [digs_1 x y] at e; simp at e; (first | lia | omega)
            · intro x y e; rw [digs_2 x y] at e; simp at e; (first | lia | omega)
            · intro x y e; rw [digs_3 x y] at e; simp at e; (first | lia | omega)
            · intro x y e; rw [digs_4 x y] at e; simp at e; (first | lia | omega)
          rw [kids_count (f0 := f0) (c := ds.count a) (fun f hf => ?_) 16 (by (first | lia | omega)), if_pos hf0, Nat.zero_add]
          rw [term f hf]
          by_cases hff : f = f0
          · subst hff; rw [if_pos ⟨hpre, hnz⟩, if_pos rfl]
          · rw [if_neg hff, if_neg (fun x => hff (app_single_prefix x.1 hpre))]
    · rw [if_neg hp, if_neg (fun e => hp (by rw [e]; exact List.prefix_refl _)), kids_count (f0 := 16) (c := 0) (fun f hf => ?_) 16 (by (first | lia | omega))]
      · simp
      · rw [term f hf, if_neg (fun x => hp ((List.prefix_append _ _).trans x.1)), if_neg (by (first | lia | omega))]
theorem walk_perm (hS : HeadSet ds S) (hds : ∀ d ∈ ds, d < 65536) : (walkR ds S 4 0).Perm ds := by
  rw [List.perm_iff_count]
  intro a
  by_cases ha : a ∈ ds
  · rw [walk_count hS hds 4 0 a (by (first | lia | omega)) (by (first | lia | omega)) ha, if_pos (by rw [digs_0]; exact List.nil_prefix)]
  · rw [List.count_eq_zero.mpr ha, List.count_eq_zero]
    exact fun q => ha (walk_mem hS 4 0 a q).1
theorem own_sorted (n : Nat) : (ds.filter (· == n)).Pairwise (fun a b => lex ltN (digs b) (digs a) = false) := by
  refine List.Pairwise.imp_of_mem (R := fun _ _ => True) ?_ (List.pairwise_of_forall fun _ _ => trivial)
  intro a b ha hb _
  have e1 : a = n := by simpa using (List.mem_filter.mp ha).2
  have e2 : b = n := by simpa using (List.mem_filter.mp hb).2
  rw [e1, e2, lex_irr sto_N]
theorem apart_sorted {p x y : List Nat} {f g : Nat} (h1 : p ++ [f] <+: x) (h2 : p ++ [g] <+: y) (h : f < g) : lex ltN y x = false := by
  obtain ⟨u, rfl⟩ := h1
  obtain ⟨v, rfl⟩ := h2
  rw [List.append_assoc, List.append_assoc, lex_app]
  have hne : ¬ g = f := by (first | lia | omega)
  have hlt : ¬ g < f := by (first | lia | omega)
  simp [lex, hne, ltN, hlt]
theorem walk_sorted (hS : HeadSet ds S) : ∀ k n, (walkR ds S k n).Pairwise (fun a b => lex ltN (digs b) (digs a) = false)
  | 0, n => by
    unfold walkR
    have e : kids S (fun _ => []) n 16 = [] := List.eq_nil_iff_forall_not_mem.mpr fun a q => by obtain ⟨f, _, _, hm⟩ := kids_mem q; simp at hm
    rw [e, List.append_nil]
    exact own_sorted n
  | k + 1, n => by
    unfold walkR
    have hk : ∀ j, j ≤ 16 → (kids S (walkR ds S k) n j).Pairwise (fun a b => lex ltN (digs b) (digs a) = false) := by
      intro j
      induction j with
      | zero => intro _; simp [kids]
      | succ j ih =>
        intro hj
        rw [kids_succ]
        refine List.pairwise_append.mpr ⟨ih (by (first | lia | omega)), ?_, ?_⟩
        · split
          · exact walk_sorted hS k _
          · exact List.Pairwise.nil
        · intro a ha b hb
          split at hb
          · rename_i q
            obtain ⟨f, hf, qf, hma⟩ := kids_mem ha
            have h1 := (walk_mem hS k _ a hma).2
            have h2 := (walk_mem hS k _ b hb).2
            rw [(hS.child (by (first | lia | omega)) qf).2] at h1
            rw [(hS.child (by (first | lia | omega)) q).2] at h2
            exact apart_sorted h1 h2 hf
          · simp at hb
    refine List.pairwise_append.mpr ⟨own_sorted n, hk 16 (by (first | lia | omega)), ?_⟩
    intro a ha b hb
    have e1 : a = n := by simpa using (List.mem_filter.mp ha).2
    obtain ⟨f, hf, qf, hmb⟩ := kids_mem hb
    have h1 := (walk_mem hS k _ b hmb).2
    rw [(hS.child hf qf).2] at h1
    rw [e1]
    exact prefix_le sto_N ((List.prefix_append _ _).trans h1)
end
theorem sorted_uniq {u v : List (List Nat)} (hp : u.Perm v) (hu : u.Pairwise (fun a b => lex ltN b a = false)) (hv : v.Pairwise (fun a b => lex ltN b a = false)) : u = v :=
  List.Perm.eq_of_pairwise (le := fun a b => lex ltN b a = false) (fun a b _ _ h1 h2 => sto_N.lex.anti h1 h2) hu hv hp
end Mine
end
theorem Mine.calmN5 : True := by w_top off; trivial
section
open PySem PySem.W PyProof.Rows PySem.Calls
open PySem.Builtin
set_option maxRecDepth 100000
set_option maxHeartbeats 4000000
set_option linter.unusedVariables false
namespace Mine
theorem dedup_nodup : ∀ (l σ : List Int), σ.Nodup → (l.foldl step_dedup σ).Nodup
  | [], σ, h => h
  | x :: l, σ, h => by
    rw [List.foldl_cons]
    refine dedup_nodup l _ ?_
    unfold step_dedup
    by_cases q : (σ.any (· == x)) = true
    · rw [if_pos q]; exact h
    · rw [if_neg q]
      refine List.nodup_append.mpr ⟨h, by simp, ?_⟩
      intro a ha b hb e
      rw [List.mem_singleton.mp hb] at e
      apply q
      rw [List.any_eq_true]
      exact ⟨a, ha, by simp [e]⟩
theorem range_getDI (ns : List Int) : (List.range ns.length).map (fun i => ns.getD i 0) = ns := by
  apply List.ext_getElem
  · simp
  · intro i h1 h2; simp [h2]
/-- a set with the members of zs -/
def SetU (w : World) (h : Heap) (P : Addr) (zs : List Nat) : Prop :=
  ∃ o S' n, h.get? P = some o ∧ o.SetObjOf (intKind PySem.Challenge.rw_pd0134_01.row.prog w) S' n ∧ n < 4096 ∧ (∀ k : Nat, S' ((k : Nat) : Int) = decide (k ∈ zs)) ∧ ∃ U : List Nat, U.Nodup ∧ (∀ k, k ∈ U ↔ k ∈ zs) ∧ n = U.length
theorem SetU.keeps {w : World} {h h' : Heap} {P : Addr} {zs : List Nat} (x : SetU w h P zs) (k : Keep h h') : SetU w h' P zs := by
  obtain ⟨o, S', n, e, r⟩ := x; exact ⟨o, S', n, k _ _ e, r⟩
theorem SetU.setN {w : World} {h : Heap} {P : Addr} {zs : List Nat} (x : SetU w h P zs) : SetN w h P (fun k => decide (k ∈ zs)) := by
  obtain ⟨o, S', n, e, a, b, c, _⟩ := x; exact ⟨o, S', n, e, a, b, c⟩
section
variable {w : World} {s : Shared} {A : Around} {Q E : Value → Shared → Prop}
theorem set_c {l : Addr} {items : Array Value} {zs : List Nat} (hh : A.handled = none) (hl : s.heap.IsList l items) (hi : IntsAre items.toList (intsL zs)) (hz : zs.length ≤ 100)
    (h : ∀ P h' tk, SetU w h' P zs → Keep s.heap h' → s.heap.get? P = none → Q (.ref P) { s with heap := h', toks := tk }) : wpAny (mdl w) A (call (.type "set") [.ref l]) Q E s := by
  have hsz : items.size = zs.length := by have := hi.length; rw [Array.length_toList, List.length_map] at this; exact this
  have hsc : scanBound = 4096 := rfl
  refine call_set_list hh hl hi (by (first | lia | omega)) fun h' tk hS hk => ?_
  refine h s.heap.objs.size h' tk ?_ (fun b o e => hk b o (Heap.lt_size e) e) (new_none _)
  obtain ⟨o, ho, hso⟩ := hS.objOf
  have hmem : ∀ x : Int, x ∈ firstMet (fun i => (intsL zs).getD i 0) items.size ↔ x ∈ intsL zs := by
    intro x
    have h1 := firstMet_any (fun i => (intsL zs).getD i 0) items.size x
    rw [show items.size = (intsL zs).length by rw [List.length_map]; exact hsz, range_getDI] at h1
    rw [show items.size = (intsL zs).length by rw [List.length_map]; exact hsz]
    constructor
    · intro hx
      have : ((firstMet (fun i => (intsL zs).getD i 0) (intsL zs).length).any (· == x)) = true := List.any_eq_true.mpr ⟨x, hx, by simp⟩
      rw [h1] at this
      obtain ⟨y, hy, e⟩ := List.any_eq_true.mp this
      have : y = x := by simpa using e
      exact this ▸ hy
    · intro hx
      have : ((intsL zs).any (· == x)) = true := List.any_eq_true.mpr ⟨x, hx, by simp⟩
      rw [← h1] at this
      obtain ⟨y, hy, e⟩ := List.any_eq_true.mp this
      have : y = x := by simpa using e
      exact this ▸ hy
  have hin : ∀ k : Nat, ((k : Nat) : Int) ∈ intsL zs ↔ k ∈ zs := fun k => by
    rw [List.mem_map]
    constructor
    · rintro ⟨d, hd, e⟩; have : d = k := by (first | lia | omega)
      exact this ▸ hd
    · intro hk; exact ⟨k, hk, rfl⟩
  have hle := firstMet_length_le (fun i => (intsL zs).getD i 0) items.size
  refine ⟨o, _, _, ho, hso, by (first | lia | omega), fun k => ?_, (firstMet (fun i => (intsL zs).getD i 0) items.size).map Int.toNat, ?_, ?_, by simp⟩
  · rw [Bool.eq_iff_iff, decide_eq_true_iff, ← hin, ← hmem, List.any_eq_true]
    constructor
    · rintro ⟨y, hy, e⟩; have : y = (k : Int) := by simpa using e
      exact this ▸ hy
    · intro hy; exact ⟨_, hy, by simp⟩
  · refine List.pairwise_map.mpr (List.Pairwise.imp_of_mem ?_ (dedup_nodup _ [] List.nodup_nil))
    intro a b ha hb hne e
    obtain ⟨x, _, rfl⟩ := List.mem_map.mp ((hmem a).mp ha)
    obtain ⟨y, _, rfl⟩ := List.mem_map.mp ((hmem b).mp hb)
    simp at e
    exact hne (by rw [e])
  · intro k
    rw [List.mem_map]
    constructor
    · rintro ⟨x, hx, e⟩
      obtain ⟨y, hy, rfl⟩ := List.mem_map.mp ((hmem x).mp hx)
      simp at e
      exact e ▸ hy
    · intro hk
      exact ⟨(k : Int), (hmem _).mpr ((hin k).mpr hk), by simp⟩
theorem len_set_c {P : Addr} {zs : List Nat} (x : SetU w s.heap P zs) (h : ∀ U : List Nat, U.Nodup → (∀ k, k ∈ U ↔ k ∈ zs) → ∀ t tk, Q (.int ((U.length : Nat) : Int) t) { s with toks := tk }) : wpAny (mdl w) A (call (.builtin "len") [.ref P]) Q E s := by
  obtain ⟨o, S', n, ho, hso, hn, _, U, h1, h2, rfl⟩ := x
  obtain ⟨hex, es, ep, t, hd, _, _, hn', hf⟩ := hso
  have h9 : (2 : Int) ^ 63 = 9223372036854775808 := by decide
  refine call_len_set ho hex hd hf (by (first | lia | omega)) ?_
  rw [hn']
  exact h U h1 h2 _ _
end
/-! the heads of a number -/
theorem head_up {d : Nat} (hd : d < 65536) : ∀ k, 16 ^ k ≤ d → d / 16 ^ k ≠ 0 ∧ digs (d / 16 ^ k) <+: digs d
  | 0, h => by rw [Nat.pow_zero, Nat.div_one]; exact ⟨by simp at h; (first | lia | omega), List.prefix_refl _⟩
  | k + 1, h => by
    have h1 : 16 ^ k ≤ d := Nat.le_trans (Nat.pow_le_pow_right (by decide) (Nat.le_succ k)) h
    obtain ⟨a, b⟩ := head_up hd k h1
    have e : d / 16 ^ (k + 1) = d / 16 ^ k / 16 := by rw [Nat.pow_succ, Nat.div_div_eq_div_mul]
    refine ⟨by have := Nat.div_pos h (Nat.pow_pos (by decide)); (first | lia | omega), ?_⟩
    rw [e]
    have := digs_div (n := d / 16 ^ k) (Nat.lt_of_le_of_lt (Nat.div_le_self _ _) hd) a
    rw [this] at b
    exact (List.prefix_append _ _).trans b
theorem head_down : ∀ (c d m : Nat), d ≤ c → d < 65536 → m < 65536 → m ≠ 0 → digs m <+: digs d → ∃ k, 16 ^ k ≤ d ∧ m = d / 16 ^ k
  | c, d, m, hc, hd, hm, h0, hp => by
    by_cases e : digs m = digs d
    · have := digs_inj hm hd e
      exact ⟨0, by simp; (first | lia | omega), by simp [this]⟩
    · have hd0 : d ≠ 0 := fun q => by
        rw [q, digs_0] at hp
        exact h0 (digs_nil (List.eq_nil_of_prefix_nil hp) hm)
      match c, hc with
      | 0, hc => (first | lia | omega)
      | c + 1, hc =>
        have h1 := digs_div hd hd0
        have hp' : digs m <+: digs (d / 16) := by
          rw [h1] at hp e
          rcases List.prefix_concat_iff.mp hp with q | q
          · exact absurd q e
          · exact q
        obtain ⟨k, k1, k2⟩ := head_down c (d / 16) m (by (first | lia | omega)) (by (first | lia | omega)) hm h0 hp'
        refine ⟨k + 1, ?_, by rw [k2, Nat.pow_succ, Nat.div_div_eq_div_mul, Nat.mul_comm]⟩
        rw [Nat.pow_succ]
        have := (Nat.le_div_iff_mul_le (by decide : 0 < 16)).mp k1
        exact this
/-- the heads of all, as the law lists them -/
def headsOf (ds : List Nat) : List Nat := ds.flatMap fun d => ([0, 1, 2, 3].filter fun k => decide (16 ^ k ≤ d)).map fun k => d / 16 ^ k
theorem headsOf_mem {ds : List Nat} (hds : ∀ d ∈ ds, d < 65536) (m : Nat) : m ∈ headsOf ds ↔ m ≠ 0 ∧ m < 65536 ∧ ∃ d ∈ ds, digs m <+: digs d := by
  unfold headsOf
  rw [List.mem_flatMap]
  constructor
  · rintro ⟨d, hd, h⟩
    obtain ⟨k, hk, rfl⟩ := List.mem_map.mp h
    have hk' : 16 ^ k ≤ d := by simpa using (List.mem_filter.mp hk).2
    obtain ⟨a, b⟩ := head_up (hds d hd) k hk'
    exact ⟨a, Nat.lt_of_le_of_lt (Nat.div_le_self _ _) (hds d hd), d, hd, b⟩
  · rintro ⟨h0, hm, d, hd, hp⟩
    obtain ⟨k, k1, k2⟩ := head_down d d m (Nat.le_refl _) (hds d hd) hm h0 hp
    have hk4 : k < 4 := by
      rcases Nat.lt_or_ge k 4 with q | q
      · exact q
      · have := Nat.pow_le_pow_right (show 0 < 16 by decide) q
        have := hds d hd
        (first | lia | omega)
    refine ⟨d, hd, List.mem_map.mpr ⟨k, List.mem_filter.mpr ⟨?_, by simpa using k1⟩, k2.symm⟩⟩
    exact (List.mem_range.mpr hk4 : k ∈ List.range 4)
theorem headsOf_set {ds : List Nat} (hds : ∀ d ∈ ds, d < 65536) : HeadSet ds (fun k => decide (k ∈ headsOf ds)) := fun m => by
  rw [decide_eq_true_iff]; exact headsOf_mem hds m
theorem headsOf_len {ds : List Nat} (h : ds.length ≤ 8) : (headsOf ds).length ≤ 32 := by
  have : ∀ ds : List Nat, (headsOf ds).length ≤ 4 * ds.length := by
    intro ds
    induction ds with
    | nil => simp [headsOf]
    | cons d r ih =>
      have e : headsOf (d :: r) = (([0, 1, 2, 3].filter fun k => decide (16 ^ k ≤ d)).map fun k => d / 16 ^ k) ++ headsOf r := by simp [headsOf]
      have h1 := List.length_filter_le (fun k => decide (16 ^ k ≤ d)) [0, 1, 2, 3]
      rw [e, List.length_append, List.length_map, List.length_cons]
      simp only [List.length_cons, List.length_nil] at h1
      (first | lia | omega)
  have := this ds
  (first | lia | omega)
/-- as many as the ways' depths less what each has in common with the next -/
theorem count_heads {ds es U : List Nat} (hds : ∀ d ∈ ds, d < 65536) (hp : es.Perm ds) (hs : es.Pairwise (fun a b => lex ltN (digs b) (digs a) = false)) (hU : U.Nodup) (hm : ∀ k, k ∈ U ↔ k ∈ headsOf ds) :
    U.length + (between (es.map digs)).sum = ((es.map digs).map List.length).sum := by
  have hs' : (es.map digs).Pairwise (fun a b => lex ltN b a = false) := List.pairwise_map.mpr hs
  rw [← nodes_len (es.map digs)]
  have e : (U.map digs).length = (nodes (es.map digs)).length := by
    have hlt : ∀ k ∈ U, k < 65536 := fun k hk => ((headsOf_mem hds k).mp ((hm k).mp hk)).2.1
    refine len_of_mem (List.pairwise_map.mpr (List.Pairwise.imp_of_mem (fun {a b} ha hb hne e => hne (digs_inj (hlt a ha) (hlt b hb) e)) hU)) (nodes_nodup hs') fun p => ?_
    rw [nodes_mem]
    constructor
    · intro hp'
      obtain ⟨k, hk, rfl⟩ := List.mem_map.mp hp'
      obtain ⟨h0, hk2, d, hd, hpre⟩ := (headsOf_mem hds k).mp ((hm k).mp hk)
      exact ⟨fun q => h0 (digs_nil q hk2), digs d, List.mem_map.mpr ⟨d, hp.mem_iff.mpr hd, rfl⟩, hpre⟩
    · rintro ⟨hne, z, hz, hpre⟩
      obtain ⟨d, hd, rfl⟩ := List.mem_map.mp hz
      have hd' := hp.mem_iff.mp hd
      have hdl := hds d hd'
      have : ∀ (c d : Nat), d ≤ c → d < 65536 → p <+: digs d → ∃ m, m < 65536 ∧ digs m = p := by
        intro c
        induction c with
        | zero => intro d h1 h2 h3; have : d = 0 := by (first | lia | omega)
                  subst this; rw [digs_0] at h3; exact absurd (List.eq_nil_of_prefix_nil h3) hne
        | succ c ih =>
          intro d h1 h2 h3
          by_cases hd0 : d = 0
          · subst hd0; rw [digs_0] at h3; exact absurd (List.eq_nil_of_prefix_nil h3) hne
          · have e := digs_div h2 hd0
            rw [e] at h3
            rcases List.prefix_concat_iff.mp h3 with q | q
            · exact ⟨d, h2, by rw [e, q]⟩
            · exact ih (d / 16) (by (first | lia | omega)) (by (first | lia | omega)) q
      obtain ⟨m, hm1, rfl⟩ := this d d (Nat.le_refl _) hdl hpre
      exact List.mem_map.mpr ⟨m, (hm m).mpr ((headsOf_mem hds m).mpr ⟨fun q => hne (by rw [q, digs_0]), hm1, d, hd', hpre⟩), rfl⟩
  rw [List.length_map] at e
  (first | lia | omega)
end Mine
end
theorem Mine.calmR0 : True := by w_top off; trivial
section
open PySem PySem.W PyProof.Rows PySem.Calls
open PySem.Builtin
set_option maxRecDepth 100000
set_option maxHeartbeats 4000000
set_option linter.unusedVariables false
namespace Mine
section
variable {w : World} {s : Shared} {A : Around} {Q E : Value → Shared → Prop} {prog : Program} {env : Env}
theorem call_iter_list {l : Addr} {its : Array Value} (hl : s.heap.IsList l its) (h : Q (.ref s.heap.objs.size) { s with heap := s.heap.push (itObj l) }) : wpAny (mdl w) A (call (.builtin "iter") [.ref l]) Q E s := by
  refine call_function_entry (by decide +kernel) (by decide +kernel) kdk_entry_iter (kdk_args_iter _) ?_
  unfold Builtin.«iter»
  refine wpAny_bind (m := someArgs "iter" 1 2 _) (wpAny_of_eq (a := [Value.ref l]) (by first | rfl | kernel_rfl!) ?_)
  show wpAny _ _ (pyIter (.ref l) >>= _) _ _ _
  refine wpAny_bind (wpAny_pyIter_list hl ?_)
  exact wpAny_pure ⟨_, rfl, h⟩
inductive IterInv (s : Shared) (h₀ : Heap) (L I l : Addr) (its : Array Value) (J : Nat → (Str → Option Value) → Prop) (k : Nat) : Shared → Prop
  | mk (i : Nat) (h : Heap) (tk : Nat) (m : Str → Option Value) : J i m → Fr h₀ L h m → h.IsListIter I l i → i ≤ its.size → k = its.size + 1 - i → IterInv s h₀ L I l its J k { s with heap := h, toks := tk }
/-- a for loop over a list's iterator that stands already -/
theorem for_iter {it x : Str} {pit px pos : Pos} {body : List Stmt} {Q : Flow → Shared → Prop} {h₀ : Heap} {L I l : Addr} {i0 : Nat} {its : Array Value} {m : Str → Option Value} (F₀ : Fr h₀ L s.heap m) (hh : A.handled = none) (hLe : env.locals = L)
    (hit : m it = some (.ref I)) (hI : s.heap.IsListIter I l i0) (hl : h₀.IsList l its) (hIL : I ≠ L) (hI0 : h₀.get? I = none) (hi0 : i0 ≤ its.size)
    (J : Nat → (Str → Option Value) → Prop) (h0 : J i0 m)
    (step : ∀ i v h tk m₁, its[i]? = some v → J i m₁ → Fr h₀ L h (fun y => if y = x then some v else m₁ y) → h.IsListIter I l (i + 1) →
      wpAny (model prog w) A (execs body env) (fun f s' => f = .next ∧ ∃ h' tk' m₂, s' = { s with heap := h', toks := tk' } ∧ Fr h₀ L h' m₂ ∧ J (i + 1) m₂ ∧ h'.IsListIter I l (i + 1)) (fun _ _ => False) { s with heap := h, toks := tk })
    (hQ : ∀ h tk m', J its.size m' → Fr h₀ L h m' → Q .next { s with heap := h, toks := tk })
    (hx : env.kindOf x = some .local := by rfl) (hp : (env.scope.kind == .class || (env.scope.kind == .module && env.locals != env.globals)) = false := by rfl)
    (hk : env.scope.kind = .function := by rfl) (hki : env.kindOf it = some .local := by rfl) (hd : (it == ("__debug__" : Str)) = false := by decide +kernel)
    (hs : ∀ x, foldedSetIterable (.Name it pit) env x = pure x := by intro _; rfl) :
    wpAny (model prog w) A (exec (.For (.Name x px) (.Name it pit) body [] pos) env) Q E s := by
  subst hLe
  refine wpAny_For (ld_local F₀.ns hit ?_ hk hki hd) hs
  refine wpAny_pyIter_listiter hI ?_
  have hlt : l < h₀.objs.size := by obtain ⟨_, e, _⟩ := hl; exact Heap.lt_size e
  have hlI : l ≠ I := fun e => by obtain ⟨o, e', _⟩ := hl; rw [e, hI0] at e'; cases e'
  have up : ∀ {h : Heap} {m'}, Fr h₀ env.locals h m' → h.IsList l its := fun F => by obtain ⟨o, e, r⟩ := hl; exact ⟨o, F.keep _ _ e, r⟩
  refine codeAny_forLoop (IterInv s h₀ env.locals I l its J) ?_ _ (.mk i0 s.heap s.toks m h0 F₀ hI hi0 rfl)
  rintro k s' ⟨i, h, tk, m₁, hJi, Fi, hIi, hi, rfl⟩
  by_cases hlt : i < its.size
  · refine wpAny_pyNext_list_item hIi (up Fi) (x := its[i]) (by simp [hlt]) fun h1 hI1 hs1 => ?_
    have F1 : Fr h₀ env.locals h1 m₁ := ⟨Fi.ns.extBut hs1.extBut (Ne.symm hIL), fun b o e => hs1.extBut b o (fun q => by rw [q, hI0] at e; cases e) (Fi.keep b o e), Fi.above⟩
    refine wpAny_assign_Name (wpAny_storeName_local hx F1.ns (fun h₂ hn₂ hs₂ => ?_) hp)
    have F2 : Fr h₀ env.locals h₂ (fun y => if y = x then some its[i] else m₁ y) := ⟨hn₂, fun b o e => hs₂.extBut b o (Nat.ne_of_lt (Nat.lt_of_lt_of_le (Heap.lt_size e) F₀.above)) (F1.keep b o e), Fi.above⟩
    have hI2 : h₂.IsListIter I l (i + 1) := by obtain ⟨o, e, r⟩ := hI1; exact ⟨o, hs₂.extBut _ _ hIL e, r⟩
    refine wpAny_mono (step i _ h₂ _ m₁ (by simp [hlt]) hJi F2 hI2) (fun f s₃ h₃ => ?_) fun _ _ e => e.elim
    obtain ⟨rfl, h', tk', m₂, rfl, F3, hJ3, hI3⟩ := h₃
    exact ⟨its.size + 1 - (i + 1), Nat.sub_lt_sub_left (Nat.lt_succ_of_lt hlt) (Nat.lt_succ_self i), .mk (i + 1) h' tk' m₂ hJ3 F3 hI3 hlt rfl⟩
  · have hin : i = its.size := Nat.le_antisymm hi (Nat.not_lt.mp hlt)
    subst hin
    refine wpAny_pyNext_list_end hh hIi (up Fi) (by simp) fun h1 he => wpAny_execs_nil ?_
    exact hQ h1 _ m₁ hJi ⟨Fi.ns.extBut he (Ne.symm hIL), fun b o e => he b o (fun q => by rw [q, hI0] at e; cases e) (Fi.keep b o e), Fi.above⟩
theorem reduce3 {f W : Addr} {its : Array Value} {v0 : Value} {n : Nat} (Acc : Nat → Value → Prop) (O : Ok w s.heap) (rm : Room A (n + 4)) (hW : s.heap.IsList W its) (hf : FnAt f s.heap) (h0 : Acc 0 v0) (hv : ∃ b t, v0 = .bytes b t)
    (hstep : ∀ i v u (A' : Around) h' tk (Q' : Value → Shared → Prop) (E' : Value → Shared → Prop), Room A' n → Keep s.heap h' → its[i]? = some u → Acc i v → (∀ v' h'' tk'', Acc (i + 1) v' → Keep h' h'' → Q' v' { s with heap := h'', toks := tk'' }) →
      wpAny (mdl w) A' (call (.ref f) [v, u]) Q' E' { s with heap := h', toks := tk })
    (h : ∀ v h' tk, Acc its.size v → Keep s.heap h' → Q v { s with heap := h', toks := tk }) :
    wpAny (mdl w) A (call (.ref 136) [.ref f, .ref W, v0]) Q E s := by
  obtain ⟨p, loose, mean, mg, mb, T⟩ := O.T
  refine enter (n := n + 3) O rm (by k_is) (by k_is) (kp_binds O.X (fun _ => rfl)) (locs rfl) ?_
  intro dp un L h₁ tk hdp hu F N X
  refine wpAny_execs_cons ?_
  refine wpAny_Assign_Name ?_
  refine callB1 (O.keeps F.keep) (by k_is) boot_iter ?_
  refine ld_local F.ns (v := .ref W) (by rfl) ?_
  have hW1 : h₁.IsList W its := by obtain ⟨o, e, r⟩ := hW; exact ⟨o, F.keep _ _ e, r⟩
  refine call_iter_list (s := { s with heap := h₁, toks := tk }) hW1 ?_
  have kI : Keep h₁ (h₁.push (itObj W)) := fun b o e => Heap.get?_push_of_some _ e
  have hIit : (h₁.push (itObj W)).IsListIter h₁.objs.size W 0 := ⟨_, Heap.get?_push_size _ rfl, rfl, rfl⟩
  have hL1 : L < h₁.objs.size := F.ns.lt
  obtain ⟨I, hI⟩ : ∃ I, I = h₁.objs.size := ⟨_, rfl⟩
  obtain ⟨h2, eh2⟩ : ∃ h2, h2 = h₁.push (itObj W) := ⟨_, rfl⟩
  dsimp only
  rw [← hI, ← eh2] at hIit ⊢
  rw [← eh2] at kI
  have hIL : I ≠ L := by rw [hI]; exact Ne.symm (Nat.ne_of_lt hL1)
  have hI0 : s.heap.get? I = none := Heap.get?_none_of_le (by rw [hI]; exact Nat.le_trans F.above (Nat.le_of_lt hL1))
  clear hI
  have F2 := F.keeps kI
  clear eh2
  refine store_F F2 rfl ?_
  intro h3 tk3 F3 k3
  have hI3 : h3.IsListIter I W 0 := by obtain ⟨o, e, r⟩ := hIit; exact ⟨o, k3 _ _ (fun q => hIL (List.mem_singleton.mp q)) e, r⟩
  refine wpAny_execs_cons ?_
  refine wpAny_If ?_
  refine wpAny_isTrue_Compare1 ?_
  refine ld_local F3.ns (v := v0) (by rfl) ?_
  refine ld_glob (O.keeps F3.keep) (by k_is) ?_
  obtain ⟨b0, t0, rfl⟩ := hv
  refine wpAny_is_other (by rfl) (by intro q; cases q) ?_
  refine wpAny_truthy_bool ?_
  simp only [Bool.false_eq_true, if_false]
  refine wpAny_execs_cons ?_
  refine wpAny_Assign_Name ?_
  refine ld_local F3.ns (v := .bytes b0 t0) (by rfl) ?_
  refine store_F F3 rfl ?_
  intro h4 tk4 FF k4
  have hII : h4.IsListIter I W 0 := by obtain ⟨o, e, r⟩ := hI3; exact ⟨o, k4 _ _ (fun q => hIL (List.mem_singleton.mp q)) e, r⟩
  have hle : 0 ≤ its.size := Nat.zero_le _
  have hAcc := h0
  refine wpAny_execs_nil ?_
  refine wpAny_execs_cons ?_
  refine for_iter FF rfl rfl (it := "it") (by rfl) hII hW hIL hI0 hle (fun i m => m "function" = some (.ref f) ∧ ∃ v, m "value" = some v ∧ Acc i v) ⟨by rfl, _, by rfl, hAcc⟩ ?_ ?_
  · rintro i v h5 tk5 m₁ hv ⟨e1, vv, e2, ha⟩ F5 hI5
    refine wpAny_execs_cons ?_
    refine wpAny_Assign_Name ?_
    have fk : FnAt f h5 := by obtain ⟨oc, od, fd, sl, e⟩ := hf; exact ⟨oc, od, fd, sl, F5.keep _ _ e⟩
    refine wpAny_bind (ld_local F5.ns (v := .ref f) e1 ?_)
    refine callWith_F fk ?_ (by rfl) (by rfl)
    refine spliced_cons (ld_local F5.ns (v := vv) e2 (spliced_cons (ld_local F5.ns (v := v) (by rfl) (spliced_nil ⟨fk, ?_⟩))))
    refine hstep i vv v _ h5 _ _ _ ⟨rfl, by show dp + n ≤ 900; (first | lia | omega), by show un + 20 * n ≤ 9000; (first | lia | omega)⟩ F5.keep hv ha fun v' h6 tk6 hv' k6 => ?_
    have F6 := F5.keeps k6
    refine store_F F6 rfl ?_
    intro h7 tk7 F7 k7
    refine wpAny_execs_nil ?_
    refine ⟨rfl, h7, _, _, rfl, F7, ⟨e1, v', by rfl, hv'⟩, ?_⟩
    obtain ⟨o, e, r⟩ := hI5
    exact ⟨o, k7 _ _ (fun q => hIL (List.mem_singleton.mp q)) (k6 _ _ e), r⟩
  · rintro h5 tk5 m' ⟨_, vv, e2, ha⟩ F5
    refine wpAny_execs_cons ?_
    refine wpAny_Return_some ?_
    refine ld_local F5.ns (v := vv) e2 ?_
    exact h vv h5 _ ha F5.keep
theorem next_list {it l : Addr} {i : Nat} {items : Array Value} {x : Value} (hit : s.heap.IsListIter it l i) (hl : s.heap.IsList l items) (hx : items[i]? = some x)
    (hQ : ∀ h', h'.IsListIter it l (i + 1) → Heap.SameBut it s.heap h' → Q x { s with heap := h' }) : wpAny (mdl w) A (call (.builtin "next") [.ref it]) Q E s := by
  refine call_function_entry (by decide +kernel) (by decide +kernel) kdk_entry_next (kdk_args_next _) ?_
  unfold Builtin.«next»
  refine wpAny_bind (m := someArgs "next" 1 2 _) (wpAny_of_eq (a := [Value.ref it]) (by first | rfl | kernel_rfl!) ?_)
  dsimp only
  refine wpAny_bind (wpAny_specialOf (name := Str.ofString "__next__") hit.typeIs slot_listiter_next.lookup ?_)
  refine wpAny_ite_split (fun hab => absurd hab (by decide)) (fun _ => ?_)
  refine wpAny_bind ?_
  obtain ⟨o, ho, hc, hd⟩ := id hit
  obtain ⟨ol, hol, _, nl, hdl⟩ := hl
  refine wpAny_callSpecial?_slot (name := Str.ofString "__next__") hit.typeIs slot_listiter_next
    (wpAny_call_entry slot_listiter_next hit.typeIs entry_listiter_next ?_ (args_listiter_next _))
  show wpAny _ _ (field (.ref it) 0 >>= _) _ _ s
  refine wpAny_bind (wpAny_field ho hd (x := .ref l) rfl ?_)
  show wpAny _ _ (if (Value.ref l == Value.none) = true then _ else _) _ _ s
  rw [if_neg (show ¬ ((Value.ref l == Value.none) = true) from Bool.false_ne_true)]
  show wpAny _ _ (field (.ref it) 1 >>= _) _ _ s
  refine wpAny_bind (wpAny_field ho hd (x := .int i 0) rfl ?_)
  show wpAny _ _ (seqItems? (.ref l) >>= _) _ _ s
  refine wpAny_bind (wpAny_seqItems hol hdl ?_)
  simp only [Int.toNat_natCast, hx]
  refine wpAny_bind (wpAny_setField ho hd (by simp) (wpAny_pure ⟨x, rfl, wpAny_pure ⟨_, rfl, hQ _ ?_ (Heap.SameBut.update ..)⟩⟩))
  exact ⟨_, Heap.get?_update_self _ ho (Obj.isFreed_of_fields (Obj.data_mapFields hd _)), (Obj.cls_mapFields ..).trans hc, by
    rw [Obj.data_mapFields hd]; simp [rawInt]⟩
theorem reduce2 {f W : Addr} {its : Array Value} {v0 : Value} {n : Nat} (Acc : Nat → Value → Prop) (O : Ok w s.heap) (rm : Room A (n + 4)) (hW : s.heap.IsList W its) (hf : FnAt f s.heap) (hv0 : its[0]? = some v0) (h0 : Acc 1 v0)
    (hstep : ∀ i v u (A' : Around) h' tk (Q' : Value → Shared → Prop) (E' : Value → Shared → Prop), Room A' n → Keep s.heap h' → its[i]? = some u → Acc i v → (∀ v' h'' tk'', Acc (i + 1) v' → Keep h' h'' → Q' v' { s with heap := h'', toks := tk'' }) →
      wpAny (mdl w) A' (call (.ref f) [v, u]) Q' E' { s with heap := h', toks := tk })
    (h : ∀ v h' tk, Acc its.size v → Keep s.heap h' → Q v { s with heap := h', toks := tk }) :
    wpAny (mdl w) A (call (.ref 136) [.ref f, .ref W]) Q E s := by
  obtain ⟨p, loose, mean, mg, mb, T⟩ := O.T
  refine enter (n := n + 3) O rm (by k_is) (by k_is) (kp_binds O.X (fun _ => rfl)) (locs rfl) ?_
  intro dp un L h₁ tk hdp hu F N X
  refine wpAny_execs_cons ?_
  refine wpAny_Assign_Name ?_
  refine callB1 (O.keeps F.keep) (by k_is) boot_iter ?_
  refine ld_local F.ns (v := .ref W) (by rfl) ?_
  have hW1 : h₁.IsList W its := by obtain ⟨o, e, r⟩ := hW; exact ⟨o, F.keep _ _ e, r⟩
  refine call_iter_list (s := { s with heap := h₁, toks := tk }) hW1 ?_
  have kI : Keep h₁ (h₁.push (itObj W)) := fun b o e => Heap.get?_push_of_some _ e
  have hIit : (h₁.push (itObj W)).IsListIter h₁.objs.size W 0 := ⟨_, Heap.get?_push_size _ rfl, rfl, rfl⟩
  have hL1 : L < h₁.objs.size := F.ns.lt
  obtain ⟨I, hI⟩ : ∃ I, I = h₁.objs.size := ⟨_, rfl⟩
  obtain ⟨h2, eh2⟩ : ∃ h2, h2 = h₁.push (itObj W) := ⟨_, rfl⟩
  dsimp only
  rw [← hI, ← eh2] at hIit ⊢
  rw [← eh2] at kI
  have hIL : I ≠ L := by rw [hI]; exact Ne.symm (Nat.ne_of_lt hL1)
  have hI0 : s.heap.get? I = none := Heap.get?_none_of_le (by rw [hI]; exact Nat.le_trans F.above (Nat.le_of_lt hL1))
  clear hI
  have F2 := F.keeps kI
  clear eh2
  refine store_F F2 rfl ?_
  intro h3 tk3 F3 k3
  have hI3 : h3.IsListIter I W 0 := by obtain ⟨o, e, r⟩ := hIit; exact ⟨o, k3 _ _ (fun q => hIL (List.mem_singleton.mp q)) e, r⟩
  refine wpAny_execs_cons ?_
  refine wpAny_If ?_
  refine wpAny_isTrue_Compare1 ?_
  refine ld_local F3.ns (v := .ref 128) (by rfl) ?_
  refine ld_glob (v := .ref 128) (O.keeps F3.keep) (by k_is) ?_
  refine wpAny_is_ref_self ?_
  refine wpAny_truthy_bool ?_
  simp only [if_true]
  refine wpAny_execs_cons ?_
  refine wpAny_Try_except ?_
  refine wpAny_execs_cons ?_
  refine wpAny_Assign_Name ?_
  refine callB1 (O.keeps F3.keep) (by k_is) boot_next ?_
  refine ld_local F3.ns (v := .ref I) (by rfl) ?_
  have hW3 : h3.IsList W its := by obtain ⟨o, e, r⟩ := hW; exact ⟨o, F3.keep _ _ e, r⟩
  refine next_list hI3 hW3 hv0 ?_
  intro h3' hI3' hs3'
  have F3' : Fr s.heap L h3' _ := ⟨F3.ns.extBut hs3'.extBut (Ne.symm hIL), fun b o e => hs3'.extBut b o (fun q => by rw [q, hI0] at e; cases e) (F3.keep b o e), F3.above⟩
  refine store_F F3' rfl ?_
  intro h4 tk4 FF k4
  have hII : h4.IsListIter I W 1 := by obtain ⟨o, e, r⟩ := hI3'; exact ⟨o, k4 _ _ (fun q => hIL (List.mem_singleton.mp q)) e, r⟩
  have hle : 1 ≤ its.size := by
    rcases Nat.lt_or_ge 0 its.size with h | h
    · exact h
    · simp [Array.getElem?_eq_none h] at hv0
  have hAcc := h0
  refine wpAny_execs_nil ?_
  refine wpAny_execs_nil ?_
  refine wpAny_execs_nil ?_
  refine wpAny_execs_cons ?_
  refine for_iter FF rfl rfl (it := "it") (by rfl) hII hW hIL hI0 hle (fun i m => m "function" = some (.ref f) ∧ ∃ v, m "value" = some v ∧ Acc i v) ⟨by rfl, _, by rfl, hAcc⟩ ?_ ?_
  · rintro i v h5 tk5 m₁ hv ⟨e1, vv, e2, ha⟩ F5 hI5
    refine wpAny_execs_cons ?_
    refine wpAny_Assign_Name ?_
    have fk : FnAt f h5 := by obtain ⟨oc, od, fd, sl, e⟩ := hf; exact ⟨oc, od, fd, sl, F5.keep _ _ e⟩
    refine wpAny_bind (ld_local F5.ns (v := .ref f) e1 ?_)
    refine callWith_F fk ?_ (by rfl) (by rfl)
    refine spliced_cons (ld_local F5.ns (v := vv) e2 (spliced_cons (ld_local F5.ns (v := v) (by rfl) (spliced_nil ⟨fk, ?_⟩))))
    refine hstep i vv v _ h5 _ _ _ ⟨rfl, by show dp + n ≤ 900; (first | lia | omega), by show un + 20 * n ≤ 9000; (first | lia | omega)⟩ F5.keep hv ha fun v' h6 tk6 hv' k6 => ?_
    have F6 := F5.keeps k6
    refine store_F F6 rfl ?_
    intro h7 tk7 F7 k7
    refine wpAny_execs_nil ?_
    refine ⟨rfl, h7, _, _, rfl, F7, ⟨e1, v', by rfl, hv'⟩, ?_⟩
    obtain ⟨o, e, r⟩ := hI5
    exact ⟨o, k7 _ _ (fun q => hIL (List.mem_singleton.mp q)) (k6 _ _ e), r⟩
  · rintro h5 tk5 m' ⟨_, vv, e2, ha⟩ F5
    refine wpAny_execs_cons ?_
    refine wpAny_Return_some ?_
    refine ld_local F5.ns (v := vv) e2 ?_
    exact h vv h5 _ ha F5.keep
end
end Mine
end
theorem Mine.calmR1 : True := by w_top off; trivial
section
open PySem PySem.W PyProof.Rows PySem.Calls
open PySem.Builtin
set_option maxRecDepth 100000
set_option maxHeartbeats 4000000
set_option linter.unusedVariables false
namespace Mine
section
variable {w : World} {s : Shared} {A : Around} {Q E : Value → Shared → Prop}
/-- a code table at P with one lambda's entry, or none -/
def LamTab (P : Addr) (line col : Nat) (qual : Str) (h : Heap) : Prop :=
  h.get? P = some (tabObj #[]) ∨ ∃ c', h.get? P = some (tabObj #[rawInt line, rawInt col, .ref c']) ∧ h.CodeRec (.ref c') qual
theorem LamTab.keeps {P : Addr} {line col : Nat} {qual : Str} {h h' : Heap} (x : LamTab P line col qual h) (k : Keep h h') : LamTab P line col qual h' := by
  rcases x with e | ⟨c', e, r⟩
  · exact .inl (k _ _ e)
  · refine .inr ⟨c', k _ _ e, ?_⟩
    obtain ⟨c, oc, vs, t, e0, e1, r⟩ := r
    exact ⟨c, oc, vs, t, e0, k _ _ e1, r⟩
/-- a base without the code table at P -/
structure Gh (w : World) (c P : Addr) (G h : Heap) : Prop where
  ok : Ok w G
  keep : Keep G h
  none : G.get? P = none
  code : CodeHd G c P
theorem Gh.keepB {c P : Addr} {G h h' : Heap} (x : Gh w c P G h) (k : KeepB [P] h h') : Gh w c P G h' :=
  ⟨x.ok, fun b o e => k b o (fun q => by rw [List.mem_singleton.mp q, x.none] at e; cases e) (x.keep b o e), x.none, x.code⟩
theorem Gh.hide {c P : Addr} {G h : Heap} (x : Gh w c P G h) : Gh w c P (hideAll h [P]) h := by
  have k : Keep G (hideAll h [P]) := fun b o e => hideAll_get _ (x.keep b o e) (fun q => by rw [List.mem_singleton.mp q, x.none] at e; cases e)
  exact ⟨x.ok.keeps k, fun b o e => of_hideAll _ e, hideAll_none _ (.head _), x.code.keeps k⟩
theorem Gh.back {P : Addr} {h h' : Heap} (k : Keep (hideAll h [P]) h') : KeepB [P] h h' := fun b o nb e => k b o (hideAll_get _ e nb)
theorem frHide {P : Addr} {h h1 : Heap} {L : Addr} {m : Str → Option Value} (F : Fr h L h1 m) : Fr (hideAll h [P]) L h1 m :=
  ⟨F.ns, fun b o e => F.keep b o (of_hideAll _ e), by rw [hideAll_size]; exact F.above⟩
/-- the lambda of a function whose code table is P -/
theorem lam_make {c P L : Addr} {G : Heap} {m : Str → Option Value} {fq : Str} {fs : Scope} {a : Addr} {cl : List (Str × Addr)} {params : Arguments} {body : Expr} {scope : Scope} {pos : Pos} {qual : Str}
    (g : Gh w c P G s.heap) (F : Fr G L s.heap m) (hPL : P ≠ L) (t : LamTab P pos.line pos.col qual s.heap)
    (hq : (envX fq fs L a (.ref c) cl).qual ++ "<lambda>" = qual)
    (hdef : defaultsOf params (envX fq fs L a (.ref c) cl) = ([], [])) (hcl : closureFor scope (envX fq fs L a (.ref c) cl) = pure [])
    (h : ∀ f c' ctv pm h' tk, h'.get? f = some (kla_obj "<lambda>" qual params body scope [] pm c' ctv) → h'.CodeRec (.ref c') qual → LamTab P pos.line pos.col qual h' → Fr G L h' m → Gh w c P G h' → KeepB [P] s.heap h' → Q (.ref f) { s with heap := h', toks := tk }) :
    wpAny (mdl w) A (eval (.Lambda params body scope pos) (envX fq fs L a (.ref c) cl)) Q E s := by
  refine kla_eval hdef ?_
  rw [hq]
  obtain ⟨pp, loose, mean, mg, mb, T⟩ := g.ok.T
  have hgs := T.g.keeps g.keep
  obtain ⟨bm, ob, b1, b2, b3, b4, b5, b6⟩ := T.bmain
  have hgP : mainGlobals ≠ P := fun q => by
    obtain ⟨o, es, ep, e, hd, _⟩ := T.g
    rw [q, g.none] at e; cases e
  have hbP : bm ≠ P := fun q => by rw [q, g.none] at b3; cases b3
  have hbG : bm ≠ mainGlobals := fun q => by
    obtain ⟨o, es, ep, e, hd, _⟩ := T.g
    rw [q, e] at b3; cases b3; rw [hd] at b6; cases b6
  rcases t with e | ⟨c', e, r⟩
  · refine kla_makeFunction (mg := mg) hcl rfl hgs rfl (g.code.keeps g.keep) e (by simp [TriplesOk]) (by simp [codeAmong]) hgP ⟨bm, ob, b1, b2, hbG, hbP, g.keep _ _ b3, b4, b5, b6⟩ fun c' ctv h' tk hx hge hlt hrec htb => ?_
    have k1 : KeepB [P] s.heap (h'.push (kla_obj "<lambda>" qual params body scope [] ((mg "__name__").getD .none) c' ctv)) := fun b o nb e => Heap.get?_push_of_some _ (hx b o (fun q => nb (List.mem_singleton.mpr q)) e)
    have g' := g.keepB k1
    have hrec' : (h'.push (kla_obj "<lambda>" qual params body scope [] ((mg "__name__").getD .none) c' ctv)).CodeRec (.ref c') qual := by
      obtain ⟨c, oc, vs, t, e0, e1, r⟩ := hrec
      exact ⟨c, oc, vs, t, e0, Heap.get?_push_of_some _ e1, r⟩
    refine h h'.objs.size c' ctv _ _ _ (Heap.get?_push_size _ rfl) hrec' (.inr ⟨c', Heap.get?_push_of_some _ htb, hrec'⟩) ⟨F.ns.at (fun o e => k1 _ o (fun q => hPL (List.mem_singleton.mp q).symm) e), g'.keep, F.above⟩ g' k1
  · refine kla_makeFunctionHit (mg := mg) (cv := .ref c') hcl rfl hgs rfl (g.code.keeps g.keep) e (by simp [TriplesOk, rawInt]) (by simp [codeAmong, rawInt]) ⟨bm, ob, b1, b2, hbG, hbP, g.keep _ _ b3, b4, b5, b6⟩ fun ctv h' tk hk hsz => ?_
    have k1 : Keep s.heap (h'.push (kla_obj "<lambda>" qual params body scope [] ((mg "__name__").getD .none) c' ctv)) := fun b o e => Heap.get?_push_of_some _ (hk b o e)
    have g' := g.keepB fun b o _ e => k1 b o e
    have hrec' : (h'.push (kla_obj "<lambda>" qual params body scope [] ((mg "__name__").getD .none) c' ctv)).CodeRec (.ref c') qual := by
      obtain ⟨c, oc, vs, t, e0, e1, r⟩ := r
      exact ⟨c, oc, vs, t, e0, k1 _ _ e1, r⟩
    refine h h'.objs.size c' ctv _ _ _ (Heap.get?_push_size _ rfl) hrec' (.inr ⟨c', k1 _ _ e, hrec'⟩) (F.keeps k1) g' (fun b o _ e => k1 b o e)
theorem LamTab.lt {P : Addr} {line col : Nat} {qual : Str} {h : Heap} (x : LamTab P line col qual h) : P < h.objs.size := by
  rcases x with e | ⟨c', e, r⟩ <;> exact Heap.lt_size e
theorem LamTab.ne {P D : Addr} {line col : Nat} {qual : Str} {h : Heap} {ys : Array Value} (x : LamTab P line col qual h) (hl : h.IsList D ys) : D ≠ P := fun q => by
  obtain ⟨o, e, hc, _⟩ := hl
  rw [q] at e
  rcases x with e' | ⟨c', e', _⟩ <;> (rw [e] at e'; cases e'; cases hc)
theorem lam_enter {f c' : Addr} {name qual : Str} {params : Arguments} {body : Expr} {scope : Scope} {pm ctv : Value} {vals : List Value} {binds : List (Str × Value)} {n : Nat} (O : Ok w s.heap) (r : Room A (n + 1))
    (ho : s.heap.get? f = some (kla_obj name qual params body scope [] pm c' ctv)) (hcd : s.heap.CodeRec (.ref c') qual) (hbind : bindArgs (kla_fn name qual params body scope [] pm (.ref c') ctv) ⟨vals, []⟩ = pure binds)
    (hloc : ∀ y ∈ binds, scope.names.lookup y.1 = some .local)
    (h : ∀ dp un L h₁ tk, dp + n ≤ 900 → un + 20 * n ≤ 9000 → Fr s.heap L h₁ (fun y => binds.reverse.lookup y) →
      wpAny (mdl w) (arr dp un) (eval body (envX qual scope L f (.ref c') [])) Q (fun _ _ => False) { s with heap := h₁, toks := tk })
    (hco : scope.isCoroutine = false := by rfl) (hgen : scope.isGenerator = false := by rfl) (hk : scope.kind = .function := by rfl)
    (hcell : ∀ x ∈ scope.names, x.2 ≠ .cell := by decide) : wpAny (mdl w) A (call (.ref f) vals) Q E s := by
  refine wpAny_call (arr_code (dp := A.depth) (un := A.units) r.h (Nat.le_refl _) (Nat.le_refl _) ?_)
  refine kla_callFunE (by show A.depth < recursionLimit; have := r.d; unfold recursionLimit; (first | lia | omega)) ho rfl hco hgen rfl hcd ?_
  rw [hbind]
  refine wpAny_pure (wpAny_newFunctionEnv hcell hloc (fun h₁ hns hsb => ?_) hk)
  have hk₁ : Keep s.heap h₁ := fun b o e => hsb.extBut b o (Nat.ne_of_lt (Heap.lt_size e)) (Heap.get?_push_of_some _ e)
  refine ⟨O.nolimit.keeps hk₁, ?_⟩
  refine kla_codeExpr (wpAny_mono (h (A.depth + 1) (A.units + 3) s.heap.objs.size h₁ _ (by have := r.d; (first | lia | omega)) (by have := r.u; (first | lia | omega)) ⟨hns, hk₁, Nat.le_refl _⟩) (fun v s' hl => hl) fun _ _ y => y.elim)
end
end Mine
end
theorem Mine.calmJ0 : True := by w_top off; trivial
section
open PySem PySem.W PyProof.Rows PySem.Calls
open PySem.Builtin
set_option maxRecDepth 100000
set_option maxHeartbeats 4000000
set_option linter.unusedVariables false
namespace Mine
section
variable {w : World} {s : Shared} {f : Addr} {name qual : Str} {params : Arguments} {body : List Stmt} {scope : Scope} {dV kV doc pm cdv ct oc : Value} {an od : Option Addr} {osl : Array (Option Value)} {va vb : Value} {xa xp : Str} {Q E : Value → Shared → Prop} {A : Around}
/-- a call of def f(a, *p) with two arguments -/
theorem enterS {n : Nat} (O : Ok w s.heap) (r : Room A (n + 1)) (ho : (hd.heap_1 w.params).lookup f = some ⟨oc, od, .func (fnOf name qual params body scope dV kV doc pm an cdv ct), osl⟩) (hcd : codeIn (hd.heap_1 w.params) cdv qual = true)
    (hbind : bindArgs (fnOf name qual params body scope dV kV doc pm an cdv ct) ⟨[va, vb], []⟩ = (newTuple [vb] >>= fun p => pure [(xa, va), (xp, p)])) (hloc : ∀ v u, ∀ y ∈ [(xa, v), (xp, u)], scope.names.lookup (Prod.fst (α := Str) (β := Value) y) = some .local)
    (h : ∀ dp un L T h₁ tk, dp + n ≤ 900 → un + 20 * n ≤ 9000 → Fr s.heap L h₁ (fun y => [(xa, va), (xp, .ref T)].reverse.lookup y) → h₁.IsTuple T #[vb] → s.heap.get? T = none → T ≠ L → (hd.heap_1 w.params).In s.heap →
      wpAny (mdl w) (arr dp un) (execs body (envOf qual scope L f cdv)) (fun fl s' => Q (match fl with | .ret v => v | _ => .none) s') (fun _ _ => False)
        { s with heap := h₁, toks := tk })
    (hco : scope.isCoroutine = false := by rfl) (hgen : scope.isGenerator = false := by rfl) (hk : scope.kind = .function := by rfl)
    (hcell : ∀ x ∈ scope.names, x.2 ≠ .cell := by decide) : wpAny (mdl w) A (call (.ref f) [va, vb]) Q E s := by
  refine wpAny_call (arr_code (dp := A.depth) (un := A.units) r.h (Nat.le_refl _) (Nat.le_refl _) ?_)
  refine codeAny_call_function (fd := fnOf name qual params body scope dV kV doc pm an cdv ct) (by show A.depth < recursionLimit; have := r.d; unfold recursionLimit; omega) (O.X _ _ ho) rfl hco hgen rfl (codeRec_of O.X hcd) ?_
  rw [hbind]
  refine wpAny_bind (wpAny_newTuple ?_ (by rw [sizeLine_eq]; show 1 ≤ _; decide))
  refine wpAny_pure ?_
  refine wpAny_newFunctionEnv hcell (hloc _ _) (fun h' hns hsb => ?_) hk
  have k1 : Keep s.heap (s.heap.push { cls := .type "tuple", data := .seq [vb].toArray }) := fun b o e => Heap.get?_push_of_some _ e
  obtain ⟨L, hL⟩ : ∃ L, L = (s.heap.push { cls := .type "tuple", data := .seq [vb].toArray }).objs.size := ⟨_, rfl⟩
  have hL1 : L = s.heap.objs.size + 1 := by rw [hL, Heap.size_push]
  dsimp only at hns hsb ⊢
  rw [← hL] at hns hsb ⊢
  have k2 : ∀ b o, b < L → (s.heap.push { cls := .type "tuple", data := .seq [vb].toArray }).get? b = some o → h'.get? b = some o := fun b o hb e => hsb.extBut b o (Nat.ne_of_lt hb) (Heap.get?_push_of_some _ e)
  have k3 : Keep s.heap h' := fun b o e => k2 b o (by rw [hL1]; exact Nat.lt_succ_of_lt (Heap.lt_size e)) (k1 b o e)
  refine ⟨O.nolimit.keeps k3, codeAny_func ?_⟩
  refine wpAny_mono (h (A.depth + 1) (A.units + 3) L s.heap.objs.size h' _ (by have := r.d; omega) (by have := r.u; omega) ⟨hns, k3, by rw [hL1]; exact Nat.le_succ _⟩ ⟨_, k2 _ _ (by rw [hL1]; exact Nat.lt_succ_self _) (Heap.get?_push_size _ rfl), rfl, _, rfl⟩ (new_none _) (by rw [hL1]; exact Nat.ne_of_lt (Nat.lt_succ_self _)) O.X) (fun fl s' hl => hl) fun _ _ x => x.elim
end
end Mine
end
theorem Mine.calmJ1 : True := by w_top off; trivial
section
open PySem PySem.W PyProof.Rows PySem.Calls
open PySem.Builtin
set_option maxRecDepth 100000
set_option maxHeartbeats 4000000
set_option linter.unusedVariables false
namespace Mine
def joinB (a c : List UInt8) : List UInt8 := if [47] <+: c ∨ a = [] then c else if [47] <:+ a then a ++ c else a ++ 47 :: c
theorem noI_bytes_add : typeLookup (.type "bytes") (dunderI "add") = pure none := by rw [typeLookup_type, builtinLookup_eq_fast]; kernel_rfl
section
variable {prog : Program} {w : World} {A : Around} {E : Value → Shared → Prop} {s : Shared} {b c : Array UInt8} {t u : Tok} {Q : Value → Shared → Prop}
theorem iadd_bytes (hsz : b.size + c.size ≤ 16777216) (h : ∀ t' k, Q (.bytes (b ++ c) t') { s with toks := k }) : wpAny (model prog w) A (inplaceOp .Add (.bytes b t) (.bytes c u)) Q E s := by
  refine iconcat_gives (W.typeIs_bytes s b t) (W.typeIs_bytes s c u) noI_bytes_add KBy.noFill_bytes_add KBy.seq_bytes_add FB.slot_bytes_add FB.entry_bytes_add (FB.args_bytes_add_2 _ _) (KBy.gives_bytes_add (KBy.tooLong_not hsz)) ?_
  by_cases hb : b.isEmpty = true
  · rw [if_pos hb]
    have e : b = #[] := Array.isEmpty_iff.1 hb
    have h' := h u s.toks
    rw [e, Array.empty_append] at h'
    exact h'
  · rw [if_neg hb]
    by_cases hc : c.isEmpty = true
    · rw [if_pos hc]
      have e : c = #[] := Array.isEmpty_iff.1 hc
      have h' := h t s.toks
      rw [e, Array.append_empty] at h'
      exact h'
    · rw [if_neg hc]
      exact ⟨by rw [Array.size_append, sizeLine_eq]; exact hsz, h s.toks (s.toks + 1)⟩
end
theorem src_one {prog : Program} {w : World} {A : Around} {s : Shared} {T : Addr} {x : Value} (hh : A.handled = none) (hT : s.heap.IsTuple T #[x]) : Src prog w A s (.ref T) 1 (fun _ v => v = x) :=
  Src.weak (src_tuple hh hT) fun i v hv => by
    have hv' : (#[x] : Array Value)[i]? = some v := hv
    match i, hv' with
    | 0, hv => exact (Option.some.inj hv).symm
    | i + 1, hv => simp at hv
inductive JoinJ (b1 b2 : Array UInt8) (ts : Tok) (i : Nat) (m : Str → Option Value) : List (Addr × Obj) → Prop
  | mk (bb : Array UInt8) (tt : Tok) : m "sep" = some (.bytes #[47] ts) → m "path" = some (.bytes bb tt) → bb.size ≤ 3000 → bb.toList = (if i = 0 then b1.toList else joinB b1.toList b2.toList) → JoinJ b1 b2 ts i m []
section
variable {w : World} {s : Shared} {A : Around} {Q E : Value → Shared → Prop}
theorem join_c {b1 b2 : Array UInt8} {t1 t2 : Tok} (O : Ok w s.heap) (rm : Room A 10) (z1 : b1.size ≤ 1000) (z2 : b2.size ≤ 1000)
    (h : ∀ b t h' tk, b.toList = joinB b1.toList b2.toList → Keep s.heap h' → Q (.bytes b t) { s with heap := h', toks := tk }) :
    wpAny (mdl w) A (call (.ref 115) [.bytes b1 t1, .bytes b2 t2]) Q E s := by
  obtain ⟨p, loose, mean, mg, mb, T⟩ := O.T
  refine enterS (n := 9) (xa := "a") (xp := "p") O rm (by k_is) (by k_is) (by rfl) (fun v u y hy => by simp only [List.mem_cons, List.not_mem_nil, or_false] at hy; rcases hy with rfl | rfl <;> rfl) ?_
  intro dp un L T h₁ tk hdp hu F hT hT0 hTL X
  have rm4 : Room (arr dp un) 3 := ⟨rfl, by show dp + 3 ≤ 900; (first | lia | omega), by show un + 20 * 3 ≤ 9000; (first | lia | omega)⟩
  have O1 : Ok w h₁ := O.keeps F.keep
  refine wpAny_execs_cons ?_
  refine wpAny_Assign_Name ?_
  refine call1 O1 (by k_is) ⟨_, _, _, _, by k_is⟩ ?_
  refine ld_local F.ns (v := .bytes b1 t1) (by rfl) ⟨fun _ _ e => e, ?_⟩
  refine fspath_c O1 rm4 fun h2 tk2 k2 => ?_
  have F2 := F.keeps k2
  refine store_F F2 rfl ?_
  intro h3 tk3 F3 k3
  have O3 : Ok w h3 := O.keeps F3.keep
  refine wpAny_execs_cons ?_
  refine wpAny_Assign_Name ?_
  refine call1 O3 (by k_is) ⟨_, _, _, _, by k_is⟩ ?_
  refine ld_local F3.ns (v := .bytes b1 t1) (by rfl) ⟨fun _ _ e => e, ?_⟩
  refine getsep_c O3 rm4 fun h4 tk4 ts k4 => ?_
  have F4 := F3.keeps k4
  refine store_F F4 rfl ?_
  intro h5 tk5 F5 k5
  refine wpAny_execs_cons ?_
  refine wpAny_Assign_Name ?_
  refine ld_local F5.ns (v := .bytes b1 t1) (by rfl) ?_
  refine store_F F5 rfl ?_
  intro h6 tk6 F6 k6
  have hT6 : h6.IsTuple T #[.bytes b2 t2] := by
    obtain ⟨o, e, r⟩ := hT
    have nL : T ∉ [L] := fun q => hTL (List.mem_singleton.mp q)
    exact ⟨o, k6 _ _ nL (k5 _ _ nL (k4 _ _ (k3 _ _ nL (k2 _ _ e)))), r⟩
  refine wpAny_execs_cons ?_
  refine wpAny_Try_except ?_
  refine hideQE fun TT TE hTT => ?_
  refine wpAny_execs_cons ?_
  refine for_free (nw₀ := []) F6 (fun _ hp => nomatch hp) rfl (n := 1) (P := fun i v => v = .bytes b2 t2)
    (JoinJ b1 b2 ts)
    (ld_local F6.ns (v := .ref T) (by rfl) ⟨Keeps.refl _, (fun q => hTL (by injection q)), src_one rfl hT6⟩) (.mk b1 t1 (by rfl) (by rfl) (by (first | lia | omega)) rfl) ?_ ?_
  · intro i v h7 tk7 m₁ nw hi hP hJ F7 _ k7
    obtain ⟨bb, tt, e1, e2, z3, hbb⟩ := hJ
    subst hP
    refine hideQ fun TQ hTQ => ?_
    have i0 : i = 0 := by (first | lia | omega)
    subst i0
    rw [if_pos rfl] at hbb
    have O7 : Ok w h7 := O.keeps F7.keep
    refine wpAny_execs_cons ?_
    refine wpAny_Assign_Name ?_
    refine call1 O7 (by k_is) ⟨_, _, _, _, by k_is⟩ ?_
    refine ld_local F7.ns (v := .bytes b2 t2) (by rfl) ⟨fun _ _ e => e, ?_⟩
    refine fspath_c O7 rm4 fun h8 tk8 k8 => ?_
    have F8 := F7.keeps k8
    refine store_F F8 rfl ?_
    intro h9 tk9 F9 k9
    have ksep : (fun y => if y = Str.ofString "b" then some (Value.bytes b2 t2) else if y = Str.ofString "b" then some (.bytes b2 t2) else m₁ y) "sep" = some (.bytes #[47] ts) := by
      simp only [if_neg (show (Str.ofString "sep" ≠ Str.ofString "b") by decide)]; exact e1
    have kpath : (fun y => if y = Str.ofString "b" then some (Value.bytes b2 t2) else if y = Str.ofString "b" then some (.bytes b2 t2) else m₁ y) "path" = some (.bytes bb tt) := by
      simp only [if_neg (show (Str.ofString "path" ≠ Str.ofString "b") by decide)]; exact e2
    have k79 : KeepB [L] h7 h9 := (k8.but [L]).trans k9
    have fin : ∀ (H : Heap) (tkH : Nat) (bn : Array UInt8) (tn : Tok), Fr s.heap L H (fun y => if y = Str.ofString "path" then some (Value.bytes bn tn) else if y = Str.ofString "b" then some (Value.bytes b2 t2) else if y = Str.ofString "b" then some (.bytes b2 t2) else m₁ y) → KeepB [L] h7 H → bn.size ≤ 3000 → bn.toList = joinB b1.toList b2.toList →
        TQ .next { s with heap := H, toks := tkH } := fun H tkH bn tn FH kH zH hH => hTQ _ _
      ⟨H, tkH, _, [], rfl, FH, .mk bn tn (by simp only [if_neg (show (Str.ofString "sep" ≠ Str.ofString "path") by decide)]; exact ksep) (by simp) zH (by rw [if_neg (by decide)]; exact hH), kH, fun _ hp => nomatch hp⟩
    clear hTQ
    refine wpAny_execs_cons ?_
    refine wpAny_If ?_
    refine isTrue_or ?_
    refine isTrue_plain ?_
    refine meth1 slot_starts ty_starts ?_
    refine ld_local F9.ns (v := .bytes b2 t2) (by rfl) ⟨_, _, rfl, ?_⟩
    refine ld_local F9.ns ksep ?_
    refine call_starts fun rr hr => ?_
    refine wpAny_truthy_bool ?_
    have hse : (#[47] : Array UInt8).toList = [47] := rfl
    cases rr with
    | true =>
      simp only [if_true]
      refine wpAny_execs_cons ?_
      refine wpAny_Assign_Name ?_
      refine ld_local F9.ns (v := .bytes b2 t2) (by rfl) ?_
      refine store_F F9 rfl ?_
      intro hA tkA FA kA
      refine wpAny_execs_nil (wpAny_execs_nil ?_)
      exact fin hA tkA b2 t2 FA (k79.trans kA) (by (first | lia | omega)) (by unfold joinB; rw [if_pos (.inl (hr.mp rfl))])
    | false =>
      simp only [Bool.false_eq_true, if_false]
      have hr0 : ¬ [47] <+: b2.toList := fun q => by have := hr.mpr q; cases this
      refine isTrue_or ?_
      refine isTrue_not ?_
      refine isTrue_plain ?_
      refine ld_local F9.ns kpath ?_
      refine truthy_bytes (by (first | lia | omega)) ?_
      by_cases hb0 : b1.toList = []
      · have e0 : ((bb.size : Int) != 0) = false := by
          have : bb.size = 0 := by rw [← Array.length_toList, hbb, hb0]; rfl
          simp [this]
        rw [e0]
        simp only [Bool.not_false, if_true]
        refine wpAny_execs_cons ?_
        refine wpAny_Assign_Name ?_
        refine ld_local F9.ns (v := .bytes b2 t2) (by rfl) ?_
        refine store_F F9 rfl ?_
        intro hA tkA FA kA
        refine wpAny_execs_nil (wpAny_execs_nil ?_)
        exact fin hA tkA b2 t2 FA (k79.trans kA) (by (first | lia | omega)) (by unfold joinB; rw [if_pos (.inr hb0)])
      · have e0 : ((bb.size : Int) != 0) = true := by
          have : bb.size ≠ 0 := fun q => by
            rw [← Array.length_toList, hbb] at q
            exact hb0 (List.eq_nil_of_length_eq_zero q)
          simp; intro q; exact this (by simp [q])
        rw [e0]
        simp only [Bool.not_true, Bool.false_eq_true, if_false]
        refine isTrue_or_nil ?_
        simp only [Bool.false_eq_true, if_false]
        refine wpAny_execs_cons ?_
        refine wpAny_If ?_
        refine isTrue_plain ?_
        refine meth1 slot_ends ty_ends ?_
        refine ld_local F9.ns kpath ⟨_, _, rfl, ?_⟩
        refine ld_local F9.ns ksep ?_
        refine call_ends fun re hre => ?_
        refine wpAny_truthy_bool ?_
        have hj : joinB b1.toList b2.toList = if [47] <:+ b1.toList then b1.toList ++ b2.toList else b1.toList ++ 47 :: b2.toList := by
          unfold joinB; rw [if_neg (fun q => q.elim hr0 hb0)]
        have hl1 : bb.size = b1.size := by rw [← Array.length_toList, hbb, Array.length_toList]
        cases re with
        | true =>
          simp only [if_true]
          refine wpAny_execs_cons ?_
          refine wpAny_AugAssign_Name ?_
          refine wpAny_loadName_local (by rfl) (by rfl) F9.ns kpath ?_
          refine ld_local F9.ns (v := .bytes b2 t2) (by rfl) ?_
          refine iadd_bytes (by (first | lia | omega)) fun t' k' => ?_
          refine store_F F9 rfl ?_
          intro hA tkA FA kA
          refine wpAny_execs_nil (wpAny_execs_nil (wpAny_execs_nil ?_))
          refine fin hA tkA _ _ FA (k79.trans kA) (by rw [Array.size_append]; (first | lia | omega)) ?_
          have h8 : [47] <:+ b1.toList := by rw [← hbb]; exact hre.mp rfl
          rw [hj, if_pos h8, Array.toList_append, hbb]
        | false =>
          simp only [Bool.false_eq_true, if_false]
          refine wpAny_execs_cons ?_
          refine wpAny_AugAssign_Name ?_
          refine wpAny_loadName_local (by rfl) (by rfl) F9.ns kpath ?_
          refine wpAny_BinOp ?_
          refine ld_local F9.ns ksep ?_
          refine ld_local F9.ns (v := .bytes b2 t2) (by rfl) ?_
          refine KBy.add_bytes (by show 1 + b2.size ≤ 16777216; (first | lia | omega)) fun t0 k0 => ?_
          have hsz : (#[47] ++ b2 : Array UInt8).size = 1 + b2.size := by rw [Array.size_append]; rfl
          refine iadd_bytes (by (first | lia | omega)) fun t' k' => ?_
          refine store_F F9 rfl ?_
          intro hA tkA FA kA
          refine wpAny_execs_nil (wpAny_execs_nil (wpAny_execs_nil ?_))
          refine fin hA tkA _ _ FA (k79.trans kA) (by rw [Array.size_append]; (first | lia | omega)) ?_
          have h8 : ¬ [47] <:+ b1.toList := fun q => by
            have := hre.mpr (show (#[47] : Array UInt8).toList <:+ bb.toList by rw [hbb]; exact q)
            cases this
          rw [hj, if_neg h8, Array.toList_append, Array.toList_append, hbb]; rfl
  · intro h7 tk7 m' nw hJ F7 _ k7
    obtain ⟨bb, tt, e1, e2, z3, hbb⟩ := hJ
    rw [if_neg (by decide)] at hbb
    refine wpAny_execs_nil ?_
    refine hTT _ _ ?_
    refine wpAny_execs_nil ?_
    show wpAny _ _ (execs _ _) _ _ _
    refine wpAny_execs_cons ?_
    refine wpAny_Return_some ?_
    refine ld_local F7.ns e2 ?_
    exact h bb _ h7 _ hbb F7.keep
end
end Mine
end
theorem Mine.calmW1 : True := by w_top off; trivial
section
open PySem PySem.W PyProof.Rows PySem.Calls
open PySem.Builtin
set_option maxRecDepth 100000
set_option maxHeartbeats 4000000
set_option linter.unusedVariables false
namespace Mine
inductive KeysAre : List Value → List Nat → Prop
  | nil : KeysAre [] []
  | cons {k : Nat} {t : Tok} {vs : List Value} {ks : List Nat} : k ≤ 3 → KeysAre vs ks → KeysAre (.int (k : Int) t :: vs) (k :: ks)
def pk (n : Nat) : Value → Bool
  | .int k _ => decide (16 ^ k.toNat ≤ n)
  | _ => false
theorem KeysAre.filter (n : Nat) {vs : List Value} {ks : List Nat} (x : KeysAre vs ks) : KeysAre (vs.filter (pk n)) (ks.filter fun k => decide (16 ^ k ≤ n)) := by
  induction x with
  | nil => exact .nil
  | @cons k t _ _ hk _ h =>
    have e : pk n (.int (k : Int) t) = decide (16 ^ k ≤ n) := by simp [pk]
    by_cases q : 16 ^ k ≤ n
    · rw [List.filter_cons_of_pos (by rw [e]; exact decide_eq_true q), List.filter_cons_of_pos (by exact decide_eq_true q)]
      exact .cons hk h
    · rw [List.filter_cons_of_neg (by rw [e]; simpa using q), List.filter_cons_of_neg (by simpa using q)]
      exact h
theorem len4 {α : Type} {l : List α} (h : l.length = 4) : ∃ a b c d, l = [a, b, c, d] := by
  refine ⟨l[0], l[1], l[2], l[3], List.ext_getElem h fun i h1 h2 => ?_⟩
  have h3 : i < 4 := h2
  rcases i with _ | _ | _ | _ | i
  · rfl
  · rfl
  · rfl
  · rfl
  · exact absurd h3 (Nat.not_lt.mpr (Nat.le_add_left 4 i))
theorem keys_down {vs : List Value} (hl : vs.length = 4) (hP : ∀ (j : Nat) (v : Value), vs[j]? = some v → j < 4 ∧ ∃ t, v = .int ((3 - j : Nat) : Int) t) : KeysAre vs [3, 2, 1, 0] := by
  obtain ⟨a, b, c, d, rfl⟩ := len4 hl
  obtain ⟨_, t0, rfl⟩ := hP 0 a rfl
  obtain ⟨_, t1, rfl⟩ := hP 1 b rfl
  obtain ⟨_, t2, rfl⟩ := hP 2 c rfl
  obtain ⟨_, t3, rfl⟩ := hP 3 d rfl
  exact .cons (k := 3) (by decide) (.cons (k := 2) (by decide) (.cons (k := 1) (by decide) (.cons (k := 0) (by decide) .nil)))
theorem keys_paired {R : Nat → Value → Prop} {vs : List Value} {ks : List Nat} {ys : List Value} (x : KeysAre vs ks) (y : Paired (fun v y => ∀ k t, v = .int ((k : Nat) : Int) t → k ≤ 3 → R k y) vs ys) : Paired R ks ys := by
  induction x generalizing ys with
  | nil => cases y; exact .nil
  | cons hk _ ih => cases y with | cons h t => exact .cons (h _ _ rfl hk) (ih t)
theorem paired_ints {f : Nat → Nat} {ks : List Nat} {ys : List Value} (x : Paired (fun k y => ∃ u, y = .int ((f k : Nat) : Int) u) ks ys) : IntsAre ys (ks.map fun k => ((f k : Nat) : Int)) := by
  induction x with
  | nil => exact .nil
  | cons h _ ih => obtain ⟨u, rfl⟩ := h; exact .cons _ u ih
theorem paired_bytes {f : Nat → List UInt8} {ks : List Nat} {ys : List Value} (x : Paired (fun k y => ∃ b u, y = .bytes b u ∧ b.toList = f k) ks ys) : BytesAre ys (ks.map f) := by
  induction x with
  | nil => exact .nil
  | cons h _ ih => obtain ⟨b, u, rfl, e⟩ := h; exact .cons e ih
theorem byteArr_letters {n : Nat} {ks : List Nat} : (byteArr (ks.map fun k => ((65 + n / 16 ^ k % 16 : Nat) : Int))).toList = letters (ks.map fun k => n / 16 ^ k % 16) := by
  show List.map _ (List.map _ ks) = _
  unfold letters
  rw [List.map_map, List.map_map]
  apply List.map_congr_left
  intro k _
  simp only [Function.comp, Int.toNat_natCast, letter]
theorem word_range {n : Nat} {ks : List Nat} : ∀ i ∈ ks.map (fun k => ((65 + n / 16 ^ k % 16 : Nat) : Int)), 0 ≤ i ∧ i < 256 := by
  intro i hi
  obtain ⟨k, _, rfl⟩ := List.mem_map.mp hi
  have := Nat.mod_lt (n / 16 ^ k) (show 0 < 16 by decide)
  (first | lia | omega)
section
variable {w : World} {s : Shared} {A : Around} {Q E : Value → Shared → Prop}
theorem word {n : Nat} {t : Tok} (O : Ok w s.heap) (rm : Room A 6) (h : ∀ b t h' tk, b.toList = letters (digs n) → Keep s.heap h' → Q (.bytes b t) { s with heap := h', toks := tk }) :
    wpAny (model PySem.Challenge.rw_pd0134_01.row.prog w) A (call (.ref 153) [.int (n : Int) t]) Q E s := by
  obtain ⟨p, loose, mean, mg, mb, T⟩ := O.T
  refine enterC (n := 5) O rm (by k_is) (by k_is) (BindsTo.of_eq rfl) rfl (by decide +kernel) ?_
  intro dp un L h₁ tk cells hdp hu F N Y X
  k_cells Y
  (try simp only [List.cons_append, List.nil_append] at N)
  rename_i o1 d1
  have sizeC : h₁.IsCell (L + 1) (some (.int (n : Int) t)) := ⟨_, (N _ (.head _)).1, d1⟩
  w_strict (iterate 6 walk1)
  have hck : ∀ {h' : Heap}, Keep h₁ h' → h'.IsCell (L + 1) (some (.int (n : Int) t)) := fun k => by obtain ⟨o, e, r⟩ := sizeC; exact ⟨o, k _ _ e, r⟩
  refine lc_free (n := 4) (P := fun i v => i < 4 ∧ ∃ t, v = .int ((3 - i : Nat) : Int) t) (pk n) (fun v y => ∀ k t, v = .int ((k : Nat) : Int) t → k ≤ 3 → ∃ u, y = .int ((65 + n / 16 ^ k % 16 : Nat) : Int) u)
    (down_src rfl) (by rw [sizeLine_eq]; decide) ?_ ?_ ?_
  · intro C i v s₃ m₃ E' hP hns hm hk _
    obtain ⟨hi, u, rfl⟩ := hP
    refine wpAny_tests_one (test16 (n := n) (k := 3 - i) (by (first | lia | omega)) (Rd.cell (c := L + 1) (hck hk)) (Rd.local hns hm) fun tk => ⟨?_, keeps_of fun _ _ e => e⟩)
    simp [pk]
  · intro C i v s₃ m₃ E' hP _ hns hm hk _
    obtain ⟨hi, u, rfl⟩ := hP
    refine digit16 (n := n) (k := 3 - i) (by (first | lia | omega)) (Rd.cell (c := L + 1) (hck hk)) (Rd.local hns hm) fun t' tk => ⟨fun k t e _ => ?_, keeps_of fun _ _ e => e⟩
    cases e
    exact ⟨t', by congr 3⟩
  intro D h2 tk2 ys vs hD hl hlen hP hpair hk2
  have hin := paired_ints (f := fun k => 65 + n / 16 ^ k % 16) (keys_paired ((keys_down hlen hP).filter n) hpair)
  have F2 := F.keeps hk2
  have N2 := News.grown N hk2
  clear F N
  w_strict (iterate 1 walk1)
  refine call_bytes_ints (vs := ys.toList) (by rw [Array.toArray_toList]; exact hl) hin word_range ?_ rfl ?_
  · rw [hin.length, List.length_map, sizeLine_eq]
    have : ([3, 2, 1, 0].filter fun k => decide (16 ^ k ≤ n)).length ≤ 4 := List.length_filter_le _ _
    (first | lia | omega)
  intro h3 t3 tk3 hk3
  exact h _ _ h3 _ byteArr_letters (Keep.trans F2.keep hk3)
theorem way_c {n : Nat} {t : Tok} (hn : n < 65536) (O : Ok w s.heap) (rm : Room A 10) (h : ∀ b t h' tk, b.toList = way (digs n) → Keep s.heap h' → Q (.bytes b t) { s with heap := h', toks := tk }) :
    wpAny (model PySem.Challenge.rw_pd0134_01.row.prog w) A (call (.ref 158) [.int (n : Int) t]) Q E s := by
  obtain ⟨p, loose, mean, mg, mb, T⟩ := O.T
  refine enterC (n := 9) O rm (by k_is) (by k_is) (BindsTo.of_eq rfl) rfl (by decide +kernel) ?_
  intro dp un L h₁ tk cells hdp hu F N Y X
  k_cells Y
  (try simp only [List.cons_append, List.nil_append] at N)
  rename_i o1 d1
  have sizeC : h₁.IsCell (L + 1) (some (.int (n : Int) t)) := ⟨_, (N _ (.head _)).1, d1⟩
  have hck : ∀ {h' : Heap}, Keep h₁ h' → h'.IsCell (L + 1) (some (.int (n : Int) t)) := fun k => by obtain ⟨o, e, r⟩ := sizeC; exact ⟨o, k _ _ e, r⟩
  with_reducible refine wpAny_execs_cons ?_
  with_reducible refine wpAny_Return_some ?_
  with_reducible refine wpAny_BinOp ?_
  with_reducible refine Constant_bytes ?_
  with_reducible refine meth1 slot_join ty_join ?_ base_const (by with_unfolding_all rfl) star_lc
  with_reducible refine Constant_bytes ?_
  refine ⟨_, _, rfl, ?_⟩
  refine lc_free (n := 4) (P := fun i v => i < 4 ∧ ∃ t, v = .int ((3 - i : Nat) : Int) t) (pk n) (fun v y => ∀ k t, v = .int ((k : Nat) : Int) t → k ≤ 3 → ∃ b u, y = .bytes b u ∧ b.toList = letters (digs (n / 16 ^ k)))
    (down_src rfl) (by rw [sizeLine_eq]; decide) ?_ ?_ ?_
  · intro C i v s₃ m₃ E' hP hns hm hk _
    obtain ⟨hi, u, rfl⟩ := hP
    refine wpAny_tests_one (test16 (n := n) (k := 3 - i) (by (first | lia | omega)) (Rd.cell (c := L + 1) (hck hk)) (Rd.local hns hm) fun tk => ⟨?_, keeps_of fun _ _ e => e⟩)
    simp [pk]
  · intro C i v s₃ m₃ E' hP _ hns hm hk hu
    obtain ⟨hi, u, rfl⟩ := hP
    have O3 : Ok w s₃.heap := (O.keeps F.keep).keeps hk
    refine call1 O3 (by k_is) ⟨_, _, _, _, by k_is⟩ (div16 (n := n) (k := 3 - i) (by (first | lia | omega)) (Rd.cell (c := L + 1) (hck hk)) (Rd.local hns hm) fun t' tk => ⟨fun _ _ e => e, ?_⟩)
    refine word (s := { s₃ with toks := tk }) (n := n / 16 ^ (3 - i)) O3 ⟨rfl, by show dp + 6 ≤ 900; (first | lia | omega), by show un + 20 * 6 ≤ 9000; (first | lia | omega)⟩ fun b t h' tk hb hk' => ⟨fun k t e _ => ?_, keeps_of hk'⟩
    cases e
    exact ⟨b, _, rfl, hb⟩
  intro D h2 tk2 ys vs hD hl hlen hP hpair hk2
  have hin := paired_bytes (f := fun k => letters (digs (n / 16 ^ k))) (keys_paired ((keys_down hlen hP).filter n) hpair)
  have hw := words_digs hn
  unfold keys at hw
  rw [← hw] at hin
  have hsz := words_size (num_digs hn).2
  refine call_joinA (vs := ys.toList) (by rw [Array.toArray_toList]; exact hl) hin (by (first | lia | omega)) ?_
  intro b t' tk3 hb
  have hbl : b.size ≤ 100 := by rw [← Array.length_toList, hb]; have := inter_len (words (digs n)); (first | lia | omega)
  refine KBy.add_bytes (by show 1 + b.size ≤ 16777216; (first | lia | omega)) fun t'' k' => ?_
  refine h _ _ _ _ ?_ (Keep.trans F.keep hk2)
  rw [Array.toList_append, hb]; rfl
end
end Mine
end
theorem Mine.calmW2 : True := by w_top off; trivial
section
open PySem PySem.W PyProof.Rows PySem.Calls
open PySem.Builtin
set_option maxRecDepth 100000
set_option maxHeartbeats 4000000
set_option linter.unusedVariables false
namespace Mine
def apA : Array UInt8 := #[65, 66, 67, 68, 69, 70, 71, 72, 73, 74, 75, 76, 77, 78, 79, 80]
theorem ap_cut (d : Nat) (h : d < 16) : (KBy.picked apA (some (d : Int)) (some ((d : Int) + 1))).toList = [letter d] := by
  have : ∀ d : _root_.Fin 16, (KBy.picked apA (some (d.val : Int)) (some ((d.val : Int) + 1))).toList = [letter d.val] := by decide +kernel
  exact this ⟨d, h⟩
inductive ApInv (s : Shared) (L : Addr) (n : Nat) (k : Nat) : Shared → Prop
  | mk (h' : Heap) (tk : Nat) (m₁ : Str → Option Value) (b : Array UInt8) (t1 t2 t3 : Tok) : Fr s.heap L h' m₁ → m₁ "num" = some (.int ((k : Nat) : Int) t1) → m₁ "val" = some (.bytes b t2) → m₁ "AP" = some (.bytes apA t3) → letters (digs k) ++ b.toList = letters (digs n) → k < 65536 → ApInv s L n k { s with heap := h', toks := tk }
section
variable {w : World} {s : Shared} {A : Around} {Q E : Value → Shared → Prop}
theorem int2ap {z : Int} {n : Nat} {t : Tok} (hz : z.natAbs = n) (hn : n < 65536) (O : Ok w s.heap) (rm : Room A 6) (h : ∀ b t h' tk, b.toList = letters (digs n) → Keep s.heap h' → Q (.bytes b t) { s with heap := h', toks := tk }) :
    wpAny (mdl w) A (call (.ref 143) [.int z t]) Q E s := by
  obtain ⟨p, loose, mean, mg, mb, T⟩ := O.T
  refine enter (n := 5) O rm (by k_is) (by k_is) (BindsTo.of_eq rfl) (locs rfl) ?_
  intro dp un L h₁ tk hdp hu F N X
  w_strict (iterate 22 walk1)
  have ez : (if z < 0 then -z else z) = (n : Int) := by split <;> (first | lia | omega)
  rw [ez]
  refine call_int_int ?_
  rename_i h0 hA FA NA u9 tk9
  clear NA
  refine store_F FA rfl ?_
  intro hB tkB FB kB
  refine wpAny_execs_cons ?_
  refine wpAny_While ?_
  refine codeAny_whileLoop (ApInv s L n) ?_ n (.mk hB tkB _ #[] _ _ _ FB rfl rfl rfl (by simp) hn)
  rintro mm s' ⟨h2, tk2, m₁, b, t1, t2, t3, F2, e1, e2, e3, hb, hmm⟩
  have O2 : Ok w h2 := O.keeps F2.keep
  refine isTrue_plain ?_
  refine ld_local F2.ns e1 ?_
  refine P.truthy_int ?_
  by_cases h0 : mm = 0
  · subst h0
    simp only [Int.natCast_zero, bne_self_eq_false, Bool.false_eq_true, if_false]
    refine wpAny_execs_nil ?_
    show wpAny _ _ (execs _ _) _ _ _
    refine wpAny_execs_cons ?_
    refine wpAny_Return_some ?_
    refine ld_local F2.ns e2 ?_
    exact h b _ h2 _ (by simpa [digs_0, letters] using hb) F2.keep
  have hne : ((mm : Int) != 0) = true := by simp; exact h0
  rw [hne]
  simp only [if_true]
  refine wpAny_execs_cons ?_
  refine Assign_Tuple ?_ (by rfl) (by rfl)
  refine callB2 O2 (by k_is) boot_divmod ?_
  refine ld_local F2.ns e1 ?_
  refine wpAny_Constant_int ?_
  refine divmod_int (by decide) ?_ (.inl (PyProof.noPylong_small (by decide)))
  have hT : (h2.push { cls := .type "tuple", data := .seq #[.int ((mm : Int).fdiv 16) (tk2 + 1), .int ((mm : Int).fmod 16) (tk2 + 1 + 1)] }).IsTuple h2.objs.size #[.int ((mm : Int).fdiv 16) (tk2 + 1), .int ((mm : Int).fmod 16) (tk2 + 1 + 1)] := ⟨_, Heap.get?_push_size _ rfl, rfl, _, rfl⟩
  have k2 : Keep h2 (h2.push { cls := .type "tuple", data := .seq #[.int ((mm : Int).fdiv 16) (tk2 + 1), .int ((mm : Int).fmod 16) (tk2 + 1 + 1)] }) := fun _ _ e => Heap.get?_push_of_some _ e
  have q1 : (mm : Int).fdiv 16 = ((mm / 16 : Nat) : Int) := by rw [Int.fdiv_eq_ediv_of_nonneg _ (by decide)]; exact (Int.natCast_ediv _ _).symm
  have q2 : (mm : Int).fmod 16 = ((mm % 16 : Nat) : Int) := by rw [Int.fmod_eq_emod_of_nonneg _ (by decide)]; push_cast; rfl
  refine wpAny_assign_Tuple rfl hT rfl rfl fun h3 hx3 => ?_
  rw [q1, q2]
  show wpAny _ _ (do holding _ (assign _ _ _); do holding [] (assign _ _ _); pure ()) _ _ _
  have k3 : Keep h2 h3 := fun b o e => hx3 b o (by rw [Heap.size_push]; exact Nat.ne_of_lt (Nat.lt_succ_of_lt (Heap.lt_size e))) (k2 b o e)
  have F3 := F2.keeps k3
  refine wpAny_bind (wpAny_holding (wpAny_assign_Name ?_))
  refine store_F F3 rfl ?_
  intro h4 tk4 F4 k4
  refine wpAny_bind (wpAny_holding (wpAny_assign_Name ?_))
  refine store_F F4 rfl ?_
  intro h5 tk5 F5 k5
  refine wpAny_pure ?_
  refine wpAny_execs_cons ?_
  refine wpAny_Assign_Name ?_
  refine wpAny_BinOp ?_
  refine Subscript_ ?_
  refine ld_local F5.ns (v := .bytes apA t3) (by simp only [if_neg (show (Str.ofString "AP" ≠ Str.ofString "mod") by decide), if_neg (show (Str.ofString "AP" ≠ Str.ofString "num") by decide)]; exact e3) ?_
  refine wpAny_Slice ?_
  refine wpAny_evalPart_some ?_
  refine ld_local F5.ns (v := .int ((mm % 16 : Nat) : Int) _) (by rfl) ?_
  refine wpAny_evalPart_some ?_
  refine wpAny_BinOp ?_
  refine ld_local F5.ns (v := .int ((mm % 16 : Nat) : Int) _) (by rfl) ?_
  refine wpAny_Constant_int ?_
  refine add_int ?_
  refine wpAny_evalPart_none ?_
  refine KBc.slice_K F5 (news := []) (fun _ hp => nomatch hp) rfl (.int _ _) (.int _ _) (by decide) ?_
  intro h6 t6 tk6 F6 _ _
  refine ld_local F6.ns (v := .bytes b t2) (by simp only [if_neg (show (Str.ofString "val" ≠ Str.ofString "mod") by decide), if_neg (show (Str.ofString "val" ≠ Str.ofString "num") by decide)]; exact e2) ?_
  have hlet := ap_cut (mm % 16) (Nat.mod_lt _ (by decide))
  have hbl : b.size ≤ 100 := by
    have h8 := congrArg List.length hb
    rw [List.length_append] at h8
    have h7 : b.toList.length = b.size := Array.length_toList
    have h9 : (letters (digs n)).length ≤ 4 := by unfold letters; rw [List.length_map]; exact (num_digs hn).2
    (first | lia | omega)
  have hcl : (KBy.picked apA (some ((mm % 16 : Nat) : Int)) (some (((mm % 16 : Nat) : Int) + 1))).size = 1 := by rw [← Array.length_toList, hlet]; rfl
  refine KBy.add_bytes (by rw [hcl]; (first | lia | omega)) fun t7 tk7 => ?_
  refine store_F F6 rfl ?_
  intro h8 tk8 F8 k8
  refine wpAny_execs_nil ?_
  refine ⟨mm / 16, Nat.div_lt_self (Nat.pos_of_ne_zero h0) (by decide), .mk h8 tk8 _ _ _ _ t3 F8 (by rfl) (by rfl) ?_ ?_ (Nat.lt_of_le_of_lt (Nat.div_le_self _ _) hmm)⟩
  · simp only [if_neg (show (Str.ofString "AP" ≠ Str.ofString "val") by decide), if_neg (show (Str.ofString "AP" ≠ Str.ofString "mod") by decide), if_neg (show (Str.ofString "AP" ≠ Str.ofString "num") by decide)]; exact e3
  · rw [Array.toList_append, hlet, ← hb, digs_div hmm h0]
    simp [letters]
end
end Mine
end
theorem Mine.calmP5 : True := by w_top off; trivial
section
set_option maxRecDepth 100000
namespace Mine
def Wd (c : List UInt8) : Prop := c ≠ [] ∧ 47 ∉ c
theorem letters_wd {n : Nat} (hn : n < 65536) (h0 : n ≠ 0) : Wd (letters (digs n)) := by
  have hd := num_digs hn
  constructor
  · intro e
    have : digs n = [] := by simpa [letters] using e
    exact h0 (digs_nil this hn)
  · intro hm
    obtain ⟨d, hd1, e⟩ := List.mem_map.mp hm
    have h16 := hd.1 d hd1
    have : ∀ d : _root_.Fin 16, letter d.val ≠ 47 := by decide +kernel
    exact this ⟨d, h16⟩ e
theorem joinB_first {c : List UInt8} (h : Wd c) : joinB [47] c = 47 :: c := by
  unfold joinB
  obtain ⟨h1, h2⟩ := h
  cases c with
  | nil => exact absurd rfl h1
  | cons x r =>
    have hx : x ≠ 47 := fun e => h2 (by rw [e]; exact .head _)
    rw [if_neg (by simp [List.cons_prefix_cons]; exact fun e => hx e.symm), if_pos (List.suffix_refl _)]
    rfl
theorem joinB_more {a c : List UInt8} {x : UInt8} (h : Wd c) (ha : a.getLast? = some x) (hx : x ≠ 47) : joinB a c = a ++ 47 :: c := by
  unfold joinB
  obtain ⟨h1, h2⟩ := h
  cases c with
  | nil => exact absurd rfl h1
  | cons y r =>
    have hy : y ≠ 47 := fun e => h2 (by rw [e]; exact .head _)
    have hn : a ≠ [] := fun e => by rw [e] at ha; simp at ha
    rw [if_neg (by simp [List.cons_prefix_cons, hn]; exact fun e => hy e.symm), if_neg]
    rintro ⟨t, rfl⟩
    simp at ha
    exact hx ha.symm
theorem catw_append (a b : List (List UInt8)) : catw (a ++ b) = catw a ++ catw b := by
  simp [catw]
theorem catw_last : ∀ {ws : List (List UInt8)}, ws ≠ [] → (∀ c ∈ ws, Wd c) → ∃ x, (catw ws).getLast? = some x ∧ x ≠ 47 := by
  intro ws hne h
  rcases List.eq_nil_or_concat ws with rfl | ⟨ws1, d, rfl⟩
  · exact absurd rfl hne
  · have hd := h d (by simp)
    obtain ⟨hd1, hd2⟩ := hd
    refine ⟨d.getLast hd1, ?_, fun q => hd2 (by rw [← q]; exact List.getLast_mem hd1)⟩
    rw [List.concat_eq_append, catw_append]
    have e : catw [d] = 47 :: d := by simp [catw]
    rw [e, List.getLast?_append, List.getLast?_cons, List.getLast?_eq_some_getLast hd1]
    rfl
theorem fold_cat : ∀ (ws ws0 : List (List UInt8)), ws0 ≠ [] → (∀ c ∈ ws, Wd c) → (∀ c ∈ ws0, Wd c) → ws.foldl joinB (catw ws0) = catw (ws0 ++ ws)
  | [], ws0, _, _, _ => by simp
  | c :: ws, ws0, hne, h, h0 => by
    obtain ⟨x, hx1, hx2⟩ := catw_last hne h0
    rw [List.foldl_cons, joinB_more (h c (.head _)) hx1 hx2, show catw ws0 ++ 47 :: c = catw (ws0 ++ [c]) by rw [catw_append]; simp [catw],
      fold_cat ws (ws0 ++ [c]) (by simp) (fun x hx => h x (.tail _ hx)) (by simpa using fun x hx => hx.elim (h0 x) (fun q => q ▸ h c (.head _)))]
    simp
theorem joinB_len (a c : List UInt8) : (joinB a c).length ≤ a.length + c.length + 1 := by
  unfold joinB
  split
  · (first | lia | omega)
  · split <;> simp <;> (first | lia | omega)
theorem fold_words (ws : List (List UInt8)) (h : ∀ c ∈ ws, Wd c) : ws.foldl joinB [47] = 47 :: [47].intercalate ws := by
  cases ws with
  | nil => rfl
  | cons c ws =>
    rw [List.foldl_cons, joinB_first (h c (.head _)), catw_inter (by simp), show (47 :: c) = catw [c] by simp [catw], fold_cat ws [c] (by simp) (fun x hx => h x (.tail _ hx)) (by simpa using h c (.head _))]
    rfl
theorem fold_skip (n : Nat) (hn : n < 65536) : ∀ ks : List Nat, ks.Pairwise (fun a b => b ≤ a) →
    ks.foldl (fun a k => joinB a (letters (digs (n / 16 ^ k)))) [47] = ((ks.filter fun k => decide (16 ^ k ≤ n)).map fun k => letters (digs (n / 16 ^ k))).foldl joinB [47]
  | [], _ => rfl
  | k :: ks, h => by
    by_cases hk : 16 ^ k ≤ n
    · have hall : (k :: ks).filter (fun k => decide (16 ^ k ≤ n)) = k :: ks := by
        rw [List.filter_eq_self]
        intro j hj
        rcases List.mem_cons.mp hj with rfl | hj
        · simpa using hk
        · have := List.rel_of_pairwise_cons h hj
          exact decide_eq_true (Nat.le_trans (Nat.pow_le_pow_right (by decide) this) hk)
      rw [hall, List.foldl_map]
    · rw [List.filter_cons_of_neg (by simpa using hk), List.foldl_cons, Nat.div_eq_of_lt (by (first | lia | omega)), show joinB [47] (letters (digs 0)) = [47] by decide]
      exact fold_skip n hn ks (List.Pairwise.of_cons h)
theorem join_way {n : Nat} (hn : n < 65536) : [3, 2, 1, 0].foldl (fun a k => joinB a (letters (digs (n / 16 ^ k)))) [47] = way (digs n) := by
  rw [fold_skip n hn _ (by decide)]
  show ((keys n).map fun k => letters (digs (n / 16 ^ k))).foldl joinB [47] = _
  rw [← words_digs hn, fold_words]
  · rfl
  · rw [words_digs hn]
    intro c hc
    obtain ⟨k, hk, rfl⟩ := List.mem_map.mp hc
    have hk' : 16 ^ k ≤ n := by
      have := (List.mem_filter.mp hk).2
      simpa using this
    exact letters_wd (Nat.lt_of_le_of_lt (Nat.div_le_self _ _) hn) (by have := Nat.div_pos hk' (Nat.pow_pos (by decide)); (first | lia | omega))
end Mine
end
theorem Mine.calmR2 : True := by w_top off; trivial
section
open PySem PySem.W PyProof.Rows PySem.Calls
open PySem.Builtin
set_option maxRecDepth 100000
set_option maxHeartbeats 4000000
set_option linter.unusedVariables false
namespace Mine
theorem le4 {P : Nat → Prop} {i : Nat} (h : i < 4) (h0 : P 0) (h1 : P 1) (h2 : P 2) (h3 : P 3) : P i := by
  rcases i with _ | _ | _ | _ | i
  · exact h0
  · exact h1
  · exact h2
  · exact h3
  · exact absurd h (Nat.not_lt.mpr (Nat.le_add_left 4 i))
theorem at4 {f : Nat → List UInt8} {l : List UInt8} {i : Nat} (h : i < 4) (e : ([3, 2, 1, 0][i]?).map f = some l) : l = f ([3, 2, 1, 0].getD i 0) :=
  le4 (P := fun i => ([3, 2, 1, 0][i]?).map f = some l → l = f ([3, 2, 1, 0].getD i 0)) h (fun e => (Option.some.inj e).symm) (fun e => (Option.some.inj e).symm) (fun e => (Option.some.inj e).symm) (fun e => (Option.some.inj e).symm) e
theorem fold4 {g : List UInt8 → Nat → List UInt8} {a : List UInt8} {i : Nat} (h : i < 4) : g (([3, 2, 1, 0].take i).foldl g a) ([3, 2, 1, 0].getD i 0) = ([3, 2, 1, 0].take (i + 1)).foldl g a :=
  le4 (P := fun i => g (([3, 2, 1, 0].take i).foldl g a) ([3, 2, 1, 0].getD i 0) = ([3, 2, 1, 0].take (i + 1)).foldl g a) h rfl rfl rfl rfl
section
variable {w : World} {s : Shared} {A : Around} {Q E : Value → Shared → Prop}
theorem made {z : Int} {n : Nat} {t : Tok} {G : Heap} (hz : z.natAbs = n) (hn : n < 65536) (g : Gh w 162 160 G s.heap) (lt : LamTab 160 176 18 "_law_made.<locals>.<lambda>" s.heap) (rm : Room A 20)
    (h : ∀ b t h' tk, b.toList = way (digs n) → KeepB [160] s.heap h' → LamTab 160 176 18 "_law_made.<locals>.<lambda>" h' → Q (.bytes b t) { s with heap := h', toks := tk }) :
    wpAny (mdl w) A (call (.ref 163) [.int z t]) Q E s := by
  have O : Ok w s.heap := g.ok.keeps g.keep
  obtain ⟨p, loose, mean, mg, mb, T⟩ := O.T
  refine enterC (n := 19) O rm (by k_is) (by k_is) (BindsTo.of_eq rfl) rfl (by decide +kernel) ?_
  intro dp un L h₁ tk cells hdp hu F N Y X
  k_cells Y
  (try simp only [List.cons_append, List.nil_append] at N)
  rename_i o1 o2 d1 d2
  have numC : h₁.IsCell (L + 1) (some (.int z t)) := ⟨_, (N _ (.tail _ (.head _))).1, d2⟩
  have sgC : h₁.IsCell (L + 1 + 1) none := ⟨_, (N _ (.head _)).1, d1⟩
  have nC : s.heap.get? (L + 1 + 1) = none := (N _ (.head _)).2.2
  have nLC : L + 1 + 1 ≠ L := (N _ (.head _)).2.1
  clear d1 d2 N
  refine wpAny_execs_cons ?_
  refine wpAny_Assign_Name ?_
  refine wpAny_mono (Q := fun v s' => ∃ sg u tk', v = .int sg u ∧ (sg = 1 ∨ sg = -1) ∧ s' = { s with heap := h₁, toks := tk' }) (E := fun _ _ => False) ?_ ?_ (fun _ _ e => e)
  · refine wpAny_IfExp ?_
    refine wpAny_isTrue_Compare1 ?_
    refine (Rd.cell (c := L + 1) numC) _ _ _ (Keep.refl _) ?_
    refine wpAny_Constant_int ?_
    refine PyProof.Rows.ge_int ?_
    refine wpAny_truthy_bool ?_
    split
    · exact wpAny_Constant_int ⟨_, _, _, rfl, .inl rfl, rfl⟩
    · refine UnaryOp_ ?_
      refine wpAny_Constant_int ?_
      refine PyProof.Rows.neg_int ?_
      exact ⟨_, _, _, rfl, .inr rfl, rfl⟩
  rintro v s' ⟨sg, u0, tk', rfl, hsg, rfl⟩
  refine wpAny_storeName_cell (by rfl) (by rfl) (c := L + 1 + 1) (by rfl) sgC ?_
  intro h2 sg2 hs2
  have F2 : Fr s.heap L h2 _ := ⟨F.ns.extBut hs2.extBut (Ne.symm nLC), fun b o e => hs2.extBut b o (fun q => by rw [q, nC] at e; cases e) (F.keep b o e), F.above⟩
  have num2 : h2.IsCell (L + 1) (some (.int z t)) := by obtain ⟨o, e, r⟩ := numC; exact ⟨o, hs2.extBut _ _ (Nat.ne_of_lt (Nat.lt_succ_self _)) e, r⟩
  have O2 : Ok w h2 := O.keeps F2.keep
  refine wpAny_execs_cons ?_
  refine alc_free F2 rfl (n := 4) (P := fun i v => i < 4 ∧ ∃ t, v = .int ((3 - i : Nat) : Int) t) (fun _ => true) (fun v y => ∀ k t, v = .int ((k : Nat) : Int) t → k ≤ 3 → ∃ b u, y = .bytes b u ∧ b.toList = letters (digs (n / 16 ^ k)))
    (down_src rfl) (by rw [sizeLine_eq]; decide) ?_ ?_ ?_
  · intro C i v s₃ m₃ E' hP hns hm hk _
    exact wpAny_tests_nil ⟨rfl, Keeps.refl _⟩
  · intro C i v s₃ m₃ E' hP _ hns hm hk hu'
    obtain ⟨hi, u, rfl⟩ := hP
    have O3 : Ok w s₃.heap := O2.keeps hk
    refine call1 O3 (by k_is) ⟨_, _, _, _, by k_is⟩ ?_
    have num3 : s₃.heap.IsCell (L + 1) (some (.int z t)) := by obtain ⟨o, e, r⟩ := num2; exact ⟨o, hk _ _ e, r⟩
    have sg3 : s₃.heap.IsCell (L + 1 + 1) (some (.int sg u0)) := by obtain ⟨o, e, r⟩ := sg2; exact ⟨o, hk _ _ e, r⟩
    refine wpAny_BinOp ?_
    refine (Rd.cell (c := L + 1 + 1) sg3) _ _ _ (Keep.refl _) ?_
    refine wpAny_BinOp ?_
    refine callB1 O3 (by k_is) boot_abs ?_
    refine (Rd.cell (c := L + 1) num3) _ _ _ (Keep.refl _) ?_
    refine call_abs_int fun u1 tk1 => ?_
    have ez : (if z < 0 then -z else z) = (n : Int) := by split <;> (first | lia | omega)
    rw [ez]
    have hk3 : 3 - i ≤ 3 := by (first | lia | omega)
    refine pow16 hk3 (Rd.local hns hm) fun u2 tk2 => ?_
    refine floordiv_int (by have := pow16_pos (3 - i); (first | lia | omega)) ?_ (.inl (PyProof.noPylong_small (by have := pow16_small hk3; rw [Int.natAbs_natCast]; (first | lia | omega))))
    have e : (n : Int).fdiv ((16 ^ (3 - i) : Nat) : Int) = ((n / 16 ^ (3 - i) : Nat) : Int) := by
      rw [Int.fdiv_eq_ediv_of_nonneg _ (Int.natCast_nonneg _)]; exact (Int.natCast_ediv _ _).symm
    rw [e]
    have hdn : n / 16 ^ (3 - i) < 65536 := Nat.lt_of_le_of_lt (Nat.div_le_self _ _) hn
    refine PyProof.Rows.mul_int ?_ ?_
    · refine ⟨Keep.refl _, ?_⟩
      refine int2ap (n := n / 16 ^ (3 - i)) (by have : ∀ q : Nat, (sg * (q : Int)).natAbs = q := by { intro q; rcases hsg with rfl | rfl <;> (first | lia | omega) }; exact this _) hdn O3 ⟨rfl, by show dp + 6 ≤ 900; (first | lia | omega), by show un + 20 * 6 ≤ 9000; (first | lia | omega)⟩ fun b t h' tk hb hk' => ⟨fun k t e _ => ?_, keeps_of hk'⟩
      cases e
      exact ⟨b, _, rfl, hb⟩
    · generalize n / 16 ^ (3 - i) = q at hdn
      exact PySem.IntMulOk.of_right (PySem.intBits_le_64 (by (first | lia | omega)) (by (first | lia | omega)))
  intro D h4 tk4 ys vs hD hl4 hlen hP hpair F4 k4
  rw [show vs.filter (fun _ => true) = vs from List.filter_eq_self.mpr (fun _ _ => rfl)] at hpair
  have hin := paired_bytes (f := fun k => letters (digs (n / 16 ^ k))) (keys_paired (keys_down hlen hP) hpair)
  refine wpAny_execs_cons ?_
  refine wpAny_Return_some ?_
  have g1 := g.hide
  have F5 := frHide (P := 160) F4
  have lt4 : LamTab 160 176 18 "_law_made.<locals>.<lambda>" h4 := lt.keeps F4.keep
  have hPL : (160 : Addr) ≠ L := Nat.ne_of_lt (Nat.lt_of_lt_of_le lt.lt F4.above)
  have hDP := lt4.ne hl4
  have g4 : Gh w 162 160 (hideAll s.heap [160]) h4 := ⟨g1.ok, F5.keep, g1.none, g1.code⟩
  have fk0 : FnAt 136 (hideAll s.heap [160]) := FnK.at (w := w) ⟨_, _, _, _, by k_is⟩ g1.ok
  have fkk : ∀ {h : Heap}, Keep (hideAll s.heap [160]) h → FnAt 136 h := fun k => by obtain ⟨oc, od, fd, sl, e⟩ := fk0; exact ⟨oc, od, fd, sl, k _ _ e⟩
  refine wpAny_bind (ld_glob (v := .ref 136) (g1.ok.keeps g4.keep) (by k_is) ?_)
  refine callWith_F (fkk g4.keep) ?_ (by rfl) (by rfl)
  refine spliced_cons ?_
  show wpAny _ _ (eval _ _) _ _ _
  refine' lam_make (c := 162) (P := 160) (cl := [("sign", L + 1 + 1), ("number", L + 1)]) (fq := "_law_made") (qual := "_law_made.<locals>.<lambda>") ?lg ?lF ?lp ?lt ?lq ?ld ?lc ?_
  case lg => exact g4
  case lF => exact F5
  case lp => exact hPL
  case lt => exact lt4
  case lq => rfl
  case ld => rfl
  case lc => rfl
  intro f c' ctv pm h6 tk6 hf6 hc6 lt6 F6 g6 k6
  refine spliced_cons ?_
  refine ld_local F6.ns (v := .ref D) (by rfl) ?_
  refine spliced_cons ?_
  show wpAny _ _ (eval _ _) _ _ _
  refine Constant_bytes ?_
  refine spliced_nil ⟨fkk g6.keep, ?_⟩
  have hl6 : h6.IsList D ys := by obtain ⟨o, e, r⟩ := hl4; exact ⟨o, k6 _ _ (fun q => hDP (List.mem_singleton.mp q)) e, r⟩
  have hys : ys.size = 4 := by have := hin.length; simpa using this
  refine reduce3 (n := 11) (fun i v => ∃ b t, v = .bytes b t ∧ b.size ≤ 1 + 5 * i ∧ b.toList = ([3, 2, 1, 0].take i).foldl (fun a k => joinB a (letters (digs (n / 16 ^ k)))) [47]) (g6.ok.keeps g6.keep)
    ⟨rfl, by show dp + 15 ≤ 900; (first | lia | omega), by show un + 20 * 15 ≤ 9000; (first | lia | omega)⟩ hl6 ⟨_, _, _, _, hf6⟩ ⟨#[47], _, rfl, by decide, rfl⟩ ⟨_, _, rfl⟩ ?_ ?_
  · intro i v u A' h7 tk7 Q' E' rm7 k7 hu7 hacc hq
    obtain ⟨b, tb, rfl, hsz, hb⟩ := hacc
    have hi : i < 4 := by
      rcases Nat.lt_or_ge i 4 with q | q
      · exact q
      · rw [Array.getElem?_eq_none (by (first | lia | omega))] at hu7; cases hu7
    obtain ⟨bu, tu, rfl, hbu⟩ := hin.at (by simpa using hu7)
    rw [List.getElem?_map] at hbu
    have hbu' : bu.toList = letters (digs (n / 16 ^ ([3, 2, 1, 0].getD i 0))) := at4 (f := fun k => letters (digs (n / 16 ^ k))) hi hbu
    have hbs : bu.size ≤ 4 := by
      rw [← Array.length_toList, hbu']
      unfold letters
      rw [List.length_map]
      exact (num_digs (Nat.lt_of_le_of_lt (Nat.div_le_self _ _) hn)).2
    obtain ⟨c'', oc'', vs'', t'', e0, e1, e2⟩ := hc6
    refine lam_enter (n := 10) (g6.ok.keeps (Keep.trans g6.keep k7)) rm7 (k7 _ _ hf6) ⟨c'', oc'', vs'', t'', e0, k7 _ _ e1, e2⟩ (by rfl) (locs rfl) ?_
    intro dp8 un8 L8 h8 tk8 hd8 hu8 F8
    have O8 : Ok w h8 := (g6.ok.keeps (Keep.trans g6.keep k7)).keeps F8.keep
    refine call2 O8 (by k_is) ⟨_, _, _, _, by k_is⟩ ?_
    refine ld_local F8.ns (v := .bytes b tb) (by rfl) ?_
    refine ld_local F8.ns (v := .bytes bu tu) (by rfl) ⟨Keep.refl _, ?_⟩
    refine join_c O8 ⟨rfl, hd8, hu8⟩ (by (first | lia | omega)) (by (first | lia | omega)) fun b9 t9 h9 tk9 hb9 k9 => ?_
    refine hq _ h9 _ ⟨b9, t9, rfl, ?_, ?_⟩ (Keep.trans F8.keep k9)
    · have : b9.size = (joinB b.toList bu.toList).length := by rw [← hb9, Array.length_toList]
      rw [this]
      have h9 := joinB_len b.toList bu.toList
      simp only [Array.length_toList] at h9
      (first | lia | omega)
    · rw [hb9, hb, hbu']
      exact fold4 (g := fun a k => joinB a (letters (digs (n / 16 ^ k)))) hi
  · intro v h7 tk7 hacc k7
    obtain ⟨b, tb, rfl, hsz, hb⟩ := hacc
    rw [hys, show [3, 2, 1, 0].take 4 = [3, 2, 1, 0] from rfl, join_way hn] at hb
    exact h b _ h7 _ hb (fun b o nb e => k7 _ _ (g6.keep _ _ (hideAll_get _ e nb))) (lt6.keeps k7)
end
end Mine
end
theorem Mine.calmR3 : True := by w_top off; trivial
section
open PySem PySem.W PyProof.Rows PySem.Calls
set_option maxRecDepth 100000
set_option maxHeartbeats 4000000
namespace Mine
def NotRec (h : Heap) (Z : Addr) : Prop := ∀ o vs q t, h.get? Z = some o → o.data = .fields vs → vs[1]? = some (.str q t) → False
theorem notRec_ns {h : Heap} {Z : Addr} {m : Str → Option Value} (x : h.Ns Z m) : NotRec h Z := fun o vs q t e d _ => by
  obtain ⟨o', es, ep, e', d', _⟩ := x
  rw [e'] at e; cases e; rw [d'] at d; cases d
theorem notRec_list {h : Heap} {Z : Addr} {ys : Array Value} (x : h.IsList Z ys) : NotRec h Z := fun o vs q t e d _ => by
  obtain ⟨o', e', _, n, d'⟩ := x
  rw [e'] at e; cases e; rw [d'] at d; cases d
theorem notRec_iter {h : Heap} {Z l : Addr} {i : Nat} (x : h.IsListIter Z l i) : NotRec h Z := fun o vs q t e d v => by
  obtain ⟨o', e', _, d'⟩ := x
  rw [e'] at e; cases e; rw [d'] at d; cases d; simp at v
theorem LamTab.but {P Z : Addr} {line col : Nat} {qual : Str} {h h' : Heap} (x : LamTab P line col qual h) (hz : NotRec h Z) (hZP : Z ≠ P) (k : ∀ b o, b ≠ Z → h.get? b = some o → h'.get? b = some o) : LamTab P line col qual h' := by
  rcases x with e | ⟨c', e, c, oc, vs, t, e0, e1, r1, r2⟩
  · exact .inl (k _ _ (Ne.symm hZP) e)
  · exact .inr ⟨c', k _ _ (Ne.symm hZP) e, c, oc, vs, t, e0, k _ _ (fun q => hz oc vs qual t (q ▸ e1) r1 r2) e1, r1, r2⟩
inductive LamInv (s : Shared) (P : Addr) (line col : Nat) (qual : Str) (C I D l : Addr) (items : Array Value) (F : Value → Value → Prop) (k : Nat) : Shared → Prop
  | mk (i : Nat) (h' : Heap) (tk : Nat) (m' : Str → Option Value) (zs : Array Value) : h'.IsListIter I l i → h'.PlainList D zs → h'.Ns C m' → Paired F (items.toList.take i) zs.toList → i ≤ items.size → k = items.size + 1 - i → KeepB [P] s.heap h' → LamTab P line col qual h' →
    LamInv s P line col qual C I D l items F k { s with heap := h', toks := tk }
section
variable {prog : Program} {w : World} {A : Around} {E : Value → Shared → Prop} {s : Shared} {env : Env}
/-- [elt for x in a list], assigned, where elt may add to the code table P -/
theorem alc_lam {elt iter : Expr} {x : Str} {px : Pos} {scope : Scope} {cl : List (Str × Addr)} {pos : Pos} {l : Addr} {items : Array Value} {y : Str} {py spos : Pos} {Q : Flow → Shared → Prop} {h₀ : Heap} {L : Addr} {m : Str → Option Value} {P : Addr} {line col : Nat} {qual : Str} (F : Value → Value → Prop)
    (F₀ : Fr h₀ L s.heap m) (hLe : env.locals = L) (hh : A.handled = none) (hP0 : h₀.get? P = none) (hPL : P ≠ L) (lt : LamTab P line col qual s.heap) (hl : s.heap.IsList l items)
    (hsrc : ∀ (Q : Value → Shared → Prop) E, Q (.ref l) s → wpAny (model prog w) A (eval iter env) Q E s) (hz : items.size ≤ sizeLine)
    (he : ∀ (C : Addr) (i : Nat) (v : Value) (s₃ : Shared) (m₃ : Str → Option Value) (E' : Value → Shared → Prop), items[i]? = some v → s₃.heap.Ns C m₃ → m₃ x = some v → KeepB [P] s.heap s₃.heap → LamTab P line col qual s₃.heap → Under s.heap C →
      wpAny (model prog w) A (eval elt (compEnvC scope cl C env)) (fun q s₄ => F v q ∧ ∃ h' tk, s₄ = { s₃ with heap := h', toks := tk } ∧ KeepB [P] s₃.heap h' ∧ LamTab P line col qual h') E' s₃)
    (h : ∀ D h' tk ys, s.heap.get? D = none → h'.IsList D ys → Paired F items.toList ys.toList → Fr h₀ L h' (fun z => if z = y then some (.ref D) else m z) → KeepB [L, P] s.heap h' → LamTab P line col qual h' → Q .next { s with heap := h', toks := tk })
    (hsw : swapsWith (.ListComp elt [⟨.Name x px, iter, [], 0⟩] scope pos) (some (.Name y py)) spos.line env = pure true := by rfl)
    (hy : env.kindOf y = some .local := by rfl) (hp : (env.scope.kind == .class || (env.scope.kind == .module && env.locals != env.globals)) = false := by rfl)
    (hclos : closureFor scope env = pure cl := by rfl) (hcell : ∀ y ∈ scope.names, y.2 ≠ .cell := by decide) (hkind : scope.kind = .function := by rfl)
    (hnames : ∀ y ∈ scope.names, y.2 = .local → scope.names.lookup y.1 = some .local := by decide) (hx : scope.names.lookup x = some .local := by decide)
    (hs : ∀ x, foldedSetIterable iter env x = pure x := by intro _; rfl) :
    wpAny (model prog w) A (exec (.Assign [.Name y py] (.ListComp elt [⟨.Name x px, iter, [], 0⟩] scope pos) spos) env) Q E s := by
  subst hLe
  rw [exec_Assign_Name_used _ _ _ _ hsw]
  refine wpAny_bind (wpAny_standAt (wpAny_bind ?_))
  show wpAny _ A (do let _ ← comprehension (.ListComp elt [⟨.Name x px, iter, [], 0⟩] scope pos) scope env _ (newList []) false (eval iter env) (some (assign (.Name y py) env))) _ _ s
  refine wpAny_bind (wpAny_mono (wpAny_comprehension_free (use := some (assign (.Name y py) env)) (Q := fun _ s' => Q .next s') rfl hs hclos hkind hnames
    (hsrc _ _ ?_)) (fun _ s' hq => wpAny_pure (wpAny_pure hq)) fun _ _ e => e)
  refine wpAny_pyIter_list hl ?_
  obtain ⟨I, hI⟩ : ∃ I, I = s.heap.objs.size := ⟨_, rfl⟩
  obtain ⟨h2, eh2⟩ : ∃ h2, h2 = s.heap.push (itObj l) := ⟨_, rfl⟩
  have up : Keep s.heap h2 := fun b o e => by rw [eh2]; exact Heap.get?_push_of_some _ e
  have hit2 : h2.IsListIter I l 0 := by rw [eh2, hI]; exact ⟨_, Heap.get?_push_size _ rfl, rfl, rfl⟩
  have hIs : s.heap.get? I = none := by rw [hI]; exact new_none _
  show wpAny _ A (newList []) _ _ { s with heap := s.heap.push (itObj l) }
  rw [← eh2, ← hI]
  clear eh2 hI
  have hIlt : I < h2.objs.size := by obtain ⟨o, e, _⟩ := hit2; exact Heap.lt_size e
  refine wpAny_newObj_type (wpAny_newFunctionEnv hcell (by intro y hy; simp at hy) (fun h₁ hns₁ hsb₁ => ?_) hkind)
  dsimp only at hns₁ hsb₁ ⊢
  obtain ⟨C, hC⟩ : ∃ C, C = (h2.push { cls := .type "list", dict := none, data := .seq ([] : List Value).toArray }).objs.size := ⟨_, rfl⟩
  obtain ⟨D, hD⟩ : ∃ D, D = h2.objs.size := ⟨_, rfl⟩
  have hCD : C = D + 1 := by rw [hC, hD, Heap.size_push]
  have old : Keep h2 h₁ := fun b o e => hsb₁.extBut b o (by rw [Heap.size_push]; exact Nat.ne_of_lt (Nat.lt_succ_of_lt (Heap.lt_size e))) (Heap.get?_push_of_some _ (Heap.get?_push_of_some _ e))
  have hacc : h₁.PlainList h2.objs.size #[] := ⟨_, hsb₁.extBut _ _ (by rw [Heap.size_push]; exact Nat.ne_of_lt (Nat.lt_succ_self _)) (Heap.get?_push_of_some _ (Heap.get?_push_size _ rfl))⟩
  rw [← hC] at hns₁ ⊢
  rw [← hD] at hacc ⊢
  have live : ∀ b o, h2.get? b = some o → b ≠ C ∧ b ≠ D := fun b o e => by
    have := Heap.lt_size e
    rw [← hD] at this
    exact ⟨by rw [hCD]; exact Nat.ne_of_lt (Nat.lt_succ_of_lt this), Nat.ne_of_lt this⟩
  have hDC : D ≠ C := by rw [hCD]; exact Nat.ne_of_lt (Nat.lt_succ_self _)
  have hIC : I ≠ C := by rw [hCD, hD]; exact Nat.ne_of_lt (Nat.lt_succ_of_lt hIlt)
  have hID : I ≠ D := by rw [hD]; exact Nat.ne_of_lt hIlt
  have under : Under s.heap C := fun b o e => by
    rw [hCD, hD]; exact Nat.lt_succ_of_lt (Heap.lt_size (up _ _ e))
  have sne : ∀ b o, s.heap.get? b = some o → b ≠ C ∧ b ≠ I ∧ b ≠ D := fun b o e => ⟨(live _ _ (up _ _ e)).1, (fun q => by rw [q, hIs] at e; cases e), (live _ _ (up _ _ e)).2⟩
  have hPs : ∃ o, s.heap.get? P = some o := by rcases lt with e | ⟨_, e, _⟩ <;> exact ⟨_, e⟩
  obtain ⟨oP, hoP⟩ := hPs
  obtain ⟨hPC, hPI, hPD⟩ := sne _ _ hoP
  obtain ⟨ol, hol, hlr⟩ := id hl
  obtain ⟨hlC, hlI, hlD⟩ := sne _ _ hol
  have hlP : l ≠ P := lt.ne hl
  have hxk : (compEnvC scope cl C env).kindOf x = some .local := lookup_relabel_local hx
  have hpk : ((compEnvC scope cl C env).scope.kind == .class || ((compEnvC scope cl C env).scope.kind == .module && (compEnvC scope cl C env).locals != (compEnvC scope cl C env).globals)) = false := by simp [compEnvC, relabel, hkind]
  have loop : ∀ s₃ : Shared, s₃ = { s with heap := h₁, toks := s.toks + ([] : List (Str × Value)).length } →
      codeAny (model prog w) A (.compLoop (.ListComp elt [⟨.Name x px, iter, [], 0⟩] scope pos) 0 (.ref I) (.ref D) (compEnvC scope cl C env))
        (compPost (model prog w) A E (some (assign (.Name y py) env)) (fun _ s' => Q .next s') (.ref D) C) s₃ := by
    rintro s₃ rfl
    refine codeAny_compLoop_tests (LamInv s P line col qual C I D l items F) ?_ (items.size + 1) (.mk 0 h₁ _ _ #[] (by obtain ⟨o, e, r⟩ := hit2; exact ⟨o, old _ _ e, r⟩) hacc hns₁ (by simpa using Paired.nil) (Nat.zero_le _) rfl (fun b o _ e => old _ _ (up _ _ e)) ((lt.keeps up).keeps old))
    rintro k s' ⟨i, H, tk, m', zs, hit', hacc', hn', hF, hi, rfl, hk, ltH⟩
    have hlH : H.IsList l items := ⟨ol, hk _ _ (fun q => hlP (List.mem_singleton.mp q)) hol, hlr⟩
    by_cases hlt : i < items.size
    · refine wpAny_pyNext_list_item hit' hlH (x := items[i]) (by simp [hlt]) fun h3 hit3 hs3 => ?_
      have lt3 := ltH.but (notRec_iter hit') (Ne.symm hPI) hs3.extBut
      have hn3 := hn'.extBut hs3.extBut (Ne.symm hIC)
      refine wpAny_assign_Name (wpAny_storeName_local hxk hn3 (fun h₄ hn₄ hs₄ => ?_) hpk)
      replace hs₄ : Heap.SameBut C h3 h₄ := hs₄
      have lt4 := lt3.but (notRec_ns hn3) (Ne.symm hPC) hs₄.extBut
      have hit4 : h₄.IsListIter I l (i + 1) := by obtain ⟨o, e, r⟩ := hit3; exact ⟨o, hs₄.extBut _ _ hIC e, r⟩
      have hD4 : h₄.PlainList D zs := hacc'.at fun o e => hs₄.extBut _ _ hDC (hs3.extBut _ _ (Ne.symm hID) e)
      have k4 : KeepB [P] s.heap h₄ := fun b o nb e => hs₄.extBut _ _ (sne _ _ e).1 (hs3.extBut _ _ (sne _ _ e).2.1 (hk b o nb e))
      refine wpAny_tests_nil ?_
      simp only [if_true]
      refine wpAny_mono (he C i items[i] _ _ _ (by simp [hlt]) hn₄ (by simp) k4 lt4 under) (fun q s₅ h₅ => ?_) fun _ _ e => e
      obtain ⟨hFq, h5, tk5, rfl, k5, lt5⟩ := h₅
      have nP : ∀ b, b ≠ P → b ∉ [P] := fun b hb q => hb (List.mem_singleton.mp q)
      have hit5 : h5.IsListIter I l (i + 1) := by obtain ⟨o, e, r⟩ := hit4; exact ⟨o, k5 _ _ (nP _ (Ne.symm hPI)) e, r⟩
      have hD5 : h5.PlainList D zs := hD4.at fun o e => k5 _ _ (nP _ (Ne.symm hPD)) e
      have hn5 : h5.Ns C _ := hn₄.at' fun o e => k5 _ _ (nP _ (Ne.symm hPC)) e
      have hzs : zs.size ≤ sizeLine := by
        have e1 := hF.length
        rw [List.length_take, Array.length_toList, Array.length_toList] at e1
        (first | lia | omega)
      refine wpAny_list_append_plain (hsz := hzs) hD5 fun h6 hl6 hs6 => ?_
      have lt6 := lt5.but (notRec_list hD5.isList) (Ne.symm hPD) hs6.extBut
      refine ⟨items.size + 1 - (i + 1), Nat.sub_lt_sub_left (Nat.lt_succ_of_lt hlt) (Nat.lt_succ_self i), .mk (i + 1) h6 tk5 _ (zs.push q) ?_ hl6 (hn5.sameBut hs6 (Ne.symm hDC)) ?_ hlt rfl ?_ lt6⟩
      · obtain ⟨o, e, r⟩ := hit5; exact ⟨o, hs6.extBut _ _ hID e, r⟩
      · rw [List.take_add_one, Array.toList_push, Array.getElem?_toList]
        simp only [hlt, Array.getElem?_eq_getElem, Option.toList]
        exact Paired.snoc hF hFq
      · exact fun b o nb e => hs6.extBut _ _ (sne _ _ e).2.2 (k5 _ _ nb (k4 b o nb e))
    · have hin : i = items.size := Nat.le_antisymm hi (Nat.not_lt.mp hlt)
      subst hin
      refine wpAny_pyNext_list_end hh hit' hlH (by simp) fun h3 he3 => ?_
      have lt3 := ltH.but (notRec_iter hit') (Ne.symm hPI) he3
      have hn3 := hn'.extBut he3 (Ne.symm hIC)
      have hD3 : h3.PlainList D zs := hacc'.at fun o e => he3 _ _ (Ne.symm hID) e
      have k3 : KeepB [P] s.heap h3 := fun b o nb e => he3 _ _ (sne _ _ e).2.1 (hk b o nb e)
      have nP : ∀ b, b ≠ P → b ∉ [P] := fun b hb q => hb (List.mem_singleton.mp q)
      obtain ⟨oL, eL, pL, hoL, rL⟩ := id F₀.ns
      obtain ⟨hLC, hLI, hLD⟩ := sne _ _ hoL
      have hnL : h3.Ns env.locals m := ⟨oL, eL, pL, k3 _ _ (nP _ (Ne.symm hPL)) hoL, rL⟩
      show wpAny _ A (assign (.Name y py) env (.ref D)) _ _ _
      refine wpAny_assign_Name (wpAny_storeName_local hy hnL (fun h₄ hn₄ hs₄ => ?_) hp)
      replace hs₄ : Heap.SameBut env.locals h3 h₄ := hs₄
      refine ⟨m', hn3.sameBut hs₄ (Ne.symm hLC), fun h₅ hs₅ => ?_⟩
      have hn4C := hn3.sameBut hs₄ (Ne.symm hLC)
      replace hs₅ : Heap.SameBut C h₄ h₅ := hs₅
      have lt5 := (lt3.but (notRec_ns hnL) (Ne.symm hPL) hs₄.extBut).but (notRec_ns hn4C) (Ne.symm hPC) hs₅.extBut
      have k5 : KeepB [env.locals, P] s.heap h₅ := fun b o nb e => by
        simp only [List.mem_cons, List.not_mem_nil, or_false, not_or] at nb
        exact hs₅.extBut _ _ (sne _ _ e).1 (hs₄.extBut _ _ nb.1 (k3 _ _ (nP _ nb.2) e))
      have hD5 : h₅.IsList D zs := (hD3.isList.extBut hs₄.extBut (Ne.symm hLD)).extBut hs₅.extBut hDC
      refine h D h₅ _ zs ?_ hD5 (by have := hF; rwa [List.take_of_length_le (by simp)] at this) ⟨hn₄.sameBut hs₅ hLC, ?_, F₀.above⟩ k5 lt5
      · cases e : s.heap.get? D with
        | none => rfl
        | some o => exact absurd rfl (sne _ _ e).2.2
      · intro b o e
        refine k5 b o ?_ (F₀.keep b o e)
        simp only [List.mem_cons, List.not_mem_nil, or_false, not_or]
        exact ⟨Nat.ne_of_lt (Nat.lt_of_lt_of_le (Heap.lt_size e) F₀.above), fun q => by rw [q, hP0] at e; cases e⟩
  exact codeAny_compStart_list (loop _ rfl) (wpAny_pyIter_listiter (by obtain ⟨o, e, r⟩ := hit2; exact ⟨o, old _ _ e, r⟩) (loop _ rfl))
end
end Mine
end
theorem Mine.calmLC : True := by w_top off; trivial
section
open PySem PySem.W PyProof.Rows PySem.Calls
open PySem.Builtin
set_option maxRecDepth 100000
set_option maxHeartbeats 4000000
namespace Mine
theorem num_lcp {x y : List Nat} (hx : Num x) : (lcp x y).length ≤ 4 := Nat.le_trans (lcp_left x y).length_le hx.2
theorem picked_from {b : Array UInt8} {k : Nat} : (KBy.picked b (some (k : Int)) none).toList = b.toList.drop k := by
  rw [KBc.picked_eq]
  simp only [Option.elim, clipAt_nat]
  by_cases h : k ≤ b.size
  · rw [Nat.min_eq_left h, List.toList_toArray, List.take_of_length_le (by simp)]
  · have h' : b.size ≤ k := by (first | lia | omega)
    rw [Nat.min_eq_right h', List.toList_toArray, List.drop_of_length_le (by simp), List.drop_of_length_le (by simpa using h')]
    simp
section
variable {w : World} {s : Shared} {A : Around} {Q E : Value → Shared → Prop}
theorem compared {b1 b2 : Array UInt8} {t1 t2 : Tok} {x y : List Nat} (O : Ok w s.heap) (rm : Room A 24) (h1 : b1.toList = way x) (h2 : b2.toList = way y) (hx : Num x) (hy : Num y)
    (h : ∀ k t h' tk, decide (k < 0) = lex ltN x y → Keep s.heap h' → Q (.int k t) { s with heap := h', toks := tk }) :
    wpAny (model PySem.Challenge.rw_pd0134_01.row.prog w) A (call (.ref 170) [.bytes b1 t1, .bytes b2 t2]) Q E s := by
  obtain ⟨p, loose, mean, mg, mb, T⟩ := O.T
  refine enter (n := 23) O rm (by k_is) (by k_is) (BindsTo.of_eq rfl) (locs rfl) ?_
  intro dp un L h₁ tk hdp hu F N X
  w_strict (iterate 6 walk1)
  by_cases hxy : x = y
  · have e : (b1.toList == b2.toList) = true := by rw [h1, h2, hxy]; simp
    rw [e]
    w_strict (k_steps)
    exact h 0 _ _ _ (by rw [hxy, lex_irr sto_N]; rfl) F.keep
  have e : (b1.toList == b2.toList) = false := by
    rw [h1, h2]
    cases q : (way x == way y) with
    | false => rfl
    | true => exact absurd (way_inj hx.1 hy.1 (eq_of_beq q)) hxy
  rw [e]
  w_strict (iterate 17 walk1)
  rename_i D hD FD ND _
  refine ⟨X.keeps FD.keep, cp (l := D) (vs := [.bytes b1 t1, .bytes b2 t2]) (x := x) (r := [y]) (O.keeps FD.keep) ⟨rfl, by show dp + 20 ≤ 900; (first | lia | omega), by show un + 20 * 20 ≤ 9000; (first | lia | omega)⟩ ⟨_, (ND _ (.head _)).1, rfl, _, rfl⟩ (.cons h1 (.cons h2 .nil)) (fun z hz => ?_) (by simp) ?_⟩
  · rcases List.mem_cons.mp hz with rfl | hz
    · exact hx
    · rw [List.mem_singleton.mp hz]; exact hy
  intro b t h3 tk3 hb hk3
  have F3 := FD.keeps hk3
  refine store_F F3 rfl ?_
  intro h4 tk4 F4 k4
  have N4 : News s.heap L h4 [] := fun _ hp => nomatch hp
  have hb' : b.toList = way (lcp x y) := hb
  clear F3 ND FD
  w_strict (iterate 6 walk1)
  by_cases q1 : lcp x y = x
  · have e : (b.toList == b1.toList) = true := by rw [hb', h1, q1]; simp
    rw [e]
    w_strict (k_steps)
    refine h (-7) _ _ _ ?_ F4.keep
    have h9 := prefix_le sto_N (q1 ▸ lcp_right x y)
    rcases sto_N.lex.tot x y hxy with z | z
    · rw [z]; rfl
    · rw [z] at h9; cases h9
  have e : (b.toList == b1.toList) = false := by
    rw [hb', h1]
    cases q : (way (lcp x y) == way x) with
    | false => rfl
    | true => exact absurd (way_inj (lcp_dig hx.1) hx.1 (eq_of_beq q)) q1
  rw [e]
  w_strict (iterate 9 walk1)
  by_cases q2 : lcp x y = y
  · have e : (b.toList == b2.toList) = true := by rw [hb', h2, q2]; simp
    rw [e]
    w_strict (k_steps)
    refine h 7 _ _ _ ?_ F4.keep
    have h9 := prefix_le sto_N (q2 ▸ lcp_left x y)
    rw [h9]; rfl
  have e : (b.toList == b2.toList) = false := by
    rw [hb', h2]
    cases q : (way (lcp x y) == way y) with
    | false => rfl
    | true => exact absurd (way_inj (lcp_dig hx.1) hy.1 (eq_of_beq q)) q2
  rw [e]
  have hbz : b.size ≤ 40 := by rw [← Array.length_toList, hb']; exact way_len (num_lcp hx)
  have hz1 : b1.size ≤ 40 := by rw [← Array.length_toList, h1]; exact way_len hx.2
  have hz2 : b2.size ≤ 40 := by rw [← Array.length_toList, h2]; exact way_len hy.2
  have hr1 : ∀ lo, lo = some (b.size : Int) → (KBy.picked b1 lo none).toList = (way x).drop (way (lcp x y)).length := by
    rintro lo rfl
    rw [picked_from, h1, ← hb', Array.length_toList]
  have hr2 : ∀ lo, lo = some (b.size : Int) → (KBy.picked b2 lo none).toList = (way y).drop (way (lcp x y)).length := by
    rintro lo rfl
    rw [picked_from, h2, ← hb', Array.length_toList]
  have hcmp := rest_cmp hx.1 hy.1 q1 q2
  have hcmp2 : lex ltU ((way y).drop (way (lcp x y)).length) ((way x).drop (way (lcp x y)).length) = lex ltN y x := by
    have := rest_cmp hy.1 hx.1 (by rw [lcp_comm]; exact q2) (by rw [lcp_comm]; exact q1)
    rwa [lcp_comm y x] at this
  w_strict (k_steps)
  refine KBc.slice_K F4 N4 rfl (.int _ _) .none (by rw [KBw.ints_length]; (first | lia | omega)) ?_
  intro h5 t5 k5 F5 N5 _
  w_strict (k_steps)
  refine KBc.slice_K F5 N5 rfl (.int _ _) .none (by rw [KBw.ints_length]; (first | lia | omega)) ?_
  intro h6 t6 k6 F6 N6 _
  refine gt_bytes ?_
  rw [hr1 _ (by first | rfl | simp [KBw.ints_length]), hr2 _ (by first | rfl | simp [KBw.ints_length]), order_swap, order_lex, hcmp2]
  w_strict (k_steps)
  refine KBc.slice_K F6 N6 rfl (.int _ _) .none (by rw [KBw.ints_length]; (first | lia | omega)) ?_
  intro h7 t7 k7 F7 N7 _
  w_strict (k_steps)
  refine KBc.slice_K F7 N7 rfl (.int _ _) .none (by rw [KBw.ints_length]; (first | lia | omega)) ?_
  intro h8 t8 k8 F8 N8 _
  refine lt_bytes ?_
  rw [hr1 _ (by first | rfl | simp [KBw.ints_length]), hr2 _ (by first | rfl | simp [KBw.ints_length]), order_lex, hcmp]
  w_strict (k_steps)
  refine h _ _ _ _ ?_ F8.keep
  cases hlt : lex ltN x y with
  | true => rw [sto_N.lex.asym hlt]; rfl
  | false =>
    rcases sto_N.lex.tot x y hxy with z | z
    · rw [hlt] at z; cases z
    · rw [z]; rfl
end
end Mine
end
theorem Mine.calmX0 : True := by w_top off; trivial
section
open PySem PySem.W PyProof.Rows PySem.Calls PySem.W.X
open PySem.Builtin
set_option maxRecDepth 100000
set_option maxHeartbeats 4000000
namespace Mine
/-- the ledger of what was made since h₀ -/
structure Lg (h₀ h : Heap) (news : List (Addr × Obj)) : Prop where
  up : Keep h₀ h
  nw : ∀ p ∈ news, h.get? p.1 = some p.2 ∧ h₀.get? p.1 = none
  ap : (news.map (·.1)).Pairwise (· ≠ ·)
theorem Lg.start (h : Heap) : Lg h h [] := ⟨Keep.refl h, fun _ hp => (nomatch hp), List.Pairwise.nil⟩
theorem Lg.of_mem {h₀ h : Heap} {news : List (Addr × Obj)} (D : Mem h₀ h [] news) : Lg h₀ h news :=
  ⟨fun b o e => D.keep b o e (by simp [away]), D.nw, D.ord.imp fun h => Nat.ne_of_gt h⟩
theorem Lg.trans {h₀ h h' : Heap} {n1 n2 : List (Addr × Obj)} (D : Lg h₀ h n1) (D' : Lg h h' n2) : Lg h₀ h' (n2 ++ n1) where
  up := D.up.trans D'.up
  nw := fun p hp => by
    rcases List.mem_append.mp hp with hp | hp
    · refine ⟨(D'.nw p hp).1, ?_⟩
      cases e : h₀.get? p.1 with
      | none => rfl
      | some o => have := (D'.nw p hp).2; rw [D.up _ _ e] at this; cases this
    · exact ⟨D'.up _ _ (D.nw p hp).1, (D.nw p hp).2⟩
  ap := by
    rw [List.map_append]
    refine List.pairwise_append.mpr ⟨D'.ap, D.ap, fun a ha b hb => ?_⟩
    obtain ⟨p, hp, rfl⟩ := List.mem_map.mp ha
    obtain ⟨q, hq, rfl⟩ := List.mem_map.mp hb
    intro e
    have h1 := (D.nw q hq).1
    rw [← e, (D'.nw p hp).2] at h1; cases h1
theorem Lg.sub {h₀ h : Heap} {n1 n2 : List (Addr × Obj)} (D : Lg h₀ h n1) (hs : n2.Sublist n1) : Lg h₀ h n2 :=
  ⟨D.up, fun p hp => D.nw p (hs.subset hp), D.ap.sublist (hs.map _)⟩
theorem Lg.at {h₀ h : Heap} {news : List (Addr × Obj)} (D : Lg h₀ h news) (i : Nat) {a : Addr} {o : Obj} (hi : news[i]? = some (a, o)) : h.get? a = some o := (D.nw _ (List.mem_of_getElem? hi)).1
theorem Lg.new {h₀ h : Heap} {news : List (Addr × Obj)} (D : Lg h₀ h news) (i : Nat) {a : Addr} {o : Obj} (hi : news[i]? = some (a, o)) : h₀.get? a = none := (D.nw _ (List.mem_of_getElem? hi)).2
theorem Lg.push {h₀ h : Heap} {news : List (Addr × Obj)} (D : Lg h₀ h news) {o : Obj} (hf : o.isFreed = false) : Lg h₀ (h.push o) ((h.objs.size, o) :: news) where
  up := fun b o' e => Heap.get?_push_of_some _ (D.up b o' e)
  nw := fun p hp => by
    rcases List.mem_cons.mp hp with rfl | hp
    · refine ⟨Heap.get?_push_size _ hf, ?_⟩
      cases e : Heap.get? h₀ h.objs.size with
      | none => rfl
      | some o => exact absurd (Heap.lt_size (D.up _ _ e)) (Nat.lt_irrefl _)
    · exact ⟨Heap.get?_push_of_some _ (D.nw p hp).1, (D.nw p hp).2⟩
  ap := by
    refine List.Pairwise.cons (fun b hb => ?_) D.ap
    obtain ⟨q, hq, rfl⟩ := List.mem_map.mp hb
    exact Nat.ne_of_gt (Heap.lt_size (D.nw q hq).1)
theorem Lg.update {h₀ h : Heap} {news : List (Addr × Obj)} {d : Addr} {f : Obj → Obj} {o o' : Obj} (D : Lg h₀ h news) (i : Nat) (hi : news[i]? = some (d, o)) (e : f o = o') (hf : o'.isFreed = false) : Lg h₀ (h.update d f) (news.set i (d, o')) := by
  have G := D.at i hi
  obtain ⟨hl, he⟩ := List.getElem?_eq_some_iff.mp hi
  have hne : ∀ b x, h₀.get? b = some x → d ≠ b := fun b x ex q => by rw [← q, D.new i hi] at ex; cases ex
  have hm : (news.set i (d, o')).map (·.1) = news.map (·.1) := by
    rw [List.map_set]
    refine List.ext_getElem (by simp) fun k h1 h2 => ?_
    by_cases hk : i = k
    · subst hk; simp [he]
    · simp [List.getElem_set, hk]
  refine ⟨fun b x ex => (Heap.get?_update_other _ _ (hne b x ex)).trans (D.up b x ex), fun p hp => ?_, by rw [hm]; exact D.ap⟩
  rcases List.mem_or_eq_of_mem_set hp with hp' | rfl
  · by_cases hpd : p.1 = d
    · -- p is the very entry
      obtain ⟨k, hk, hke⟩ := List.getElem_of_mem hp
      by_cases hki : i = k
      · subst hki
        simp only [List.getElem_set_self] at hke
        subst hke
        exact ⟨(Heap.get?_update_self f G (by rw [e]; exact hf)).trans (by rw [e]), D.new i hi⟩
      · exfalso
        rw [List.getElem_set_ne hki] at hke
        have hk' : k < news.length := by simpa using hk
        have hp1 := D.ap
        rw [List.pairwise_iff_getElem] at hp1
        rcases Nat.lt_or_gt_of_ne hki with hlt | hlt
        · have := hp1 i k (by simpa using hl) (by simpa using hk') hlt
          simp only [List.getElem_map, he, hke, hpd] at this
          exact this rfl
        · have := hp1 k i (by simpa using hk') (by simpa using hl) hlt
          simp only [List.getElem_map, he, hke, hpd] at this
          exact this rfl
    · exact ⟨(Heap.get?_update_other _ _ (Ne.symm hpd)).trans (D.nw p hp').1, (D.nw p hp').2⟩
  · exact ⟨(Heap.get?_update_self f G (by rw [e]; exact hf)).trans (by rw [e]), D.new i hi⟩
theorem Lg.ne {h₀ h : Heap} {news : List (Addr × Obj)} (D : Lg h₀ h news) (i j : Nat) {a b : Addr} {o o' : Obj} (hi : news[i]? = some (a, o)) (hj : news[j]? = some (b, o')) (hij : i < j) : a ≠ b := by
  obtain ⟨h1, e1⟩ := List.getElem?_eq_some_iff.mp hi
  obtain ⟨h2, e2⟩ := List.getElem?_eq_some_iff.mp hj
  have := List.pairwise_iff_getElem.mp D.ap i j (by simpa using h1) (by simpa using h2) hij
  simpa only [List.getElem_map, e1, e2] using this
theorem Lg.ne' {h₀ h : Heap} {news : List (Addr × Obj)} (D : Lg h₀ h news) (i j : Nat) {a b : Addr} {o o' : Obj} (hi : news[i]? = some (a, o)) (hj : news[j]? = some (b, o')) (hij : i ≠ j) : a ≠ b := by
  rcases Nat.lt_or_gt_of_ne hij with h | h
  · exact D.ne i j hi hj h
  · exact (D.ne j i hj hi h).symm
theorem Lg.pick {h₀ h : Heap} {news : List (Addr × Obj)} (D : Lg h₀ h news) : ∀ (is : List Nat), is.Nodup → ∀ {n2 : List (Addr × Obj)}, is.map (fun i => news[i]?) = n2.map some → Lg h₀ h n2
  | [], _, [], _ => ⟨D.up, fun _ hp => (nomatch hp), List.Pairwise.nil⟩
  | [], _, _ :: _, e => by cases e
  | _ :: _, _, [], e => by cases e
  | i :: is, hn, p :: n2, e => by
    simp only [List.map_cons, List.cons.injEq] at e
    obtain ⟨e1, e2⟩ := e
    have hn' := List.nodup_cons.mp hn
    have R := Lg.pick D is hn'.2 e2
    refine ⟨D.up, fun q hq => ?_, List.Pairwise.cons (fun b hb => ?_) R.ap⟩
    · rcases List.mem_cons.mp hq with rfl | hq
      · exact D.nw _ (List.mem_of_getElem? e1)
      · exact R.nw q hq
    · obtain ⟨q, hq, rfl⟩ := List.mem_map.mp hb
      have : some q ∈ is.map (fun i => news[i]?) := by rw [e2]; exact List.mem_map_of_mem hq
      obtain ⟨j, hj, hje⟩ := List.mem_map.mp this
      exact D.ne' i j e1 hje (fun x => hn'.1 (x ▸ hj))
section
variable {prog : Program} {w : World} {M : Model} {A : Around} {E : Value → Shared → Prop} {s : Shared} {h₀ : Heap} {news : List (Addr × Obj)} {d a : Addr}
theorem l_load {o : Obj} {Q : Obj → Shared → Prop} (D : Lg h₀ s.heap news) (i : Nat) (hi : news[i]? = some (a, o)) (h : Q o s) : wpAny M A (load a) Q E s := wpAny_load (D.at i hi) h
theorem l_part {o : Obj} {q : Option Value} {Q : Obj → Shared → Prop} (D : Lg h₀ s.heap news) (i : Nat) (hi : news[i]? = some (a, o)) (h : Q o s) : wpAny M A (loadPart a q) Q E s := wpAny_loadPart (D.at i hi) h
theorem o_load {o : Obj} {Q : Obj → Shared → Prop} (D : Lg h₀ s.heap news) (e : h₀.get? a = some o) (h : Q o s) : wpAny M A (load a) Q E s := wpAny_load (D.up _ _ e) h
theorem o_part {o : Obj} {q : Option Value} {Q : Obj → Shared → Prop} (D : Lg h₀ s.heap news) (e : h₀.get? a = some o) (h : Q o s) : wpAny M A (loadPart a q) Q E s := wpAny_loadPart (D.up _ _ e) h
theorem p_get {es : List DictEntry} {n : Nat} {name : Str} {r : Option Value} {Q : Option Value → Shared → Prop} (G : s.heap.get? d = some (dictOf es n)) (e : getL name es = some r) (h : Q r s) : wpAny M A (nsGet d name) Q E s := by
  refine wpAny_bind (m := loadPart d (some (.str name 0))) (f := nsLook name) (wpAny_loadPart G ?_)
  rw [nsLook_of (r := r) (by rw [lookIn_dict]; exact e)]
  exact wpAny_pure h
theorem l_get {es : List DictEntry} {n : Nat} {name : Str} {r : Option Value} {Q : Option Value → Shared → Prop} (D : Lg h₀ s.heap news) (i : Nat) (hi : news[i]? = some (d, dictOf es n)) (e : getL name es = some r) (h : Q r s) : wpAny M A (nsGet d name) Q E s := p_get (D.at i hi) e h
theorem o_get {es : List DictEntry} {n : Nat} {name : Str} {r : Option Value} {Q : Option Value → Shared → Prop} (D : Lg h₀ s.heap news) (ho : h₀.get? d = some (dictOf es n)) (e : getL name es = some r) (h : Q r s) : wpAny M A (nsGet d name) Q E s := p_get (D.up _ _ ho) e h
theorem l_update {f : Obj → Obj} {o o' : Obj} {Q : Unit → Shared → Prop} (D : Lg h₀ s.heap news) (i : Nat) (hi : news[i]? = some (a, o)) (e : f o = o') (hf : o'.isFreed = false)
    (h : ∀ h', Lg h₀ h' (news.set i (a, o')) → Q () { s with heap := h' }) : wpAny M A (update a f) Q E s := wpAny_update (D.at i hi) (h _ (D.update i hi e hf))
theorem l_updatePart {f : Obj → Obj} {q : Option Value} {o o' : Obj} {Q : Unit → Shared → Prop} (D : Lg h₀ s.heap news) (i : Nat) (hi : news[i]? = some (a, o)) (e : f o = o') (hf : o'.isFreed = false)
    (h : ∀ h', Lg h₀ h' (news.set i (a, o')) → Q () { s with heap := h' }) : wpAny M A (updatePart a q f) Q E s := wpAny_updatePart (D.at i hi) (h _ (D.update i hi e hf))
theorem l_alloc {o : Obj} {Q : Addr → Shared → Prop} (D : Lg h₀ s.heap news) (hf : o.isFreed = false) (h : ∀ a h', Lg h₀ h' ((a, o) :: news) → Q a { s with heap := h' }) : wpAny M A (alloc o) Q E s :=
  wpAny_alloc (h _ _ (D.push hf))
theorem l_set {es es' : List DictEntry} {n n' : Nat} {name : Str} {v : Value} {Q : Unit → Shared → Prop} (D : Lg h₀ s.heap news) (i : Nat) (hi : news[i]? = some (d, dictOf es n))
    (hl : (getL name es).isSome = true) (e : putL name (PyData.keyHash w.params name) (.str name s.toks) v es = es') (e2 : putN name es n = n')
    (h : ∀ h', Lg h₀ h' (news.set i (d, dictOf es' n')) → Q () { s with heap := h', toks := s.toks + 1 }) : wpAny (model prog w) A (nsSet d name v) Q E s := by
  have G := D.at i hi
  have D' := D.update (f := Obj.putName name (PyData.keyHash w.params name) (.str name s.toks) v) i hi (o' := dictOf es' n') (by rw [putName_dict, e, e2]) rfl
  unfold nsSet
  refine wpAny_bind (wpAny_bind (wpAny_askSetting (wpAny_pure (wpAny_bind (wpAny_mkText (wpAny_bind (wpAny_loadPart G ?_)))))))
  have c : (!es.toArray.any (·.key.isStr name) && es.toArray.any (·.refKey)) = false := by
    rw [← Array.any_toList, ← Array.any_toList]
    unfold getL at hl
    split at hl
    · rename_i en he
      rw [List.any_eq_true.mpr ⟨en, List.mem_of_find?_eq_some he, List.find?_some he⟩]; rfl
    · split at hl
      · cases hl
      · rename_i z; rw [Bool.not_eq_true] at z; rw [z, Bool.and_false]
  dsimp only
  rw [aRefKeyMayBeTheName_at, c]
  exact wpAny_updatePart G (h _ D')
theorem l_setV {es es' : List DictEntry} {n n' : Nat} {name : Str} {v : Value} {Q : Unit → Shared → Prop} (D : Lg h₀ s.heap news) (i : Nat) (hi : news[i]? = some (d, dictOf es n)) (hz : Nat.ble es.length 1000 = true)
    (hl : (getL name es).isSome = true) (e : putL name (PyData.keyHash w.params name) (.str name s.toks) v es = es') (e2 : putN name es n = n')
    (h : ∀ h', Lg h₀ h' (news.set i (d, dictOf es' n')) → Q () { s with heap := h', toks := s.toks + 1 }) : wpAny (model prog w) A (nsSetByValue d name v) Q E s := by
  unfold nsSetByValue
  refine wpAny_bind (wpAny_loadPart (D.at i hi) ?_)
  dsimp only
  have hb : (decide (es.toArray.size > sizeLine)) = false := decide_eq_false (by have := Nat.le_of_ble_eq_true hz; rw [sizeLine_eq, List.size_toArray]; (first | lia | omega))
  rw [hb, Bool.false_and, if_neg Bool.false_ne_true]
  first
  | exact l_set D i hi hl e e2 h
  | exact wpAny_bind (wpAny_pure (l_set D i hi hl e e2 h))
theorem l_entries {es : List DictEntry} {n : Nat} {Q : Array DictEntry → Shared → Prop} (D : Lg h₀ s.heap news) (i : Nat) (hi : news[i]? = some (d, dictOf es n)) (h : Q es.toArray s) : wpAny M A (dictEntries d) Q E s :=
  wpAny_dictEntries (D.at i hi) rfl h
theorem o_entries {es : List DictEntry} {n : Nat} {Q : Array DictEntry → Shared → Prop} (D : Lg h₀ s.heap news) (ho : h₀.get? d = some (dictOf es n)) (h : Q es.toArray s) : wpAny M A (dictEntries d) Q E s :=
  wpAny_dictEntries (D.up _ _ ho) rfl h
theorem l_seq {c : Value} {dd : Option Addr} {xs : Array Value} {n : Nat} {sl : Array (Option Value)} {Q : Option (Array Value) → Shared → Prop} (D : Lg h₀ s.heap news) (i : Nat) (hi : news[i]? = some (a, ⟨c, dd, .seq xs n, sl⟩)) (h : Q (some xs) s) : wpAny M A (seqItems? (.ref a)) Q E s :=
  wpAny_seqItems (D.at i hi) rfl h
theorem o_seq {c : Value} {dd : Option Addr} {xs : Array Value} {n : Nat} {sl : Array (Option Value)} {Q : Option (Array Value) → Shared → Prop} (D : Lg h₀ s.heap news) (ho : h₀.get? a = some ⟨c, dd, .seq xs n, sl⟩) (h : Q (some xs) s) : wpAny M A (seqItems? (.ref a)) Q E s :=
  wpAny_seqItems (D.up _ _ ho) rfl h
theorem l_slot {o o' : Obj} {k : Nat} {v : Option Value} {Q : Unit → Shared → Prop} (D : Lg h₀ s.heap news) (i : Nat) (hi : news[i]? = some (a, o)) (hk : Nat.ble k 100 = true)
    (e : ({ o with slots := (o.slots ++ Array.replicate (k + 1 - o.slots.size) none).setIfInBounds k v } : Obj) = o') (hf : o'.isFreed = false)
    (h : ∀ h', Lg h₀ h' (news.set i (a, o')) → Q () { s with heap := h' }) : wpAny M A (setSlotAt a k v) Q E s := by
  unfold setSlotAt
  rw [if_neg (by have := Nat.le_of_ble_eq_true hk; rw [sizeLine_eq]; (first | lia | omega))]
  exact l_updatePart (f := fun o => { o with slots := (o.slots ++ Array.replicate (k + 1 - o.slots.size) none).setIfInBounds k v }) D i hi e hf h
theorem l_cls {c : Value} {dd : Option Addr} {cd cd' : ClassData} {sl : Array (Option Value)} {f : ClassData → ClassData} {Q : Unit → Shared → Prop} (D : Lg h₀ s.heap news) (i : Nat) (hi : news[i]? = some (a, ⟨c, dd, .cls cd, sl⟩))
    (e : f cd = cd') (hp : (Data.cls cd').pastItsLine = none)
    (h : ∀ h', Lg h₀ h' (news.set i (a, ⟨c, dd, .cls cd', sl⟩)) → Q () { s with heap := h' }) : wpAny M A (updateCls a f) Q E s := by
  unfold updateCls
  refine wpAny_bind (wpAny_load (D.at i hi) ?_)
  have D' := D.update (f := Obj.mapCls f) (o' := ⟨c, dd, .cls cd', sl⟩) i hi (by rw [← e]; rfl) rfl
  refine wpAny_bind (wpAny_update (D.at i hi) ?_)
  have hi' : (news.set i (a, (⟨c, dd, .cls cd', sl⟩ : Obj)))[i]? = some (a, ⟨c, dd, .cls cd', sl⟩) := by
    obtain ⟨hl, _⟩ := List.getElem?_eq_some_iff.mp hi
    simp [hl]
  exact wpAny_lookBehind (D'.at i hi') hp (h _ D')
theorem l_del {es es' : List DictEntry} {n n' : Nat} {name : Str} {Q : Bool → Shared → Prop} (D : Lg h₀ s.heap news) (i : Nat) (hi : news[i]? = some (d, dictOf es n)) (hh : nsHas name (dictOf es n) = pure true)
    (e : Obj.dropName name (dictOf es n) = dictOf es' n') (h : ∀ h', Lg h₀ h' (news.set i (d, dictOf es' n')) → Q true { s with heap := h' }) : wpAny M A (nsDel d name) Q E s := by
  unfold nsDel
  refine wpAny_bind (wpAny_loadPart (D.at i hi) (wpAny_bind (wpAny_of_eq hh ?_)))
  exact wpAny_bind (l_updatePart (f := Obj.dropName name) D i hi e rfl fun h' D' => wpAny_pure (h h' D'))
theorem l_collect {l : Addr} {v : Value} {r : List Value} {Q : List Value → Shared → Prop} {n : Nat} {dd : Option Addr} {sl : Array (Option Value)} (D : Lg h₀ s.heap news) (ho : s.heap.get? l = some ⟨.type "list", dd, .seq (v :: r).toArray n, sl⟩) (hz : Nat.ble (v :: r).length 1000 = true)
    (h : ∀ q h', Lg h₀ h' ((q, seqObj "list" (v :: r).toArray 1) :: news) → Q (v :: r) { s with heap := h' }) : wpAny (model prog w) A (collect (.ref l)) Q E s := by
  refine collect_list ⟨_, ho, rfl, n, rfl⟩ ?_ (Nat.le_trans (Nat.le_of_ble_eq_true hz) (by rw [sizeLine_eq]; decide))
  have D1 : Lg h₀ (s.heap.push (seqObj "list" #[] 0)) ((s.heap.objs.size, seqObj "list" #[] 0) :: news) := D.push rfl
  have e1 : Obj.mapSeq (· ++ (v :: r).toArray) (seqObj "list" #[] 0) = seqObj "list" (v :: r).toArray 1 := by simp [seqObj, Obj.mapSeq]
  exact h _ _ (D1.update 0 rfl e1 rfl)
end
abbrev clsO (nm q : Str) (C ns : Addr) (mro : List Value) (hd : Bool) (sn : List Str) (sl : Array (Option Value)) : Obj :=
  ⟨.type "type", none, .cls { name := nm, bases := [.type "object"], mro := mro, ns := ns, qualname := q, hasDict := hd, slotNames := sn }, sl⟩
theorem find_own {K : Frag} {C : Addr} {c : Value} {dd : Option Addr} {cd : ClassData} {sl : Array (Option Value)} {es : List DictEntry} {n : Nat} {name : Str} {v : Value} (hC : K.lookup C = some ⟨c, dd, .cls cd, sl⟩) (hN : K.lookup cd.ns = some (dictOf es n)) (hm : cd.mro = [.ref C, .type "object"])
    (e : getL name es = some (some v)) : findIn K (.ref C) name = some (some v) := by
  have e2 : nsIn K cd.ns name = some (some v) := by unfold nsIn; rw [hN]; exact e
  simp only [findIn, hC, hm, alongIn, ownIn, e2]
theorem find_obj {K : Frag} {C : Addr} {c : Value} {dd : Option Addr} {cd : ClassData} {sl : Array (Option Value)} {es : List DictEntry} {n : Nat} {name : Str} {r : Option Value} (hC : K.lookup C = some ⟨c, dd, .cls cd, sl⟩) (hN : K.lookup cd.ns = some (dictOf es n)) (hm : cd.mro = [.ref C, .type "object"])
    (e : getL name es = some none) (e2 : fastBuiltinOwn "object" name = r) : findIn K (.ref C) name = some r := by
  have e3 : nsIn K cd.ns name = some none := by unfold nsIn; rw [hN]; exact e
  cases r <;> simp only [findIn, hC, hm, alongIn, ownIn, e3, e2]
abbrev pairK (C : Addr) (o : Obj) (N : Addr) (o' : Obj) : Frag := [(C, o), (N, o')]
theorem pair_in {h : Heap} {C N : Addr} {o o' : Obj} (h1 : h.get? C = some o) (h2 : h.get? N = some o') : (pairK C o N o').In h := by
  intro a x hx
  rcases Decidable.em (a = C) with rfl | hac
  · simp [pairK, List.lookup] at hx; rw [← hx]; exact h1
  · rcases Decidable.em (a = N) with rfl | han
    · have : (a == C) = false := by simpa using hac
      simp [pairK, List.lookup, this] at hx; rw [← hx]; exact h2
    · have e1 : (a == C) = false := by simpa using hac
      have e2 : (a == N) = false := by simpa using han
      simp [pairK, List.lookup, e1, e2] at hx
section
variable {prog : Program} {w : World} {A : Around} {E : Value → Shared → Prop} {s : Shared} {h₀ : Heap} {news : List (Addr × Obj)}
theorem l_look {C : Addr} {c : Value} {dd : Option Addr} {cd : ClassData} {sl : Array (Option Value)} {es : List DictEntry} {n : Nat} {name : Str} {r : Option Value} {N : Addr} {Q : Option Value → Shared → Prop} (D : Lg h₀ s.heap news) (i j : Nat) (hi : news[i]? = some (C, ⟨c, dd, .cls cd, sl⟩)) (hj : news[j]? = some (N, dictOf es n)) (hij : i < j)
    (hN : cd.ns = N) (hm : cd.mro = [.ref C, .type "object"]) (e : getL name es = some none) (e2 : fastBuiltinOwn "object" name = r) (h : Q r s) : wpAny (model prog w) A (typeLookup (.ref C) name) Q E s := by
  subst hN
  have ne := (D.ne i j hi hj hij).symm
  have ne' : (cd.ns == C) = false := by simpa using ne
  have hC : (pairK C ⟨c, dd, .cls cd, sl⟩ cd.ns (dictOf es n)).lookup C = some ⟨c, dd, .cls cd, sl⟩ := by simp [pairK]
  have hN : (pairK C ⟨c, dd, .cls cd, sl⟩ cd.ns (dictOf es n)).lookup cd.ns = some (dictOf es n) := by simp [pairK, List.lookup, ne']
  exact (looks_findIn (pair_in (D.at i hi) (D.at j hj)) (find_obj hC hN hm e e2)).here h
end
end Mine
end
theorem Mine.calmX1a : True := by w_top off; trivial
section
open PySem PySem.W PyProof.Rows PySem.Calls PySem.W.X
open PySem.Builtin
set_option maxRecDepth 100000
set_option maxHeartbeats 4000000
namespace Mine
local macro_rules | `(tactic| walk_at "led") => `(tactic| first
  | ((with_reducible show wpAny _ _ (load _) _ _ _); (first | ((with_reducible refine' l_load ?hD ?ix ?hi ?_); (case hD => assumption); (case hi => first | exact (rfl : (_ : List (Addr × Obj))[0]? = _) | exact (rfl : (_ : List (Addr × Obj))[1]? = _) | exact (rfl : (_ : List (Addr × Obj))[2]? = _) | exact (rfl : (_ : List (Addr × Obj))[3]? = _) | exact (rfl : (_ : List (Addr × Obj))[4]? = _) | exact (rfl : (_ : List (Addr × Obj))[5]? = _) | exact (rfl : (_ : List (Addr × Obj))[6]? = _) | exact (rfl : (_ : List (Addr × Obj))[7]? = _) | exact (rfl : (_ : List (Addr × Obj))[8]? = _) | exact (rfl : (_ : List (Addr × Obj))[9]? = _) | exact (rfl : (_ : List (Addr × Obj))[10]? = _) | exact (rfl : (_ : List (Addr × Obj))[11]? = _))) | ((with_reducible refine' o_load ?hD ?ho ?_); (case hD => assumption); (case ho => assumption))))
  | ((with_reducible show wpAny _ _ (loadPart _ _) _ _ _); (first | ((with_reducible refine' l_part ?hD ?ix ?hi ?_); (case hD => assumption); (case hi => first | exact (rfl : (_ : List (Addr × Obj))[0]? = _) | exact (rfl : (_ : List (Addr × Obj))[1]? = _) | exact (rfl : (_ : List (Addr × Obj))[2]? = _) | exact (rfl : (_ : List (Addr × Obj))[3]? = _) | exact (rfl : (_ : List (Addr × Obj))[4]? = _) | exact (rfl : (_ : List (Addr × Obj))[5]? = _) | exact (rfl : (_ : List (Addr × Obj))[6]? = _) | exact (rfl : (_ : List (Addr × Obj))[7]? = _) | exact (rfl : (_ : List (Addr × Obj))[8]? = _) | exact (rfl : (_ : List (Addr × Obj))[9]? = _) | exact (rfl : (_ : List (Addr × Obj))[10]? = _) | exact (rfl : (_ : List (Addr × Obj))[11]? = _))) | ((with_reducible refine' o_part ?hD ?ho ?_); (case hD => assumption); (case ho => assumption))))
  | ((with_reducible show wpAny _ _ (nsGet _ _) _ _ _); (first | ((with_reducible refine' l_get ?hD ?ix ?hi ?e ?_); (case hD => assumption); (case hi => first | exact (rfl : (_ : List (Addr × Obj))[0]? = _) | exact (rfl : (_ : List (Addr × Obj))[1]? = _) | exact (rfl : (_ : List (Addr × Obj))[2]? = _) | exact (rfl : (_ : List (Addr × Obj))[3]? = _) | exact (rfl : (_ : List (Addr × Obj))[4]? = _) | exact (rfl : (_ : List (Addr × Obj))[5]? = _) | exact (rfl : (_ : List (Addr × Obj))[6]? = _) | exact (rfl : (_ : List (Addr × Obj))[7]? = _) | exact (rfl : (_ : List (Addr × Obj))[8]? = _) | exact (rfl : (_ : List (Addr × Obj))[9]? = _) | exact (rfl : (_ : List (Addr × Obj))[10]? = _) | exact (rfl : (_ : List (Addr × Obj))[11]? = _)); (case e => exact rfl)) | ((with_reducible refine' o_get ?hD ?ho ?e ?_); (case hD => assumption); (case ho => assumption); (case e => exact rfl))))
  | ((with_reducible show wpAny _ _ (dictEntries _) _ _ _); (first | ((with_reducible refine' l_entries ?hD ?ix ?hi ?_); (case hD => assumption); (case hi => first | exact (rfl : (_ : List (Addr × Obj))[0]? = _) | exact (rfl : (_ : List (Addr × Obj))[1]? = _) | exact (rfl : (_ : List (Addr × Obj))[2]? = _) | exact (rfl : (_ : List (Addr × Obj))[3]? = _) | exact (rfl : (_ : List (Addr × Obj))[4]? = _) | exact (rfl : (_ : List (Addr × Obj))[5]? = _) | exact (rfl : (_ : List (Addr × Obj))[6]? = _) | exact (rfl : (_ : List (Addr × Obj))[7]? = _) | exact (rfl : (_ : List (Addr × Obj))[8]? = _) | exact (rfl : (_ : List (Addr × Obj))[9]? = _) | exact (rfl : (_ : List (Addr × Obj))[10]? = _) | exact (rfl : (_ : List (Addr × Obj))[11]? = _))) | ((with_reducible refine' o_entries ?hD ?ho ?_); (case hD => assumption); (case ho => assumption))))
  | ((with_reducible show wpAny _ _ (seqItems? _) _ _ _); (first | ((with_reducible refine' l_seq ?hD ?ix ?hi ?_); (case hD => assumption); (case hi => first | exact (rfl : (_ : List (Addr × Obj))[0]? = _) | exact (rfl : (_ : List (Addr × Obj))[1]? = _) | exact (rfl : (_ : List (Addr × Obj))[2]? = _) | exact (rfl : (_ : List (Addr × Obj))[3]? = _) | exact (rfl : (_ : List (Addr × Obj))[4]? = _) | exact (rfl : (_ : List (Addr × Obj))[5]? = _) | exact (rfl : (_ : List (Addr × Obj))[6]? = _) | exact (rfl : (_ : List (Addr × Obj))[7]? = _) | exact (rfl : (_ : List (Addr × Obj))[8]? = _) | exact (rfl : (_ : List (Addr × Obj))[9]? = _) | exact (rfl : (_ : List (Addr × Obj))[10]? = _) | exact (rfl : (_ : List (Addr × Obj))[11]? = _))) | ((with_reducible refine' o_seq ?hD ?ho ?_); (case hD => assumption); (case ho => assumption))))
  | ((with_reducible show wpAny _ _ (alloc _) _ _ _); (with_reducible refine' l_alloc ?hD ?hf ?_); (case hD => assumption); (case hf => rfl); intro _ _ _))

theorem ext_obj : extendedBase [.type "object"] = pure (.type "object") := by kernel_rfl
theorem turn_obj : notOverATurnedClass [.type "object"] = pure () := by kernel_rfl
theorem best_obj : Slots.bestBase [.type "object"] = pure (.type "object") := by kernel_rfl
theorem snames_obj : Slots.slotNamesOf (.type "object") = pure [] := by kernel_rfl
theorem gd_obj : Slots.givesDict (.type "object") = pure false := by kernel_rfl
theorem gw_obj : Slots.givesWeak (.type "object") = pure false := by kernel_rfl
theorem vs_obj : Slots.varSize (.type "object") = pure false := by kernel_rfl
theorem it_dict : typeLookup (.type "dict") "__iter__" = pure (some (.builtin "dict.__iter__")) := by rw [typeLookup_type, builtinLookup_eq_fast]; kernel_rfl
theorem s_str {M : Model} {A : Around} {E : Value → Shared → Prop} {s : Shared} {x : Str} {Q : Value → Shared → Prop} (h : Q (.str x s.toks) { s with toks := s.toks + 1 }) (hx : Nat.ble x.length 1000 = true) : wpAny M A (mkStr x) Q E s :=
  wpAny_mkStr h (Nat.le_trans (Nat.le_of_ble_eq_true hx) (by rw [sizeLine_eq]; decide))
local macro_rules | `(tactic| walk_at "tn") => `(tactic| first
  | with_reducible refine wpAny_bind ?_
  | with_reducible refine wpAny_pure ?_
  | with_reducible refine wpAny_holding ?_
  | with_reducible refine wpAny_rule ?_
  | with_reducible refine wpAny_standAt ?_
  | with_reducible refine wpAny_point ?_
  | with_reducible refine wpAny_letGo ?_
  | with_reducible refine wpAny_attempt ?_
  | with_reducible refine wpAny_onRaise ?_
  | with_reducible refine wpAny_mkText ?_
  | with_reducible refine wpAny_mkInt ?_
  | with_reducible refine wpAny_fresh ?_
  | ((with_reducible show wpAny _ _ (mkStr _) _ _ _); (with_reducible refine' s_str ?_ ?hx); (case hx => rfl))
  | ((with_reducible show wpAny _ _ (ite _ _ _) _ _ _); first | ((with_reducible refine' wpAny_ite_true ?hc ?_); (case hc => kernel_rfl!)) | ((with_reducible refine' wpAny_ite_false ?hc ?_); (case hc => kernel_rfl!)))
  | with_reducible refine wpAny_of_eq (by assumption) ?_
  | with_reducible refine wpAny_isInstance (by assumption) (by assumption) ?_
  | ((with_reducible show wpAny _ _ (extendedBase _) _ _ _); (show wpAny _ _ (extendedBase [.type "object"]) _ _ _); (with_reducible refine wpAny_of_eq ext_obj ?_))
  | ((with_reducible show wpAny _ _ (notOverATurnedClass _) _ _ _); (show wpAny _ _ (notOverATurnedClass [.type "object"]) _ _ _); (with_reducible refine wpAny_of_eq turn_obj ?_))
  | ((with_reducible show wpAny _ _ (Slots.bestBase _) _ _ _); (show wpAny _ _ (Slots.bestBase [.type "object"]) _ _ _); (with_reducible refine wpAny_of_eq best_obj ?_))
  | with_reducible refine wpAny_of_eq snames_obj ?_
  | with_reducible refine wpAny_of_eq gd_obj ?_
  | with_reducible refine wpAny_of_eq gw_obj ?_
  | with_reducible refine wpAny_of_eq vs_obj ?_
  | with_reducible refine wpAny_of_eq it_dict ?_
  | with_reducible refine wpAny_load (by assumption) ?_
  | with_reducible refine wpAny_loadPart (by assumption) ?_
  | ((with_reducible show wpAny _ _ (Sem.tryCatch _ _) _ _ _); refine wpAny_tryCatch ?_)
  | walk_at "led"
  | ((fail_if_success with_reducible show wpAny _ _ (Slots.read _ _ _) _ _ _); (fail_if_success with_reducible show wpAny _ _ (collect _) _ _ _); (fail_if_success with_reducible show wpAny _ _ (setSlotAt _ _ _) _ _ _); (fail_if_success with_reducible show wpAny _ _ (updateCls _ _) _ _ _); (fail_if_success with_reducible show wpAny _ _ (nsDel _ _) _ _ _); (fail_if_success with_reducible show wpAny _ _ (nsSet _ _ _) _ _ _); (fail_if_success with_reducible show wpAny _ _ (nsSetByValue _ _ _) _ _ _); (fail_if_success with_reducible show wpAny _ _ (mroHook? _) _ _ _); (fail_if_success with_reducible show wpAny _ _ (linearize _ _) _ _ _); (fail_if_success with_reducible show wpAny _ _ (Bind.madeBy _) _ _ _); (fail_if_success with_reducible show wpAny _ _ (noteSubclassOfBuiltin _ _) _ _ _); (fail_if_success with_reducible show wpAny _ _ (typeLookup _ _) _ _ _); (fail_if_success with_reducible show wpAny _ _ (List.anyM _ _) _ _ _); (fail_if_success with_reducible show wpAny _ _ (call _ _ _) _ _ _); (fail_if_success with_reducible show wpAny _ _ (nsGet _ _) _ _ _); (fail_if_success with_reducible show wpAny _ _ (eval _ _) _ _ _); (fail_if_success with_reducible show wpAny _ _ (evalArgs _ _ _ _) _ _ _); (fail_if_success with_reducible show wpAny _ _ (storeName _ _ _) _ _ _); (fail_if_success with_reducible show wpAny _ _ (loadName _ _) _ _ _); (fail_if_success with_reducible show wpAny _ _ (classCode _ _ _ _ _ _) _ _ _); (fail_if_success with_reducible show wpAny _ _ (builtinsFor _ _) _ _ _); (fail_if_success with_reducible show wpAny _ _ (enterFrame _) _ _ _); (fail_if_success with_reducible show wpAny _ _ (run _ _) _ _ _); (fail_if_success with_reducible show wpAny _ _ (getAttr? _ _) _ _ _); (fail_if_success with_reducible show wpAny _ _ (exec _ _) _ _ _); (fail_if_success with_reducible show wpAny _ _ (execs _ _) _ _ _); (fail_if_success with_reducible show wpAny _ _ (bindName _ _ _) _ _ _); (fail_if_success with_reducible show wpAny _ _ (getAttr _ _ _) _ _ _); wp_delta)
  | with_reducible_and_instances refine wpAny_pure ?_
  | with_reducible_and_instances refine wpAny_bind ?_)
abbrev clsEs (hs : _root_.Fin 12 → Int) (ts : _root_.Fin 12 → Tok) (vm vq vf vt : Value) (sl f1 f2 f3 f4 f5 f6 : Addr) : List DictEntry := [
  ⟨hs 0, .str "__module__" (ts 0), vm⟩, ⟨hs 1, .str "__qualname__" (ts 1), vq⟩, ⟨hs 2, .str "__firstlineno__" (ts 2), vf⟩, ⟨hs 3, .str "__slots__" (ts 3), .ref sl⟩,
  ⟨hs 4, .str "__init__" (ts 4), .ref f1⟩, ⟨hs 5, .str "__lt__" (ts 5), .ref f2⟩, ⟨hs 6, .str "__gt__" (ts 6), .ref f3⟩, ⟨hs 7, .str "__eq__" (ts 7), .ref f4⟩, ⟨hs 8, .str "__le__" (ts 8), .ref f5⟩, ⟨hs 9, .str "__ge__" (ts 9), .ref f6⟩,
  ⟨hs 10, .str "__hash__" (ts 10), .none⟩, ⟨hs 11, .str "__static_attributes__" (ts 11), vt⟩]
abbrev fnO (d : FuncData) : Obj := ⟨.type "function", none, .func d, #[]⟩
section
variable {prog : Program} {w : World} {A : Around} {E : Value → Shared → Prop} {s : Shared} {h₀ : Heap} {news news' : List (Addr × Obj)} {d a : Addr}
theorem slots_read {hs : _root_.Fin 12 → Int} {ts : _root_.Fin 12 → Tok} {vm vq vf vt : Value} {tsl : Tok} {sl f1 f2 f3 f4 f5 f6 : Addr} {Q : Slots.Plan → Shared → Prop}
   (D : Lg h₀ s.heap news) (G : s.heap.get? sl = some (lstObj [.str "obj" tsl]))
   (h : ∀ q h', Lg h₀ h' ((q, seqObj "list" #[.str "obj" tsl] 1) :: news) → Q { names := ["obj"], dict := false, weak := false, inherited := [] } { s with heap := h' }) :
   wpAny (model prog w) A (Slots.read "K" [.type "object"] (clsEs hs ts vm vq vf vt sl f1 f2 f3 f4 f5 f6).toArray) Q E s := by
  have hf : (clsEs hs ts vm vq vf vt sl f1 f2 f3 f4 f5 f6).toArray.find? (·.key.isStr "__slots__") = some ⟨hs 3, .str "__slots__" (ts 3), .ref sl⟩ := by kernel_rfl
  unfold Slots.read
  rw [hf]
  repeat (walk_at "tn")
  refine l_collect D G rfl ?_
  intro q h' D'
  repeat (walk_at "tn")
  rw [show Slots.isIdentifier "obj" = some true by kernel_rfl]
  repeat (walk_at "tn")
  exact h _ _ D'
end
section
theorem calmX2 : True := by w_top off; trivial

theorem o_isc : builtinOwn "object" "__init_subclass__" = some (.builtin "object.__init_subclass__") := by kernel_rfl
theorem t_isc : typeOf (.builtin "object.__init_subclass__") = pure (.type "classmethod_descriptor") := by show builtinType _ = _; rw [builtinType_eq_fast]; kernel_rfl
theorem g_isc : typeLookup (.type "classmethod_descriptor") "__get__" = pure (some (.builtin "classmethod_descriptor.__get__")) := by rw [typeLookup_type, builtinLookup_eq_fast]; kernel_rfl
local macro_rules | `(tactic| x_close) => `(tactic| first | exact ⟨_, _, _, rfl, rfl, by assumption⟩ | exact ⟨_, _, rfl, by first | assumption | exact Mem.start _⟩)
section
variable {w : World} {s : Shared} {A : Around}
theorem get_isc (X : (hd.heap_1 w.params).In s.heap) {C N : Addr} {nm q : Str} {sn : List Str} {sl : Array (Option Value)} (hC : s.heap.get? C = some ⟨.type "type", none, .cls { name := nm, bases := [.type "object"], mro := [.ref C, .type "object"], ns := N, qualname := q, hasDict := false, slotNames := sn }, sl⟩) :
  wpAny (model PySem.Challenge.rw_pd0134_01.row.prog w) A (call (.builtin "classmethod_descriptor.__get__") [.builtin "object.__init_subclass__", .none, .ref C])
    (fun v s' => ∃ a h' tk, v = .ref a ∧ s' = { s with heap := h', toks := tk } ∧ Mem s.heap h' [] [(a, ⟨.type "builtin_function_or_method", none, .fields #[.builtin "object.__init_subclass__", .ref C], #[]⟩)]) (fun _ _ => False) s := by
  x_run
theorem call_isc (X : (hd.heap_1 w.params).In s.heap) {a C N : Addr} {sn : List Str} {sl : Array (Option Value)} (hC : s.heap.get? C = some ⟨.type "type", none, .cls { name := "K", bases := [.type "object"], mro := [.ref C, .type "object"], ns := N, qualname := "cmp_to_key.<locals>.K", hasDict := false, slotNames := sn }, sl⟩)
  (ha : s.heap.get? a = some ⟨.type "builtin_function_or_method", none, .fields #[.builtin "object.__init_subclass__", .ref C], #[]⟩) :
  wpAny (model PySem.Challenge.rw_pd0134_01.row.prog w) (arr 920 9200) (call (.ref a) []) (fun v s' => ∃ h' tk, s' = { s with heap := h', toks := tk } ∧ Mem s.heap h' [] []) (fun _ _ => False) s := by
  x_run
theorem call_sup (X : (hd.heap_1 w.params).In s.heap) {C N : Addr} {nm q : Str} {sn : List Str} {sl : Array (Option Value)} (hC : s.heap.get? C = some ⟨.type "type", none, .cls { name := nm, bases := [.type "object"], mro := [.ref C, .type "object"], ns := N, qualname := q, hasDict := false, slotNames := sn }, sl⟩) :
  wpAny (model PySem.Challenge.rw_pd0134_01.row.prog w) A (call (.type "super") [.ref C, .ref C])
    (fun v s' => ∃ a h' tk, v = .ref a ∧ s' = { s with heap := h', toks := tk } ∧ Mem s.heap h' [] [(a, ⟨.type "super", none, .fields #[.ref C, .ref C, .ref C], #[]⟩)]) (fun _ _ => False) s := by
  x_run
theorem own_isc : classOwn (.type "object") "__init_subclass__" = pure (some (.builtin "object.__init_subclass__")) := by show pure (builtinOwn "object" _) = _; rw [o_isc]
theorem sup_ga {prog : Program} {h : Heap} {g : Array GenState} {d : Drawn} {t : Nat} {os : OsState} {E : Value → Shared → Prop} {so C : Addr} {tk : Tok} {Q : PySem.Fin → Shared → Prop} (hso : h.get? so = some ⟨.type "super", none, .fields #[.ref C, .ref C, .ref C], #[]⟩)
    (hno : Looks (model prog w) h (opaqueClassAbove (.ref C)) none) (hC : Looks (model prog w) h (mroOf (.ref C)) [.ref C, .type "object"])
    (hq : wpAny (model prog w) A (call (.builtin "classmethod_descriptor.__get__") [.builtin "object.__init_subclass__", .none, .ref C]) (fun v s' => Q (.done (.ret v)) s') E ⟨h, g, d, t, os⟩) :
    wpAny (model prog w) A (Builtin.«super.__getattribute__» ⟨[.ref so, .str "__init_subclass__" tk], []⟩) Q E ⟨h, g, d, t, os⟩ := by
  have hdt : ({ cls := .type "super", dict := none, data := .fields #[.ref C, .ref C, .ref C], slots := #[] } : Obj).data = .fields #[.ref C, .ref C, .ref C] := rfl
  have f0 : (#[.ref C, .ref C, .ref C] : Array Value)[0]? = some (.ref C) := rfl
  have f1 : (#[.ref C, .ref C, .ref C] : Array Value)[1]? = some (.ref C) := rfl
  have f2 : (#[.ref C, .ref C, .ref C] : Array Value)[2]? = some (.ref C) := rfl
  have hn : (("__init_subclass__" : Str) == ("__class__" : Str)) = false := by decide +kernel
  have hl : List.drop 1 (List.dropWhile (fun x => x != Value.ref C) [Value.ref C, Value.type "object"]) = [Value.type "object"] := by simp
  have he : (Value.ref C == Value.ref C) = true := by simp
  have t1 := t_isc
  have t2 := g_isc
  have t3 := own_isc
  unfold Builtin.«super.__getattribute__»
  repeat (first
    | (with_reducible refine wpAny_field hso hdt f0 ?_) | (with_reducible refine wpAny_field hso hdt f1 ?_) | (with_reducible refine wpAny_field hso hdt f2 ?_)
    | (with_reducible refine ks_wpAny_notOpaque hno ?_)
    | (with_reducible refine Looks.at hC ?_; rw [hl])
    | (with_reducible refine wpAny_of_eq (by assumption) ?_)
    | ((with_reducible show wpAny _ _ (call _ _ _) _ _ _); (refine wpAny_mono hq (fun v s' hv => ?_) fun _ _ z => z))
    | (simp only [hn, he, Bool.or_false, Bool.false_eq_true, if_false, if_true])
    | walk_at "tn"
    | dsimp only)
  exact hv
theorem sup_get {prog : Program} {h : Heap} {g : Array GenState} {d : Drawn} {t : Nat} {os : OsState} {E : Value → Shared → Prop} {so C : Addr} {Q : Value → Shared → Prop} (hso : h.get? so = some ⟨.type "super", none, .fields #[.ref C, .ref C, .ref C], #[]⟩)
    (hno : Looks (model prog w) h (opaqueClassAbove (.ref C)) none) (hC : Looks (model prog w) h (mroOf (.ref C)) [.ref C, .type "object"])
    (hq : wpAny (model prog w) A.in1 (call (.builtin "classmethod_descriptor.__get__") [.builtin "object.__init_subclass__", .none, .ref C]) (fun v s' => ∃ a, v = .ref a ∧ Q v s') (fun _ _ => False) ⟨h, g, d, t + 1, os⟩) :
    wpAny (model prog w) A (getAttr (.ref so) "__init_subclass__") Q E ⟨h, g, d, t, os⟩ := by
  have hlk := F.ks_slot_super_ga.lookup
  have hT : ∀ t', (⟨h, g, d, t', os⟩ : Shared).TypeIs (.ref so) "super" := fun _ => ⟨_, hso, rfl⟩
  unfold getAttr getAttrBy
  refine wpAny_bind (wpAny_mkText (wpAny_holding (wpAny_bind (wpAny_typeOf (hT _) (wpAny_bind (wpAny_of_eq hlk ?_))))))
  show wpAny _ _ (getAttrByItsOwn (.ref so) (.str "__init_subclass__" t) (.type "super") (.builtin "super.__getattribute__") true false) _ _ _
  unfold getAttrByItsOwn hookBefore callGetattribute boundAndCalled
  refine wpAny_bind (wpAny_of_eq (show (if onTheHeap (.type "super") then typeLookup (.type "super") "__getattr__" else pure none) = pure none from rfl) ?_)
  refine wpAny_bind (wpAny_attempt (wpAny_holding ?_))
  show wpAny _ _ (bindSpecial (.builtin "super.__getattribute__") (.ref so) >>= _) _ _ _
  refine wpAny_bind (wpAny_of_eq (F.ks_slot_super_ga.bind _) ?_)
  refine wpAny_mono (Q := fun v s' => ∃ a, v = .ref a ∧ Q v s') (E := fun _ _ => False)
    (wpAny_call_entry F.ks_slot_super_ga (hT _) F.ks_entry_super_ga (sup_ga hso hno hC (wpAny_mono hq (fun v s' hv => ⟨v, rfl, hv⟩) fun _ _ z => z)) (F.ks_gaArgs_super _ _)) (fun v s' hv => ?_) fun _ _ z => z.elim
  obtain ⟨a, rfl, hv⟩ := hv
  first | exact wpAny_pure hv | exact wpAny_pure (wpAny_pure hv) | exact hv
end
end
section
theorem calmX1 : True := by w_top off; trivial

section
variable {w : World} {A : Around} {E : Value → Shared → Prop} {s : Shared} 
abbrev clsE2 (hs : _root_.Fin 12 → Int) (ts : _root_.Fin 12 → Tok) (vm vf vt : Value) (sl f1 f2 f3 f4 f5 f6 : Addr) : List DictEntry := [
  ⟨hs 0, .str "__module__" (ts 0), vm⟩, ⟨hs 2, .str "__firstlineno__" (ts 2), vf⟩, ⟨hs 3, .str "__slots__" (ts 3), .ref sl⟩,
  ⟨hs 4, .str "__init__" (ts 4), .ref f1⟩, ⟨hs 5, .str "__lt__" (ts 5), .ref f2⟩, ⟨hs 6, .str "__gt__" (ts 6), .ref f3⟩, ⟨hs 7, .str "__eq__" (ts 7), .ref f4⟩, ⟨hs 8, .str "__le__" (ts 8), .ref f5⟩, ⟨hs 9, .str "__ge__" (ts 9), .ref f6⟩,
  ⟨hs 10, .str "__hash__" (ts 10), .none⟩, ⟨hs 11, .str "__static_attributes__" (ts 11), vt⟩]
abbrev mdO (C : Addr) (t : Tok) : Obj := ⟨.type "member_descriptor", none, .fields #[.str "obj" t, .ref C, .builtin "proto.slot", .builtin "proto.slot#set", rawInt 0], #[]⟩
abbrev clsE3 (hs : _root_.Fin 12 → Int) (ts : _root_.Fin 12 → Tok) (vm vf vt : Value) (sl f1 f2 f3 f4 f5 f6 md : Addr) (ho hd : Int) (to td : Tok) : List DictEntry := [
  ⟨hs 0, .str "__module__" (ts 0), vm⟩, ⟨hs 2, .str "__firstlineno__" (ts 2), vf⟩, ⟨hs 3, .str "__slots__" (ts 3), .ref sl⟩,
  ⟨hs 4, .str "__init__" (ts 4), .ref f1⟩, ⟨hs 5, .str "__lt__" (ts 5), .ref f2⟩, ⟨hs 6, .str "__gt__" (ts 6), .ref f3⟩, ⟨hs 7, .str "__eq__" (ts 7), .ref f4⟩, ⟨hs 8, .str "__le__" (ts 8), .ref f5⟩, ⟨hs 9, .str "__ge__" (ts 9), .ref f6⟩,
  ⟨hs 10, .str "__hash__" (ts 10), .none⟩, ⟨hs 11, .str "__static_attributes__" (ts 11), vt⟩, ⟨ho, .str "obj" to, .ref md⟩, ⟨hd, .str "__doc__" td, .none⟩]
theorem no_new_obj : typeLookup (.type "object") "__new__" = pure (some (.builtin "object.__new__")) := by rw [typeLookup_type, builtinLookup_eq_fast]; kernel_rfl
theorem mro_looks {M : Model} {h : Heap} {C : Addr} {c : Value} {dd : Option Addr} {cd : ClassData} {sl : Array (Option Value)} (G : h.get? C = some ⟨c, dd, .cls cd, sl⟩) : Looks M h (mroOf (.ref C)) cd.mro :=
  fun A Q E s k q => wpAny_bind (m := classData C) (f := fun cd => pure cd.mro) (by unfold classData; exact wpAny_bind (wpAny_load (k _ _ G) (wpAny_pure (wpAny_pure q))))
theorem hook_type : mroHook? (.type "type") = pure none := by kernel_rfl
theorem lin_obj : linearize [.type "object"] mroOf = pure [.type "object"] := by kernel_rfl
theorem made_obj : Bind.madeBy (.type "object") = pure (some "object.__new__") := by kernel_rfl
theorem tn (X : (hd.heap_1 w.params).In s.heap) (hth : nsIn (hd.heap_1 w.params) cStatics "thirdparty.any" = some none) (hA : A.handled = none) (hdep : A.depth ≤ 915) (hun : A.units ≤ 9190)
   {hs : _root_.Fin 12 → Int} {ts : _root_.Fin 12 → Tok} {tm tq tf tk tsl tto : Tok} {tt sl f1 f2 f3 f4 f5 f6 tp ns : Addr} {d1 d2 d3 d4 d5 d6 : FuncData} {Q : PySem.Fin → Shared → Prop} (hsm : (ns == sysModules) = false)
   (g1 : s.heap.get? tt = some (tupObj #[.str "obj" tto])) (g2 : s.heap.get? f6 = some (fnO d6)) (g3 : s.heap.get? f5 = some (fnO d5)) (g4 : s.heap.get? f4 = some (fnO d4)) (g5 : s.heap.get? f3 = some (fnO d3)) (g6 : s.heap.get? f2 = some (fnO d2)) (g7 : s.heap.get? f1 = some (fnO d1))
   (g8 : s.heap.get? sl = some (lstObj [.str "obj" tsl])) (g9 : s.heap.get? ns = some (dictOf (clsEs hs ts (.str "cpy313.functools" tm) (.str "cmp_to_key.<locals>.K" tq) (.int 118 tf) (.ref tt) sl f1 f2 f3 f4 f5 f6) 12)) (g10 : s.heap.get? tp = some (tupObj #[.type "object"]))
   (hQ : ∀ C ns2 md ho hd to td t1 k h' tk', Lg s.heap h' [(md, mdO C t1), (C, clsO "K" "cmp_to_key.<locals>.K" C ns2 [.ref C, .type "object"] false ["obj"] #[some (.ref tp), none, some (.str "K" tk), some (.str "cmp_to_key.<locals>.K" tq), some (.builtin "object.__new__"), some (.bool false)]),
       (ns2, dictOf (clsE3 hs ts (.str "cpy313.functools" tm) (.int 118 tf) (.ref tt) sl f1 f2 f3 f4 f5 f6 md ho hd to td) k)] → Q (.done (.ret (.ref C))) { s with heap := h', toks := tk' }) :
   wpAny (model PySem.Challenge.rw_pd0134_01.row.prog w) A (Builtin.«type.__new__» ⟨[.type "type", .str "K" tk, .ref tp, .ref ns], []⟩) Q (fun _ _ => False) s := by
  have D := Lg.start s.heap
  have e1 : isSubtype (.type "tuple") (.type "tuple") = pure true := by rw [isSubtype_type]; kernel_rfl
  have e2 : isSubtype (.type "dict") (.type "dict") = pure true := by rw [isSubtype_type]; kernel_rfl
  have e3 : isSubtype (.type "type") (.type "type") = pure true := by rw [isSubtype_type]; kernel_rfl
  have e4 : typeOf (.type "object") = pure (.type "type") := by kernel_rfl
  repeat (walk_at "tn")
  refine wpAny_ite_false (by rw [hsm]; decide) ?_
  repeat (walk_at "tn")
  refine slots_read D g8 ?_
  intro q h1 D1
  repeat (walk_at "tn")
  rename_i ns2 h2 D2 C h3 D3
  refine l_slot (o' := clsO "K" "cmp_to_key.<locals>.K" C ns2 [] true [] #[some (.ref tp)]) D3 0 rfl rfl rfl rfl ?_
  intro h4 D4
  dsimp only [List.set] at D4
  repeat (walk_at "tn")
  refine l_slot (o' := clsO "K" "cmp_to_key.<locals>.K" C ns2 [] true [] #[some (.ref tp), none, some (.str "K" tk)]) D4 0 rfl rfl rfl rfl ?_
  intro h5 D5
  dsimp only [List.set] at D5
  repeat (walk_at "tn")
  refine l_slot (o' := clsO "K" "cmp_to_key.<locals>.K" C ns2 [] true [] #[some (.ref tp), none, some (.str "K" tk), some (.str "cmp_to_key.<locals>.K" tq)]) D5 0 rfl rfl rfl rfl ?_
  intro h6 D6
  dsimp only [List.set] at D6
  repeat (walk_at "tn")
  refine l_del (es' := clsE2 hs ts (.str "cpy313.functools" tm) (.int 118 tf) (.ref tt) sl f1 f2 f3 f4 f5 f6) (n' := 1) D6 1 rfl (by kernel_rfl!) (by kernel_rfl!) ?_
  intro h7 D7
  dsimp only [List.set] at D7
  repeat (walk_at "tn")
  refine wpAny_of_eq hook_type ?_
  repeat (walk_at "tn")
  refine wpAny_of_eq (t := linearize [.type "object"] mroOf) lin_obj ?_
  repeat (walk_at "tn")
  have ef : List.filter (fun x => x != Value.ref C) [Value.ref C, Value.type "object"] = [Value.type "object"] := by simp
  show wpAny _ _ (List.anyM _ (List.filter (fun x => x != Value.ref C) [Value.ref C, Value.type "object"])) _ _ _
  rw [ef]
  refine wpAny_of_eq (a := false) (by kernel_rfl!) ?_
  repeat (walk_at "tn")
  refine l_cls (cd' := { name := "K", bases := [.type "object"], mro := [.ref C, .type "object"], ns := ns2, qualname := "cmp_to_key.<locals>.K", hasDict := true }) D7 0 rfl (by kernel_rfl!) rfl ?_
  intro h8 D8
  dsimp only [List.set] at D8
  repeat (walk_at "tn")
  refine wpAny_of_eq made_obj ?_
  repeat (walk_at "tn")
  refine l_slot (o' := clsO "K" "cmp_to_key.<locals>.K" C ns2 [.ref C, .type "object"] true [] #[some (.ref tp), none, some (.str "K" tk), some (.str "cmp_to_key.<locals>.K" tq), some (.builtin "object.__new__")]) D8 0 rfl rfl rfl rfl ?_
  intro h9 D9
  dsimp only [List.set] at D9
  repeat (walk_at "tn")
  refine l_look D9 0 1 rfl rfl (by decide) rfl rfl rfl (r := some (.builtin "object.__new__")) (by kernel_rfl!) ?_
  repeat (walk_at "tn")
  rename_i md h10 D10
  refine l_setV (es' := clsE2 hs ts (.str "cpy313.functools" tm) (.int 118 tf) (.ref tt) sl f1 f2 f3 f4 f5 f6 ++ [⟨_, .str "obj" _, .ref md⟩]) (n' := 2) D10 2 rfl rfl rfl rfl rfl ?_
  intro h11 D11
  dsimp only [List.set] at D11
  repeat (walk_at "tn")
  refine l_cls (cd' := { name := "K", bases := [.type "object"], mro := [.ref C, .type "object"], ns := ns2, qualname := "cmp_to_key.<locals>.K", hasDict := false, slotNames := ["obj"] }) D11 1 rfl (by kernel_rfl!) rfl ?_
  intro h12 D12
  dsimp only [List.set] at D12
  repeat (walk_at "tn")
  refine l_slot (o' := clsO "K" "cmp_to_key.<locals>.K" C ns2 [.ref C, .type "object"] false ["obj"] #[some (.ref tp), none, some (.str "K" tk), some (.str "cmp_to_key.<locals>.K" tq), some (.builtin "object.__new__"), some (.bool false)]) D12 1 rfl rfl (by kernel_rfl!) rfl ?_
  intro h13 D13
  dsimp only [List.set] at D13
  repeat (walk_at "tn")
  refine l_set (es' := clsE2 hs ts (.str "cpy313.functools" tm) (.int 118 tf) (.ref tt) sl f1 f2 f3 f4 f5 f6 ++ [⟨_, .str "obj" _, .ref md⟩, ⟨_, .str "__doc__" _, .none⟩]) (n' := 3) D13 2 rfl rfl rfl rfl ?_
  intro h14 D14
  dsimp only [List.set] at D14
  repeat (walk_at "tn")
  refine wpAny_of_eq (t := noteSubclassOfBuiltin "object" C) (a := ()) (by kernel_rfl!) ?_
  have k_str : typeLookup (.type "str") "__set_name__" = pure none := by rw [typeLookup_type, builtinLookup_eq_fast]; kernel_rfl
  have k_int : typeLookup (.type "int") "__set_name__" = pure none := by rw [typeLookup_type, builtinLookup_eq_fast]; kernel_rfl
  have k_list : typeLookup (.type "list") "__set_name__" = pure none := by rw [typeLookup_type, builtinLookup_eq_fast]; kernel_rfl
  have k_function : typeLookup (.type "function") "__set_name__" = pure none := by rw [typeLookup_type, builtinLookup_eq_fast]; kernel_rfl
  have k_NoneType : typeLookup (.type "NoneType") "__set_name__" = pure none := by rw [typeLookup_type, builtinLookup_eq_fast]; kernel_rfl
  have k_tuple : typeLookup (.type "tuple") "__set_name__" = pure none := by rw [typeLookup_type, builtinLookup_eq_fast]; kernel_rfl
  have k_member_descriptor : typeLookup (.type "member_descriptor") "__set_name__" = pure none := by rw [typeLookup_type, builtinLookup_eq_fast]; kernel_rfl
  repeat (walk_at "tn")
  have Xc : (hd.heap_1 w.params).In _ := X.keeps D14.up
  refine wpAny_mono (call_sup Xc (D14.at 1 rfl)) (fun v s' hv => ?_) fun _ _ z => z.elim
  obtain ⟨so, h15, tk15, rfl, rfl, M15⟩ := hv
  have D15 := D14.trans (Lg.of_mem M15)
  have Xd : (hd.heap_1 w.params).In h15 := X.keeps D15.up
  repeat (walk_at "tn")
  refine sup_get (D15.at 0 rfl) (looks_opaque Xd hth) (mro_looks (D15.at 2 rfl)) ?_
  refine wpAny_mono (get_isc Xd (D15.at 2 rfl)) (fun v s' hv => ?_) fun _ _ z => z.elim
  obtain ⟨bm, h16, tk16, rfl, rfl, M16⟩ := hv
  refine ⟨bm, rfl, ?_⟩
  have D16 := D15.trans (Lg.of_mem M16)
  have Xe : (hd.heap_1 w.params).In h16 := X.keeps D16.up
  repeat (walk_at "tn")
  refine arr_up hA (by (first | lia | omega)) (by (first | lia | omega)) (wpAny_mono (call_isc Xe (D16.at 3 rfl) (D16.at 0 rfl)) (fun v s' hv => ?_) fun _ _ z => z.elim)
  obtain ⟨h17, tk17, rfl, M17⟩ := hv
  have D17 := D16.trans (Lg.of_mem M17)
  repeat (walk_at "tn")
  exact hQ _ _ _ _ _ _ _ _ _ _ _ (D17.sub (.cons _ (.cons _ (.cons₂ _ (.cons₂ _ (.cons₂ _ (List.nil_sublist _)))))))
end
end
end Mine
end
theorem Mine.calmKD : True := by w_top off; trivial
section
open PySem PySem.W PyProof.Rows PySem.Calls PySem.W.X
open PySem.Builtin
set_option maxRecDepth 100000
set_option maxHeartbeats 4000000
namespace Mine
/-- the functions of K, the places left open -/
abbrev initFd (doc pm ct : Value) (c : Addr) (p0 p1 p2 p3 p4 p5 : Pos) : FuncData :=
  fnX "__init__" "cmp_to_key.<locals>.K.__init__" { posonlyargs := [], args := [{ arg := "self", annotation := none, pos := p0 }, { arg := "obj", annotation := none, pos := p1 }], vararg := none, kwonlyargs := [], kw_defaults := [], kwarg := none, defaults := [] }
    [.Assign [.Attribute (.Name "self" p2) "obj" p3] (.Name "obj" p4) p5] { kind := .function, names := [("self", .local), ("obj", .local)], isGenerator := false, isCoroutine := false, more := [] } [] .none .none doc pm none (.ref c) ct
abbrev ltFd (doc pm ct : Value) (c cell : Addr) (p0 p1 p2 p3 p4 p5 p6 p7 p8 p9 p10 : Pos) : FuncData :=
  fnX "__lt__" "cmp_to_key.<locals>.K.__lt__" { posonlyargs := [], args := [{ arg := "self", annotation := none, pos := p0 }, { arg := "other", annotation := none, pos := p1 }], vararg := none, kwonlyargs := [], kw_defaults := [], kwarg := none, defaults := [] }
    [.Return (some (.Compare (.Call (.Name "mycmp" p2) [.Attribute (.Name "self" p3) "obj" p4, .Attribute (.Name "other" p5) "obj" p6] [] p7) [.Lt] [.Constant (.int 0) 0 p8] p9)) p10]
    { kind := .function, names := [("self", .local), ("other", .local), ("mycmp", .free)], isGenerator := false, isCoroutine := false, more := [] } [("mycmp", cell)] .none .none doc pm none (.ref c) ct
/-- the same, the places in three maps: addresses (0 the namespace, 1 the descriptor, 2 __init__, 3 __lt__, 4 and 5 their code, 6 the cell), values, positions -/
abbrev iFd (a : Nat → Addr) (v : Nat → Value) (p : Nat → Pos) : FuncData := initFd (v 0) (v 1) (v 2) (a 4) (p 0) (p 1) (p 2) (p 3) (p 4) (p 5)
abbrev lFd (a : Nat → Addr) (v : Nat → Value) (p : Nat → Pos) : FuncData := ltFd (v 3) (v 4) (v 5) (a 5) (a 6) (p 6) (p 7) (p 8) (p 9) (p 10) (p 11) (p 12) (p 13) (p 14) (p 15) (p 16)
structure KAtD (h : Heap) (f C : Addr) (a : Nat → Addr) (v : Nat → Value) (p : Nat → Pos) (es : List DictEntry) (k : Nat) (sl : Array (Option Value)) (t1 : Tok) : Prop where
  a1 : h.get? C = some (clsO "K" "cmp_to_key.<locals>.K" C (a 0) [.ref C, .type "object"] false ["obj"] sl)
  a2 : (sl.toList[4]?).join = some (.builtin "object.__new__")
  a3 : h.get? (a 0) = some (dictOf es k)
  a4 : getL "__init__" es = some (some (.ref (a 2)))
  a5 : getL "__lt__" es = some (some (.ref (a 3)))
  a6 : getL "obj" es = some (some (.ref (a 1)))
  a7 : getL "__getattribute__" es = some none
  a8 : getL "__getattr__" es = some none
  a9 : getL "__setattr__" es = some none
  a10 : h.get? (a 1) = some (mdO C t1)
  a11 : h.get? (a 2) = some (fnO (iFd a v p))
  a12 : h.get? (a 3) = some (fnO (lFd a v p))
  a13 : h.CodeRec (.ref (a 4)) "cmp_to_key.<locals>.K.__init__"
  a14 : h.CodeRec (.ref (a 5)) "cmp_to_key.<locals>.K.__lt__"
  a15 : h.IsCell (a 6) (some (.ref f))
  a16 : [C, a 0, a 1, a 2, a 3].Nodup
/-- the class K stands in h, over the function f -/
def KAt (h : Heap) (f C : Addr) : Prop := ∃ a v p es k sl t1, KAtD h f C a v p es k sl t1
theorem KAt.keeps {h h' : Heap} {f C : Addr} (x : KAt h f C) (k : Keep h h') : KAt h' f C := by
  obtain ⟨a, v, p, es, n, sl, t1, x⟩ := x
  obtain ⟨oc, b1, b2⟩ := x.a15
  exact ⟨a, v, p, es, n, sl, t1, k _ _ x.a1, x.a2, k _ _ x.a3, x.a4, x.a5, x.a6, x.a7, x.a8, x.a9, k _ _ x.a10, k _ _ x.a11, k _ _ x.a12, x.a13.keeps k, x.a14.keeps k, ⟨oc, k _ _ b1, b2⟩, x.a16⟩
end Mine
end
theorem Mine.calmKB : True := by w_top off; trivial
section
open PySem PySem.W PyProof.Rows PySem.Calls PySem.W.X
open PySem.Builtin
set_option maxRecDepth 100000
set_option maxHeartbeats 4000000
namespace Mine
theorem frag_in {h : Heap} {l : Frag} (H : ∀ p ∈ l, h.get? p.1 = some p.2) : l.In h := fun a o e => H (a, o) (mem_of_lookupK e)
theorem look_mem : ∀ {l : Frag} {a : Addr} {o : Obj}, (l.map (·.1)).Nodup → (a, o) ∈ l → l.lookup a = some o
  | [], _, _, _, hm => nomatch hm
  | (b, x) :: r, a, o, hn, hm => by
    rw [List.lookup_cons]
    have hn' := List.nodup_cons.mp hn
    rcases List.mem_cons.mp hm with e | hm2
    · cases e; simp
    · have hab : (a == b) = false := by
        rw [beq_eq_false_iff_ne]
        rintro rfl
        exact hn'.1 (List.mem_map_of_mem (f := (·.1)) hm2)
      rw [hab]
      exact look_mem hn'.2 hm2
theorem fl_call : fastLookup "type" "__call__" = some (some (.builtin "type.__call__")) := by kernel_rfl
theorem fl_ga : fastBuiltinOwn "object" "__getattribute__" = some (.builtin "object.__getattribute__") := by kernel_rfl
theorem fl_gt : fastBuiltinOwn "object" "__getattr__" = none := by kernel_rfl
theorem fl_sa : fastBuiltinOwn "object" "__setattr__" = some (.builtin "object.__setattr__") := by kernel_rfl
/-- the written part that K makes -/
structure KFr (K : Frag) (h : Heap) (f C : Addr) (a : Nat → Addr) (v : Nat → Value) (p : Nat → Pos) : Prop where
  X : K.In h
  k1 : makesIn K C = true
  k2 : findIn K (.ref C) "__init__" = some (some (.ref (a 2)))
  k3 : typeIn K (.ref (a 2)) = some (.type "function")
  k4 : findIn K (.ref C) "__lt__" = some (some (.ref (a 3)))
  k5 : isFn K (.ref (a 3)) = true
  k6 : findIn K (.ref C) "__getattribute__" = some (some (.builtin "object.__getattribute__"))
  k7 : findIn K (.ref C) "__getattr__" = some none
  k8 : findIn K (.ref C) "__setattr__" = some (some (.builtin "object.__setattr__"))
  k9 : plainOver K C = true
  k10 : takerIn K C "obj" = some (some (.ref (a 1)))
  k11 : slotIn K (a 1) C = some 0
  k12 : ∀ od : Obj, findObj K C (some od) "obj" = some (.bind (.builtin "member_descriptor.__get__") (.ref (a 1)))
  k13 : typeIn K (.ref (a 1)) = some (.type "member_descriptor")
  k14 : h.get? (a 2) = some (fnO (iFd a v p))
  k15 : h.get? (a 3) = some (fnO (lFd a v p))
  k16 : h.CodeRec (.ref (a 4)) "cmp_to_key.<locals>.K.__init__"
  k17 : h.CodeRec (.ref (a 5)) "cmp_to_key.<locals>.K.__lt__"
  k18 : h.IsCell (a 6) (some (.ref f))
theorem frag_obj {K : Frag} {C ns md n : Addr} {es : List DictEntry} {t1 : Tok} {sl : Array (Option Value)} (lC : K.lookup C = some (clsO "K" "cmp_to_key.<locals>.K" C ns [.ref C, .type "object"] false ["obj"] sl)) (lN : K.lookup ns = some (dictOf es n))
    (lM : K.lookup md = some (mdO C t1)) (a6 : getL "obj" es = some (some (.ref md))) : takerIn K C "obj" = some (some (.ref md)) ∧ slotIn K md C = some 0 ∧ (∀ od : Obj, findObj K C (some od) "obj" = some (.bind (.builtin "member_descriptor.__get__") (.ref md))) ∧ typeIn K (.ref md) = some (.type "member_descriptor") := by
  have fO : findIn K (.ref C) "obj" = some (some (.ref md)) := find_own lC lN rfl a6
  have tM : typeIn K (.ref md) = some (.type "member_descriptor") := by simp [typeIn, lM]
  have gM : specialIn K (.ref md) "__get__" = some (some (.builtin "member_descriptor.__get__")) := by unfold specialIn; rw [tM]; kernel_rfl
  have sM : specialIn K (.ref md) "__set__" = some (some (.builtin "member_descriptor.__set__")) := by unfold specialIn; rw [tM]; kernel_rfl
  have kM : takesIn K (.ref md) = some true := by unfold takesIn; rw [sM]
  refine ⟨?_, ?_, ?_, tM⟩
  · unfold takerIn
    rw [fO, Option.bind_some]
    simp [kM]
  · unfold slotIn recIn
    simp [lM, clsIn, lC, rawInt]
  · intro od
    exact findObj_data (by simp [clsIn, lC]) fO gM kM
theorem frag_makes {K : Frag} {C ns : Addr} {sl : Array (Option Value)} (lC : K.lookup C = some (clsO "K" "cmp_to_key.<locals>.K" C ns [.ref C, .type "object"] false ["obj"] sl)) (a2 : (sl.toList[4]?).join = some (.builtin "object.__new__")) : makesIn K C = true ∧ plainOver K C = true := by
  refine ⟨?_, by simp [plainOver, clsIn, lC, onlyObject]⟩
  have t1' : typeIn K (.ref C) = some (.type "type") := by simp [typeIn, lC]
  have c1' : specialIn K (.ref C) "__call__" = some (some (.builtin "type.__call__")) := by unfold specialIn; rw [t1']; exact fl_call
  have c2' : instIn K (.ref C) (.type "type") = some true := by unfold instIn; rw [t1']; kernel_rfl
  unfold makesIn
  rw [lC]
  simp [c1', c2']
  simpa using a2
theorem frag_all {h : Heap} {C ns md f1 f2 : Addr} {oC oN oM o1 o2 : Obj} (a1 : h.get? C = some oC) (a3 : h.get? ns = some oN) (a10 : h.get? md = some oM) (a11 : h.get? f1 = some o1) (a12 : h.get? f2 = some o2) (nd : [C, ns, md, f1, f2].Nodup) :
    ∃ K : Frag, K.In h ∧ K.lookup C = some oC ∧ K.lookup ns = some oN ∧ K.lookup md = some oM ∧ K.lookup f1 = some o1 ∧ K.lookup f2 = some o2 := by
  refine ⟨[(C, oC), (ns, oN), (md, oM), (f1, o1), (f2, o2)], frag_in ?_, look_mem nd (.head _), look_mem nd (.tail _ (.head _)), look_mem nd (.tail _ (.tail _ (.head _))), look_mem nd (.tail _ (.tail _ (.tail _ (.head _)))), look_mem nd (.tail _ (.tail _ (.tail _ (.tail _ (.head _)))))⟩
  exact List.forall_mem_cons.mpr ⟨a1, List.forall_mem_cons.mpr ⟨a3, List.forall_mem_cons.mpr ⟨a10, List.forall_mem_cons.mpr ⟨a11, List.forall_mem_cons.mpr ⟨a12, fun _ q => nomatch q⟩⟩⟩⟩⟩
theorem KAt.frag {h : Heap} {f C : Addr} (x : KAt h f C) : ∃ K a v p, KFr K h f C a v p := by
  obtain ⟨a, v, p, es, n, sl, t1, x⟩ := x
  obtain ⟨K, X, lC, lN, lM, l1, l2⟩ := frag_all x.a1 x.a3 x.a10 x.a11 x.a12 x.a16
  obtain ⟨g1, g2, g3, g4⟩ := frag_obj lC lN lM x.a6
  obtain ⟨g5, g6⟩ := frag_makes lC x.a2
  exact ⟨K, a, v, p, X, g5, find_own lC lN rfl x.a4, by simp [typeIn, l1], find_own lC lN rfl x.a5, by simp [isFn, typeIn, l2], find_obj lC lN rfl x.a7 fl_ga, find_obj lC lN rfl x.a8 fl_gt, find_obj lC lN rfl x.a9 fl_sa, g6, g1, g2, g3, g4, x.a11, x.a12, x.a13, x.a14, x.a15⟩
end Mine
end
theorem Mine.calmKI : True := by w_top off; trivial
section
open PySem PySem.W PyProof.Rows PySem.Calls PySem.W.X
open PySem.Builtin
set_option maxRecDepth 100000
set_option maxHeartbeats 4000000
namespace Mine
/-- an object of class K that holds v -/
def KInst (h : Heap) (C i : Addr) (v : Value) : Prop := ∃ dx od, h.get? i = some ⟨.ref C, some dx, .plain, #[some v]⟩ ∧ h.get? dx = some od ∧ od.cls = .type "dict"
theorem KInst.keeps {h h' : Heap} {C i : Addr} {v : Value} (x : KInst h C i v) (k : Keep h h') : KInst h' C i v := by
  obtain ⟨dx, od, a, b, c⟩ := x; exact ⟨dx, od, k _ _ a, k _ _ b, c⟩
section
variable {prog : Program} {w : World} {A : Around} {E : Value → Shared → Prop} {s : Shared}
theorem get_obj {f C i : Addr} {v : Value} {expr : Bool} {Q : Value → Shared → Prop} (x : KAt s.heap f C) (I : KInst s.heap C i v) (hv : handedIn v = true) (h : Q v { s with toks := s.toks + 1 }) :
    wpAny (model prog w) A (getAttr (.ref i) "obj" expr) Q E s := by
  obtain ⟨K, ad, vd, pd, Y⟩ := x.frag
  obtain ⟨dx, od, a, b, _⟩ := I
  have Ia : InstAt s.heap i ⟨.ref C, some dx, .plain, #[some v]⟩ C (some od) := ⟨a, rfl, rfl, b⟩
  refine get_bind Y.X Ia Y.k6 (Y.k12 od) Y.k7 (wpAny_call (slot_get (s := { s with toks := s.toks + 1 }) Y.X Ia Y.k11 rfl ?_))
  show wpAny _ _ (handedOut v) _ _ _
  rw [handedOut_of hv]
  exact wpAny_pure h
end
end Mine
end
theorem Mine.calmKM : True := by w_top off; trivial
section
open PySem PySem.W PyProof.Rows PySem.Calls PySem.W.X
open PySem.Builtin
set_option maxRecDepth 100000
set_option maxHeartbeats 4000000
namespace Mine
section
variable {w : World} {A : Around} {E : Value → Shared → Prop} {s : Shared}
theorem make_inst {f C : Addr} {b : Array UInt8} {t : Tok} {Q : Value → Shared → Prop} (O : Ok w s.heap) (r : Room A 5) (x : KAt s.heap f C)
    (h : ∀ i h' tk, Keep s.heap h' → KInst h' C i (.bytes b t) → s.heap.get? i = none → Q (.ref i) { s with heap := h', toks := tk }) :
    wpAny (model PySem.Challenge.rw_pd0134_01.row.prog w) A (call (.ref C) [.bytes b t]) Q E s := by
  obtain ⟨p, loose, mean, mg, mb, T⟩ := O.T
  obtain ⟨K, ad, vd, pd, Y⟩ := x.frag
  have X := Y.X
  have k14 := Y.k14
  have k16 := Y.k16
  obtain ⟨hh, g, d, tk0, os⟩ := s
  dsimp only at X k14 k16 T O
  refine wpAny_call (make_core (makes_of X Y.k1) (looks_findIn X Y.k2) (fun self => bind_fn X self Y.k3) (.inl rfl) ?_)
  have kp : Keep hh ((hh.push emptyDict).push (instObj C hh.objs.size)) := fun b o e => Heap.get?_push_of_some _ (Heap.get?_push_of_some _ e)
  refine arr_code (dp := A.depth + 1) (un := A.units + 4) r.h ?_ ?_ ?_
  · show A.depth + Code.weight _ ≤ _
    exact Nat.le_of_eq (congrArg _ (by rfl))
  · show A.units + Code.cUnits _ ≤ _
    exact Nat.add_le_add_left (Nat.le_of_ble_eq_true (by rfl)) _
  refine codeAny_call_def (fd := iFd ad vd pd) (binds := [("self", .ref (hh.objs.size + 1)), ("obj", .bytes b t)]) (by show A.depth + 1 < 1000; have := r.d; (first | lia | omega)) (kp _ _ k14) rfl (T.nolimit.keeps kp) (k16.keeps kp) rfl (BindsTo.of_eq rfl) (by intro y hy; simp only [List.mem_cons, List.not_mem_nil, or_false] at hy; rcases hy with rfl | rfl <;> simp) (locs rfl) ?_
  intro h₁ hns hk₁
  have sz : ((hh.push emptyDict).push (instObj C hh.objs.size)).objs.size = hh.objs.size + 1 + 1 := by simp [Heap.size_push]
  have hi : h₁.get? (hh.objs.size + 1) = some (instObj C hh.objs.size) := hk₁ _ _ (by heap_get)
  have hd : h₁.get? hh.objs.size = some emptyDict := hk₁ _ _ (by heap_get)
  have Ia : InstAt h₁ (hh.objs.size + 1) (instObj C hh.objs.size) C (some emptyDict) := ⟨hi, rfl, rfl, hd⟩
  obtain ⟨L, hL⟩ : ∃ L, L = ((hh.push emptyDict).push (instObj C hh.objs.size)).objs.size := ⟨_, rfl⟩
  have lt1 : hh.objs.size < L := by rw [hL, sz]; exact Nat.lt_succ_of_lt (Nat.lt_succ_self _)
  have lt2 : hh.objs.size + 1 < L := by rw [hL, sz]; exact Nat.lt_succ_self _
  have fr : ∀ a, hh.objs.size ≤ a → hh.get? a = none := fun a ha => Heap.get?_none_of_le ha
  dsimp only at hns hk₁ ⊢
  rw [← hL] at hns ⊢
  have F : Fr hh L h₁ _ := ⟨hns, Keep.trans kp hk₁, Nat.le_of_lt lt1⟩
  have N : News hh L h₁ ([] ++ (hh.objs.size + 1, instObj C hh.objs.size) :: [(hh.objs.size, emptyDict)]) := fun q hq => by
    simp only [List.nil_append, List.mem_cons, List.not_mem_nil, or_false] at hq
    rcases hq with rfl | rfl
    · exact ⟨hi, Nat.ne_of_lt lt2, fr _ (Nat.le_succ _)⟩
    · exact ⟨hd, Nat.ne_of_lt lt1, fr _ (Nat.le_refl _)⟩
  have X1 : K.In h₁ := X.keeps (Keep.trans kp hk₁)
  refine wpAny_execs_cons (plainObj_wpAny_Assign_Attribute ?_ (by rfl))
  refine wpAny_Name (wpAny_loadName_local (by rfl) (by rfl) hns (by rfl) ?_) (by decide +kernel)
  refine wpAny_Name (wpAny_loadName_local (by rfl) (by rfl) hns (by rfl) ?_) (by decide +kernel)
  refine set_plain X1 Ia Y.k8 (osa_descr KF.slot_mset X1 Ia Y.k9 Y.k10 Y.k13 (slot_set (pre := []) (post := [(hh.objs.size, emptyDict)]) F N X1 Ia Y.k11 (by decide) (fun _ hp => nomatch hp) (fun q hq => by rw [List.mem_singleton.mp hq]; exact Nat.ne_of_lt (Nat.lt_succ_self _)) (ox' := ⟨.ref C, some hh.objs.size, .plain, #[some (.bytes b t)]⟩) (by simp) rfl ?_))
  intro h' F' N'
  refine wpAny_execs_nil ?_
  refine ⟨rfl, ?_⟩
  exact h _ h' _ F'.keep ⟨_, _, (N' _ (.head _)).1, (N' _ (.tail _ (.head _))).1, rfl⟩ (fr _ (Nat.le_succ _))
end
end Mine
end
theorem Mine.calmKL : True := by w_top off; trivial
section
open PySem PySem.W PyProof.Rows PySem.Calls PySem.W.X
open PySem.Builtin
set_option maxRecDepth 100000
set_option maxHeartbeats 4000000
namespace Mine
section
variable {w : World} {A : Around} {E : Value → Shared → Prop} {s : Shared}
theorem lt_call {f C i j f2 c2 cell : Addr} {v1 v2 doc2 pm2 ct2 : Value} {q0 q1 q2 q3 q4 q5 q6 q7 q8 q9 q10 : Pos} {b : Bool} {Q : Value → Shared → Prop} (O : Ok w s.heap) (r : Room A 30) (x : KAt s.heap f C)
    (k15 : s.heap.get? f2 = some (fnO (ltFd doc2 pm2 ct2 c2 cell q0 q1 q2 q3 q4 q5 q6 q7 q8 q9 q10))) (k17 : s.heap.CodeRec (.ref c2) "cmp_to_key.<locals>.K.__lt__") (k18 : s.heap.IsCell cell (some (.ref f)))
    (hv1 : handedIn v1 = true) (hv2 : handedIn v2 = true) (I1 : KInst s.heap C i v1) (I2 : KInst s.heap C j v2) (hf : FnAt f s.heap)
    (hcmp : ∀ (A' : Around) h' tk (Q' : Value → Shared → Prop) (E' : Value → Shared → Prop), Room A' 25 → Keep s.heap h' → (∀ k t h'' tk'', decide (k < 0) = b → Keep h' h'' → Q' (.int k t) { s with heap := h'', toks := tk'' }) → wpAny (model PySem.Challenge.rw_pd0134_01.row.prog w) A' (call (.ref f) [v1, v2]) Q' E' { s with heap := h', toks := tk })
    (h : ∀ h' tk, Keep s.heap h' → Q (.bool b) { s with heap := h', toks := tk }) :
    wpAny (model PySem.Challenge.rw_pd0134_01.row.prog w) A (call (.ref f2) [.ref i, .ref j]) Q E s := by
  obtain ⟨p, loose, mean, mg, mb, T⟩ := O.T
  refine wpAny_call (arr_code (dp := A.depth) (un := A.units) r.h (Nat.le_refl _) (Nat.le_refl _) ?_)
  refine codeAny_call_def (fd := ltFd doc2 pm2 ct2 c2 cell q0 q1 q2 q3 q4 q5 q6 q7 q8 q9 q10) (binds := [("self", .ref i), ("other", .ref j)]) (by show A.depth < 1000; have := r.d; (first | lia | omega)) k15 rfl T.nolimit k17 rfl (BindsTo.of_eq rfl) (by intro y hy; simp only [List.mem_cons, List.not_mem_nil, or_false] at hy; rcases hy with rfl | rfl | rfl <;> simp) (locs rfl) ?_
  intro h₁ hns hk₁
  refine wpAny_execs_cons (wpAny_Return_some ?_)
  refine wpAny_Compare1 ?_
  have F : Fr s.heap s.heap.objs.size h₁ _ := ⟨hns, hk₁, Nat.le_refl _⟩
  have N : News s.heap s.heap.objs.size h₁ [] := fun _ hp => nomatch hp
  w_strict (iterate 1 walk1)
  refine wpAny_Name (wpAny_loadName_free (by rfl) (by rfl) (by rfl) (k18.keeps hk₁) ?_) (by decide +kernel)
  refine callWith_F (by obtain ⟨oc, od, fd, sl, e⟩ := hf; exact ⟨oc, od, fd, sl, hk₁ _ _ e⟩) ?_ (by rfl) (by rfl)
  w_strict (iterate 2 walk1)
  refine wpAny_Name (wpAny_loadName_local (by rfl) (by rfl) hns (by rfl) ?_) (by decide +kernel)
  refine get_obj (x.keeps hk₁) (I1.keeps hk₁) hv1 ?_
  w_strict (iterate 2 walk1)
  refine wpAny_Name (wpAny_loadName_local (by rfl) (by rfl) hns (by rfl) ?_) (by decide +kernel)
  refine get_obj (x.keeps hk₁) (I2.keeps hk₁) hv2 ?_
  refine spliced_none ⟨(by obtain ⟨oc, od, fd, sl, e⟩ := hf; exact ⟨oc, od, fd, sl, hk₁ _ _ e⟩), ?_⟩
  refine hcmp _ h₁ _ _ _ ?_ hk₁ fun k t h₂ tk₂ hkb hk₂ => ?_
  · exact ⟨rfl, by show A.depth + 1 + 25 ≤ 900; have := r.d; (first | lia | omega), by show A.units + 3 + 20 * 25 ≤ 9000; have := r.u; (first | lia | omega)⟩
  clear hcmp
  refine wpAny_Constant_int (PyProof.Rows.lt_int ?_)
  rw [hkb]
  exact h h₂ _ (Keep.trans hk₁ hk₂)
end
end Mine
end
theorem Mine.calmSP : True := by w_top off; trivial
section
open PySem PySem.W PyProof.Rows PySem.Calls
set_option autoImplicit false
set_option linter.unusedSectionVars false
namespace Mine
def krun {α : Type} (lt : Nat → Nat → Bool) : KasT α → α
  | .ret a => a
  | .ask i j k => krun lt (k (lt i j))
theorem krun_bind {α β : Type} {lt : Nat → Nat → Bool} {f : α → KasT β} : ∀ t : KasT α, krun lt (t.bind f) = krun lt (f (krun lt t))
  | .ret _ => rfl
  | .ask i j k => krun_bind (k (lt i j))
structure Pre (lt : Nat → Nat → Bool) : Prop where
  asym : ∀ a b, lt a b = true → lt b a = false
  le : ∀ a b c, lt b a = false → lt c b = false → lt c a = false
section
variable {lt : Nat → Nat → Bool}
abbrev el (p : Array Nat) (k : Nat) : Nat := p.getD k 0
theorem el_rev {p : Array Nat} {i j : Nat} (hj : j ≤ p.size) (k : Nat) : el (kas_rev p i j) k = if i ≤ k ∧ k < j then el p (i + j - 1 - k) else el p k := by
  unfold el kas_rev
  rw [Array.getD_eq_getD_getElem?, getElem?_mirror_all hj]
  split <;> rw [Array.getD_eq_getD_getElem?]
theorem el_bubble {p : Array Nat} {k l : Nat} (hk : k < p.size) (hl : l ≤ k) (i : Nat) : el (bubble p k (k - l)) i = if i = l then el p k else if l < i ∧ i ≤ k then el p (i - 1) else el p i := by
  simp only [el, Array.getD_eq_getD_getElem?]
  rw [getElem?_bubble hk _ (by (first | lia | omega))]
  have e : k - (k - l) = l := by (first | lia | omega)
  rw [e]
  split
  · rfl
  · split <;> rfl
/-- rising below k -/
def Up (lt : Nat → Nat → Bool) (p : Array Nat) (k : Nat) : Prop := ∀ i j, i ≤ j → j < k → lt (el p j) (el p i) = false
def Down (lt : Nat → Nat → Bool) (p : Array Nat) (k : Nat) : Prop := ∀ i j, i ≤ j → j < k → lt (el p i) (el p j) = false
def Same (lt : Nat → Nat → Bool) (p : Array Nat) (a k : Nat) : Prop := ∀ i j, a ≤ i → i < k → a ≤ j → j < k → lt (el p i) (el p j) = false
theorem Pre.irr (h : Pre lt) (a : Nat) : lt a a = false := by
  cases e : lt a a with
  | false => rfl
  | true => have := h.asym _ _ e; rw [this] at e; cases e
theorem up_one (h : Pre lt) (p : Array Nat) : Up lt p 1 := fun i j hi hj => by
  have : i = j := by (first | lia | omega)
  subst this; exact h.irr _
theorem down_one (h : Pre lt) (p : Array Nat) : Down lt p 1 := fun i j hi hj => by
  have : i = j := by (first | lia | omega)
  subst this; exact h.irr _
theorem Up.more (h : Pre lt) {p : Array Nat} {n : Nat} (u : Up lt p n) (hn : 1 ≤ n) (c : lt (el p n) (el p (n - 1)) = false) : Up lt p (n + 1) := fun i j hi hj => by
  by_cases q : j = n
  · subst q
    by_cases q2 : i = j
    · subst q2; exact h.irr _
    · exact h.le _ _ _ (u i (j - 1) (by (first | lia | omega)) (by (first | lia | omega))) c
  · exact u i j hi (by (first | lia | omega))
theorem Down.more (h : Pre lt) {p : Array Nat} {n : Nat} (u : Down lt p n) (hn : 1 ≤ n) (c : lt (el p (n - 1)) (el p n) = false) : Down lt p (n + 1) := fun i j hi hj => by
  by_cases q : j = n
  · subst q
    by_cases q2 : i = j
    · subst q2; exact h.irr _
    · exact h.le _ _ _ c (u i (j - 1) (by (first | lia | omega)) (by (first | lia | omega)))
  · exact u i j hi (by (first | lia | omega))
theorem asc_run (h : Pre lt) {p : Array Nat} : ∀ (f n : Nat), 1 ≤ n → Up lt p n → n ≤ krun lt (kas_asc p f n) ∧ krun lt (kas_asc p f n) ≤ n + f ∧ Up lt p (krun lt (kas_asc p f n)) ∧
    (krun lt (kas_asc p f n) < n + f → lt (el p (krun lt (kas_asc p f n))) (el p (krun lt (kas_asc p f n) - 1)) = true)
  | 0, n, _, u => ⟨Nat.le_refl _, Nat.le_refl _, u, fun q => absurd q (Nat.lt_irrefl _)⟩
  | f + 1, n, hn, u => by
    cases c : lt (el p n) (el p (n - 1)) with
    | true =>
      have e : krun lt (kas_asc p (f + 1) n) = n := by simp only [kas_asc, krun]; rw [c]; rfl
      rw [e]
      exact ⟨Nat.le_refl _, by (first | lia | omega), u, fun _ => c⟩
    | false =>
      have e : krun lt (kas_asc p (f + 1) n) = krun lt (kas_asc p f (n + 1)) := by simp only [kas_asc, krun]; rw [c]; rfl
      rw [e]
      obtain ⟨a1, a2, a3, a4⟩ := asc_run h f (n + 1) (by (first | lia | omega)) (u.more h hn c)
      exact ⟨by (first | lia | omega), by (first | lia | omega), a3, fun q => a4 (by (first | lia | omega))⟩
/-- a run of equals turned round -/
theorem Down.turn {p : Array Nat} {a n : Nat} (u : Down lt p n) (s : Same lt p a n) (hz : n ≤ p.size) : Down lt (kas_rev p a n) n := fun i j hi hj => by
  rw [el_rev hz, el_rev hz]
  by_cases q : a ≤ i
  · rw [if_pos ⟨q, by (first | lia | omega)⟩, if_pos ⟨by (first | lia | omega), hj⟩]
    exact s _ _ (by (first | lia | omega)) (by (first | lia | omega)) (by (first | lia | omega)) (by (first | lia | omega))
  · rw [if_neg (by (first | lia | omega))]
    by_cases q2 : a ≤ j
    · rw [if_pos ⟨q2, hj⟩]
      exact u _ _ (by (first | lia | omega)) (by (first | lia | omega))
    · rw [if_neg (by (first | lia | omega))]
      exact u _ _ hi hj
theorem el_rev_out {p : Array Nat} {i j : Nat} (hj : j ≤ p.size) {k : Nat} (hk : j ≤ k) : el (kas_rev p i j) k = el p k := by
  rw [el_rev hj, if_neg (by (first | lia | omega))]
theorem desc_run (h : Pre lt) {N : Nat} : ∀ (f : Nat) (p : Array Nat) (n q : Nat), p.size = N → n + f ≤ N → 1 ≤ n → q + 1 ≤ n → Down lt p n → Same lt p (n - (q + 1)) n →
    ∀ r, krun lt (kas_desc f p n q) = r → r.1.Perm p ∧ n ≤ r.2.1 ∧ r.2.1 ≤ n + f ∧ r.2.2 + 1 ≤ r.2.1 ∧ Down lt r.1 r.2.1 ∧ Same lt r.1 (r.2.1 - (r.2.2 + 1)) r.2.1
  | 0, p, n, q, hz, hn, h1, hq, u, s, r, e => by
    subst e
    exact ⟨Array.Perm.refl _, Nat.le_refl _, Nat.le_refl _, hq, u, s⟩
  | f + 1, p, n, q, hz, hn, h1, hq, u, s, r, e => by
    cases c : lt (el p n) (el p (n - 1)) with
    | true =>
      have c2 := h.asym _ _ c
      by_cases hq0 : q > 0
      · have e' : krun lt (kas_desc (f + 1) p n q) = krun lt (kas_desc f (kas_rev p (n - (q + 1)) n) (n + 1) 0) := by simp only [kas_desc, krun]; rw [c, if_pos rfl, if_pos hq0]
        rw [e'] at e
        have u2 := u.turn s (by (first | lia | omega))
        have c3 : lt (el (kas_rev p (n - (q + 1)) n) (n - 1)) (el (kas_rev p (n - (q + 1)) n) n) = false := by
          rw [el_rev_out (by (first | lia | omega)) (Nat.le_refl n), el_rev (by (first | lia | omega)), if_pos ⟨by (first | lia | omega), by (first | lia | omega)⟩]
          exact h.le _ _ _ c2 (s _ _ (by (first | lia | omega)) (by (first | lia | omega)) (by (first | lia | omega)) (by (first | lia | omega)))
        obtain ⟨a1, a2, a3, a4, a5, a6⟩ := desc_run h f (kas_rev p (n - (q + 1)) n) (n + 1) 0 ((kas_rev_size _ _).trans hz) (by (first | lia | omega)) (by (first | lia | omega)) (by (first | lia | omega)) (u2.more h h1 c3) (fun i j _ _ _ _ => by
          have : i = j := by (first | lia | omega)
          subst this; exact h.irr _) r e
        exact ⟨a1.trans (mirror_perm _ _ _ _), by (first | lia | omega), by (first | lia | omega), a4, a5, a6⟩
      · have e' : krun lt (kas_desc (f + 1) p n q) = krun lt (kas_desc f p (n + 1) 0) := by simp only [kas_desc, krun]; rw [c, if_pos rfl, if_neg hq0]
        rw [e'] at e
        obtain ⟨a1, a2, a3, a4, a5, a6⟩ := desc_run h f p (n + 1) 0 hz (by (first | lia | omega)) (by (first | lia | omega)) (by (first | lia | omega)) (u.more h h1 c2) (fun i j _ _ _ _ => by
          have : i = j := by (first | lia | omega)
          subst this; exact h.irr _) r e
        exact ⟨a1, by (first | lia | omega), by (first | lia | omega), a4, a5, a6⟩
    | false =>
      cases d : lt (el p (n - 1)) (el p n) with
      | true =>
        have e' : krun lt (kas_desc (f + 1) p n q) = (p, n, q) := by simp only [kas_desc, krun]; rw [c, if_neg Bool.false_ne_true]; simp only [krun]; rw [d, if_pos rfl]; rfl
        rw [e'] at e
        subst e
        exact ⟨Array.Perm.refl _, Nat.le_refl _, by simp, hq, u, s⟩
      | false =>
        have e' : krun lt (kas_desc (f + 1) p n q) = krun lt (kas_desc f p (n + 1) (q + 1)) := by simp only [kas_desc, krun]; rw [c, if_neg Bool.false_ne_true]; simp only [krun]; rw [d, if_neg Bool.false_ne_true]
        rw [e'] at e
        have s2 : Same lt p (n + 1 - (q + 1 + 1)) (n + 1) := by
          have lo : ∀ i, n - (q + 1) ≤ i → i < n + 1 → lt (el p i) (el p (n - 1)) = false ∧ lt (el p (n - 1)) (el p i) = false := fun i hi hj => by
            by_cases q2 : i = n
            · subst q2; exact ⟨c, d⟩
            · exact ⟨s _ _ hi (by (first | lia | omega)) (by (first | lia | omega)) (by (first | lia | omega)), s _ _ (by (first | lia | omega)) (by (first | lia | omega)) hi (by (first | lia | omega))⟩
          intro i j hi hi2 hj hj2
          exact h.le _ _ _ (lo j (by (first | lia | omega)) hj2).2 (lo i (by (first | lia | omega)) hi2).1
        obtain ⟨a1, a2, a3, a4, a5, a6⟩ := desc_run h f p (n + 1) (q + 1) hz (by (first | lia | omega)) (by (first | lia | omega)) (by (first | lia | omega)) (u.more h h1 d) s2 r e
        exact ⟨a1, by (first | lia | omega), by (first | lia | omega), a4, a5, a6⟩
theorem Down.rev {p : Array Nat} {n : Nat} (u : Down lt p n) (hz : n ≤ p.size) : Up lt (kas_rev p 0 n) n := fun i j hi hj => by
  rw [el_rev hz, el_rev hz, if_pos ⟨by (first | lia | omega), by (first | lia | omega)⟩, if_pos ⟨by (first | lia | omega), by (first | lia | omega)⟩]
  exact u _ _ (by (first | lia | omega)) (by (first | lia | omega))
theorem tail_run (h : Pre lt) {p : Array Nat} {n nrem : Nat} (h1 : 1 ≤ n) (hn : n ≤ nrem) (hz : nrem ≤ p.size) (u : Down lt p n) :
    ∀ r, krun lt (kas_tail3 n nrem p) = r → r.2.Perm p ∧ 1 ≤ r.1 ∧ r.1 ≤ nrem ∧ Up lt r.2 r.1 := by
  intro r e
  unfold kas_tail3 at e
  rw [krun_bind] at e
  subst e
  obtain ⟨a1, a2, a3, _⟩ := asc_run h (p := kas_rev p 0 n) (nrem - n) n h1 (u.rev (by (first | lia | omega)))
  exact ⟨mirror_perm _ _ _ _, by simp only [krun]; (first | lia | omega), by simp only [krun]; (first | lia | omega), a3⟩
theorem descPart_run (h : Pre lt) {p : Array Nat} {n nrem : Nat} (h1 : 1 ≤ n) (hn : n + 1 ≤ nrem) (hz : p.size = nrem) (u : Down lt p (n + 1)) :
    ∀ r, krun lt (kas_descPart n nrem p) = r → r.2.Perm p ∧ 1 ≤ r.1 ∧ r.1 ≤ nrem ∧ Up lt r.2 r.1 := by
  intro r e
  unfold kas_descPart at e
  rw [krun_bind] at e
  obtain ⟨a1, a2, a3, a4, a5, a6⟩ := desc_run h (nrem - (n + 1)) p (n + 1) 0 hz (by (first | lia | omega)) (by (first | lia | omega)) (by (first | lia | omega)) u (fun i j _ _ _ _ => by
          have : i = j := by (first | lia | omega)
          subst this; exact h.irr _) _ rfl
  generalize krun lt (kas_desc (nrem - (n + 1)) p (n + 1) 0) = t at *
  have ts : t.1.size = nrem := by rw [a1.size_eq, hz]
  by_cases q : t.2.2 > 0
  · rw [if_pos q] at e
    obtain ⟨b1, b2, b3, b4⟩ := tail_run h (by (first | lia | omega)) (by (first | lia | omega)) (by rw [kas_rev_size]; (first | lia | omega)) (a5.turn a6 (by (first | lia | omega))) r e
    exact ⟨b1.trans ((mirror_perm _ _ _ _).trans a1), b2, b3, b4⟩
  · rw [if_neg q] at e
    obtain ⟨b1, b2, b3, b4⟩ := tail_run h (by (first | lia | omega)) (by (first | lia | omega)) (by (first | lia | omega)) a5 r e
    exact ⟨b1.trans a1, b2, b3, b4⟩
theorem count_run (h : Pre lt) {p : Array Nat} {nrem : Nat} (h1 : 1 ≤ nrem) (hz : p.size = nrem) :
    ∀ r, krun lt (kas_count nrem p) = r → r.2.Perm p ∧ 1 ≤ r.1 ∧ r.1 ≤ nrem ∧ Up lt r.2 r.1 := by
  intro r e
  unfold kas_count at e
  rw [krun_bind] at e
  obtain ⟨a1, a2, a3, a4⟩ := asc_run h (p := p) (nrem - 1) 1 (Nat.le_refl _) (up_one h p)
  generalize krun lt (kas_asc p (nrem - 1) 1) = n at *
  by_cases q : (n == nrem) = true
  · rw [if_pos q] at e
    subst e
    exact ⟨Array.Perm.refl _, a1, by simp only [krun]; (first | lia | omega), a3⟩
  · rw [if_neg q] at e
    have hlt : n < nrem := by
      have : n ≠ nrem := fun x => q (by rw [x]; exact beq_self_eq_true _)
      (first | lia | omega)
    have c := a4 (by (first | lia | omega))
    by_cases q1 : n > 1
    · rw [if_pos q1] at e
      simp only [krun] at e
      cases d : lt (el p 0) (el p (n - 1)) with
      | true =>
        rw [d, if_pos rfl] at e
        subst e
        exact ⟨Array.Perm.refl _, by simp only [krun]; (first | lia | omega), by simp only [krun]; (first | lia | omega), a3⟩
      | false =>
        rw [d, if_neg Bool.false_ne_true] at e
        have s : Same lt p 0 n := fun i j _ hi _ hj => h.le _ _ _ (a3 j (n - 1) (by (first | lia | omega)) (by (first | lia | omega))) (h.le _ _ _ d (a3 0 i (by (first | lia | omega)) hi))
        have u : Down lt (kas_rev p 0 n) (n + 1) := by
          have u0 : Down lt p n := fun i j hi hj => s _ _ (by (first | lia | omega)) (by (first | lia | omega)) (by (first | lia | omega)) hj
          refine (u0.turn s (by (first | lia | omega))).more h (by (first | lia | omega)) ?_
          rw [el_rev_out (by (first | lia | omega)) (Nat.le_refl n), el_rev (by (first | lia | omega)), if_pos ⟨by (first | lia | omega), by (first | lia | omega)⟩]
          exact h.le _ _ _ (h.asym _ _ c) (s _ _ (by (first | lia | omega)) (by (first | lia | omega)) (by (first | lia | omega)) (by (first | lia | omega)))
        obtain ⟨b1, b2, b3, b4⟩ := descPart_run h (by (first | lia | omega)) (by (first | lia | omega)) ((kas_rev_size _ _).trans hz) u r e
        exact ⟨b1.trans (mirror_perm _ _ _ _), b2, b3, b4⟩
    · rw [if_neg q1] at e
      have hn1 : n = 1 := by (first | lia | omega)
      subst hn1
      have u : Down lt p 2 := Down.more h (down_one h p) (Nat.le_refl _) (h.asym _ _ c)
      exact descPart_run h (Nat.le_refl _) (by (first | lia | omega)) hz u r e
theorem place_run (h : Pre lt) {p : Array Nat} {k : Nat} (u : Up lt p k) : ∀ (f l r : Nat), l ≤ r → r ≤ k → r - l ≤ f → (∀ i, i < l → lt (el p k) (el p i) = false) → (∀ i, r ≤ i → i < k → lt (el p k) (el p i) = true) →
    ∀ m, krun lt (kas_place p k f l r) = m → m ≤ k ∧ (∀ i, i < m → lt (el p k) (el p i) = false) ∧ (∀ i, m ≤ i → i < k → lt (el p k) (el p i) = true)
  | 0, l, r, h1, h2, h3, a, b, m, e => by
    subst e
    have : l = r := by (first | lia | omega)
    subst this
    exact ⟨h2, a, b⟩
  | f + 1, l, r, h1, h2, h3, a, b, m, e => by
    unfold kas_place at e
    by_cases q : l ≥ r
    · rw [if_pos q] at e
      subst e
      have : l = r := by (first | lia | omega)
      subst this
      exact ⟨h2, a, b⟩
    · rw [if_neg q] at e
      simp only [krun] at e
      cases c : lt (el p k) (el p ((l + r) / 2)) with
      | true =>
        rw [c, if_pos rfl] at e
        refine place_run h u f l ((l + r) / 2) (by (first | lia | omega)) (by (first | lia | omega)) (by (first | lia | omega)) a (fun i hi hk => ?_) m e
        cases d : lt (el p k) (el p i) with
        | true => rfl
        | false => have := h.le _ _ _ (u ((l + r) / 2) i hi hk) d; rw [this] at c; cases c
      | false =>
        rw [c, if_neg Bool.false_ne_true] at e
        exact place_run h u f ((l + r) / 2 + 1) r (by (first | lia | omega)) (by (first | lia | omega)) (by (first | lia | omega)) (fun i hi => h.le _ _ _ (u i ((l + r) / 2) (by (first | lia | omega)) (by (first | lia | omega))) c) b m e
theorem bin_run (h : Pre lt) {N : Nat} : ∀ (f k : Nat) (p : Array Nat), p.size = N → k + f = N → Up lt p k → ∀ r, krun lt (kas_bin f p k) = r → r.Perm p ∧ Up lt r N
  | 0, k, p, hz, hk, u, r, e => by
    subst e
    have : k = N := by (first | lia | omega)
    subst this
    exact ⟨Array.Perm.refl _, u⟩
  | f + 1, k, p, hz, hk, u, r, e => by
    unfold kas_bin at e
    rw [krun_bind] at e
    obtain ⟨a1, a2, a3⟩ := place_run h u k 0 k (Nat.zero_le _) (Nat.le_refl _) (by (first | lia | omega)) (fun _ hi => absurd hi (Nat.not_lt_zero _)) (fun i h1 h2 => absurd h1 (by (first | lia | omega))) _ rfl
    generalize krun lt (kas_place p k k 0 k) = l at *
    have u2 : Up lt (bubble p k (k - l)) (k + 1) := fun i j hi hj => by
      rw [el_bubble (by (first | lia | omega)) a1, el_bubble (by (first | lia | omega)) a1]
      by_cases i1 : i = l
      · rw [if_pos i1]
        by_cases j1 : j = l
        · rw [if_pos j1]; exact h.irr _
        · rw [if_neg j1, if_pos ⟨by (first | lia | omega), by (first | lia | omega)⟩]
          exact h.asym _ _ (a3 _ (by (first | lia | omega)) (by (first | lia | omega)))
      · rw [if_neg i1]
        by_cases i2 : l < i ∧ i ≤ k
        · rw [if_pos i2, if_neg (by (first | lia | omega)), if_pos ⟨by (first | lia | omega), by (first | lia | omega)⟩]
          exact u _ _ (by (first | lia | omega)) (by (first | lia | omega))
        · rw [if_neg i2]
          by_cases j1 : j = l
          · rw [if_pos j1]; exact a2 _ (by (first | lia | omega))
          · rw [if_neg j1]
            by_cases j2 : l < j ∧ j ≤ k
            · rw [if_pos j2]; exact u _ _ (by (first | lia | omega)) (by (first | lia | omega))
            · rw [if_neg j2]; exact u _ _ hi (by (first | lia | omega))
    obtain ⟨b1, b2⟩ := bin_run h f (k + 1) (bubble p k (k - l)) ((bubble_size _ _ _).trans hz) (by (first | lia | omega)) u2 r e
    exact ⟨b1.trans (bubble_perm _ _ _), b2⟩
theorem sort_run (h : Pre lt) {n : Nat} (hn : 1 ≤ n) : (krun lt (kas_sort n)).Perm (List.toArray (List.range n)) ∧ Up lt (krun lt (kas_sort n)) n := by
  unfold kas_sort
  rw [krun_bind]
  obtain ⟨a1, a2, a3, a4⟩ := count_run h hn (p := List.toArray (List.range n)) (by simp) _ rfl
  generalize krun lt (kas_count n (List.toArray (List.range n))) = t at *
  have ts : t.2.size = n := by rw [a1.size_eq]; simp
  by_cases q : t.1 < n
  · rw [if_pos q]
    have e : max t.1 1 = t.1 := by (first | lia | omega)
    rw [e]
    obtain ⟨b1, b2⟩ := bin_run h (n - t.1) t.1 t.2 ts (by (first | lia | omega)) a4 _ rfl
    exact ⟨b1.trans a1, b2⟩
  · rw [if_neg q]
    have : t.1 = n := by (first | lia | omega)
    rw [this] at a4
    exact ⟨a1, a4⟩
end
end Mine
end
theorem Mine.calmSB : True := by w_top off; trivial
section
open PySem PySem.W PyProof.Rows PySem.Calls
set_option autoImplicit false
set_option linter.unusedSectionVars false
set_option linter.unusedVariables false
namespace Mine
/-- every question of the tree is of two below N, every end has P -/
def asks {α : Type} (N : Nat) (P : α → Prop) : KasT α → Prop
  | .ret a => P a
  | .ask i j k => i < N ∧ j < N ∧ ∀ b, asks N P (k b)
theorem asks_bind {α β : Type} {N : Nat} {P : α → Prop} {R : β → Prop} {f : α → KasT β} (h : ∀ a, P a → asks N R (f a)) : ∀ t : KasT α, asks N P t → asks N R (t.bind f)
  | .ret a, x => h a x
  | .ask _ _ k, x => ⟨x.1, x.2.1, fun b => asks_bind h (k b) (x.2.2 b)⟩
theorem asks_ret {α : Type} {N : Nat} {P : α → Prop} {a : α} (h : P a) : asks N P (.ret a) := h
theorem asks_ite {α : Type} {N : Nat} {P : α → Prop} {c : Prop} [Decidable c] {a b : KasT α} (x : asks N P a) (y : asks N P b) : asks N P (if c then a else b) := by split <;> assumption
def Al (N : Nat) (p : Array Nat) : Prop := ∀ k, el p k < N
theorem el_mem {p : Array Nat} {k : Nat} : el p k = 0 ∨ ∃ j, j < p.size ∧ p[j]? = some (el p k) := by
  by_cases h : k < p.size
  · right
    refine ⟨k, h, ?_⟩
    rw [el, Array.getD_eq_getD_getElem?]
    simp [h]
  · left
    rw [el, Array.getD_eq_getD_getElem?]
    simp [h]
theorem al_perm {N : Nat} {p q : Array Nat} (hN : 0 < N) (a : Al N p) (h : q.Perm p) : Al N q := fun k => by
  rcases el_mem (p := q) (k := k) with e | ⟨j, hj, e⟩
  · rw [e]; exact hN
  · have hm : el q k ∈ q := Array.mem_of_getElem? e
    have hm2 : el q k ∈ p := h.mem_iff.mp hm
    obtain ⟨i, hi, e2⟩ := Array.getElem_of_mem hm2
    have := a i
    rw [el, Array.getD_eq_getD_getElem?, Array.getElem?_eq_getElem hi, Option.getD_some, e2] at this
    exact this
section
variable {N : Nat}
theorem asc_asks {p : Array Nat} (a : Al N p) : ∀ (f n : Nat), asks N (fun _ => True) (kas_asc p f n)
  | 0, _ => trivial
  | f + 1, n => ⟨a _, a _, fun b => asks_ite trivial (asc_asks a f (n + 1))⟩
theorem desc_asks (hN : 0 < N) : ∀ (f : Nat) (p : Array Nat) (n q : Nat), Al N p → asks N (fun r : Array Nat × Nat × Nat => Al N r.1) (kas_desc f p n q)
  | 0, _, _, _, a => a
  | f + 1, p, n, q, a => ⟨a _, a _, fun b => asks_ite (asks_ite (desc_asks hN f _ _ _ (al_perm hN a (mirror_perm _ _ _ _))) (desc_asks hN f _ _ _ a)) ⟨a _, a _, fun c => asks_ite a (desc_asks hN f _ _ _ a)⟩⟩
theorem tail_asks (hN : 0 < N) {p : Array Nat} {n nrem : Nat} (a : Al N p) : asks N (fun r : Nat × Array Nat => Al N r.2) (kas_tail3 n nrem p) := by
  have a2 : Al N (kas_rev p 0 n) := al_perm hN a (mirror_perm _ _ _ _)
  unfold kas_tail3
  refine asks_bind (P := fun _ => True) (R := fun r : Nat × Array Nat => Al N r.2) (fun m _ => ?_) _ (asc_asks a2 _ _)
  exact a2
theorem descPart_asks (hN : 0 < N) {p : Array Nat} {n nrem : Nat} (a : Al N p) : asks N (fun r : Nat × Array Nat => Al N r.2) (kas_descPart n nrem p) :=
  asks_bind (fun _ ha => asks_ite (tail_asks hN (al_perm hN ha (mirror_perm _ _ _ _))) (tail_asks hN ha)) _ (desc_asks hN _ _ _ _ a)
theorem count_asks (hN : 0 < N) {p : Array Nat} {nrem : Nat} (a : Al N p) : asks N (fun r : Nat × Array Nat => Al N r.2) (kas_count nrem p) := by
  unfold kas_count
  refine asks_bind (P := fun _ => True) (R := fun r : Nat × Array Nat => Al N r.2) (fun m _ => ?_) _ (asc_asks a _ _)
  refine asks_ite (asks_ret a) (asks_ite ?_ (descPart_asks hN a))
  exact ⟨a _, a _, fun b => asks_ite (asks_ret a) (descPart_asks hN (al_perm hN a (mirror_perm _ _ _ _)))⟩
theorem place_asks {p : Array Nat} {k : Nat} (a : Al N p) : ∀ (f l r : Nat), asks N (fun _ => True) (kas_place p k f l r)
  | 0, _, _ => trivial
  | f + 1, l, r => by
    unfold kas_place
    exact asks_ite trivial ⟨a _, a _, fun b => asks_ite (place_asks a f _ _) (place_asks a f _ _)⟩
theorem bin_asks (hN : 0 < N) : ∀ (f k : Nat) (p : Array Nat), Al N p → asks N (fun _ => True) (kas_bin f p k)
  | 0, _, _, _ => trivial
  | f + 1, k, p, a => asks_bind (fun _ _ => bin_asks hN f _ _ (al_perm hN a (bubble_perm _ _ _))) _ (place_asks a _ _ _)
theorem sort_asks (hN : 0 < N) : asks N (fun _ => True) (kas_sort N) := by
  have a : Al N (List.toArray (List.range N)) := fun k => by
    unfold el
    rw [Array.getD_eq_getD_getElem?]
    by_cases h : k < N
    · simp [h]
    · simp [h]; exact hN
  unfold kas_sort
  refine asks_bind (R := fun _ => True) (fun r ha => ?_) _ (count_asks hN a)
  exact asks_ite (bin_asks hN _ _ _ ha) (asks_ret trivial)
end
/-- the tree by an answer that stays the same -/
theorem kasWp_run {α : Type} {N : Nat} {P : α → Prop} {lt : Nat → Nat → Bool} {cmp : Nat → Nat → (Bool → Shared → Prop) → Shared → Prop} (I : Shared → Prop)
    (hc : ∀ i j C s, i < N → j < N → I s → (∀ s', I s' → C (lt i j) s') → cmp i j C s) {Q : α → Shared → Prop} :
    ∀ (t : KasT α) (s : Shared), asks N P t → I s → (∀ s', I s' → Q (krun lt t) s') → t.kasWp cmp Q s
  | .ret _, s, _, hI, hQ => hQ s hI
  | .ask i j k, s, ha, hI, hQ => hc i j _ s ha.1 ha.2.1 hI fun s' hI' => kasWp_run I hc (k (lt i j)) s' (ha.2.2 _) hI' hQ
end Mine
end
theorem Mine.calmSO : True := by w_top off; trivial
section
open PySem PySem.W PyProof.Rows PySem.Calls PySem.W.X
open PySem.Builtin
set_option maxRecDepth 100000
set_option maxHeartbeats 4000000
set_option linter.unusedVariables false
namespace Mine
theorem KInst.but {h h' : Heap} {C i a : Addr} {v : Value} {xs : Array Value} {n : Nat} (x : KInst h C i v) (ha : h.get? a = some (seqObj "list" xs n)) (hs : Heap.SameBut a h h') : KInst h' C i v := by
  obtain ⟨dx, od, e1, e2, e3⟩ := x
  refine ⟨dx, od, hs.extBut _ _ (fun q => ?_) e1, hs.extBut _ _ (fun q => ?_) e2, e3⟩
  · rw [q, ha] at e1; cases e1
  · rw [q, ha] at e2; cases e2; injection e3 with e4; exact absurd e4 (by decide)
theorem pre_of (dss : List (List Nat)) : Pre (fun i j => lex ltN (dss.getD i []) (dss.getD j [])) := ⟨fun _ _ x => sto_N.lex.asym x, fun _ _ _ x y => sto_N.lex.le_trans x y⟩
/-- instances of K over these values -/
def Insts (h : Heap) (C : Addr) (kA : Array Value) (vs : List Value) : Prop := kA.size = vs.length ∧ ∀ (j : Nat) (v : Value), vs[j]? = some v → ∃ i, kA[j]? = some (Value.ref i) ∧ KInst h C i v
section
variable {w : World} {s : Shared} {A : Around} {E : Value → Shared → Prop}
theorem ask_inst {C i j : Addr} {b1 b2 : Array UInt8} {t1 t2 : Tok} {x y : List Nat} {Q : Bool → Shared → Prop} (O : Ok w s.heap) (rm : Room A 32) (K : KAt s.heap 170 C) (I1 : KInst s.heap C i (.bytes b1 t1)) (I2 : KInst s.heap C j (.bytes b2 t2))
    (h1 : b1.toList = way x) (h2 : b2.toList = way y) (hx : Num x) (hy : Num y) (h : ∀ h' tk, Keep s.heap h' → Q (lex ltN x y) { s with heap := h', toks := tk }) :
    wpAny (model PySem.Challenge.rw_pd0134_01.row.prog w) A (keyLt' oneType' (.ref i) (.ref j)) Q E s := by
  obtain ⟨K', ad, vd, pd, Y⟩ := K.frag
  have J1 := I1
  obtain ⟨dx, od, a, b, _⟩ := J1
  have Ia : InstAt s.heap i ⟨.ref C, some dx, .plain, #[some (.bytes b1 t1)]⟩ C (some od) := ⟨a, rfl, rfl, b⟩
  rw [keyLt'_oneType, oneLt'_eq]
  simp only [if_true]
  refine wpAny_bind (wpAny_cRoomFor (by have := rm.u; unfold cLine; (first | lia | omega)) ?_)
  refine wpAny_bind (ifBound_K Y.X Ia Y.k4 Y.k5 ?_)
  have h170 : FnAt 170 s.heap := by
    exact ⟨_, _, _, _, O.X _ _ (by k_is)⟩
  refine lt_call (b := lex ltN x y) O (rm.less (by (first | lia | omega))) K Y.k15 Y.k17 Y.k18 rfl rfl I1 I2 h170 (fun A' h' tk Q' E' r' hk hq => ?_) fun h' tk hk => ?_
  · refine compared (s := { s with heap := h', toks := tk }) (O.keeps hk) (r'.less (by (first | lia | omega))) h1 h2 hx hy fun k t h'' tk'' hkb hk'' => hq k t h'' tk'' hkb hk''
  · exact wpAny_truthy_bool (h h' tk hk)
theorem tail_K {D kS : Addr} {e1 e : Nat} {keys : Array Value} {st : SortSt} {base : Heap} {n : Nat} {P : PySem.Fin → Shared → Prop} (hb : Keep base s.heap) (h0 : base.get? D = none) (h0' : base.get? kS = none) (hne : kS ≠ D)
    (gD : s.heap.get? D = some (seqObj "list" #[] e1)) (gk : s.heap.get? kS = some (seqObj "list" keys e)) (hkz : keys.size = n) (hsz : (arrOf st).size = n) (hn : n < 64) (hfl : failedOf st = none)
    (h : ∀ h' tk c, Keep base h' → h'.get? D = some (seqObj "list" ((arrOf st).map (·.2)) c) → P (.done (.ret .none)) { s with heap := h', toks := tk }) :
    wpAny (model PySem.Challenge.rw_pd0134_01.row.prog w) A (ksk_tail D false e1 (.ref kS) st) P E s := by
  have s1 := Heap.SameBut.update s.heap kS (Obj.mapSeq fun _ => (#[] : Array Value))
  have na1 : (s.heap.update kS (Obj.mapSeq fun _ => (#[] : Array Value))).get? D = some (seqObj "list" #[] e1) := (s1.2 D hne.symm).trans gD
  have s2 := Heap.SameBut.update (s.heap.update kS (Obj.mapSeq fun _ => (#[] : Array Value))) D (Obj.mapSeq fun _ => (arrOf st).map (·.2))
  obtain ⟨c2, hc2⟩ : ∃ c2, ((s.heap.update kS (Obj.mapSeq fun _ => (#[] : Array Value))).update D (Obj.mapSeq fun _ => (arrOf st).map (·.2))).get? D = some (seqObj "list" ((arrOf st).map (·.2)) c2) := ⟨_, get?_update_seq na1 fun _ => (arrOf st).map (·.2)⟩
  unfold ksk_tail
  try dsimp only
  refine wpAny_bind (listUpdate_at gk rfl ?_ (by rw [hkz, sizeLine_eq]; (first | lia | omega)) (Nat.zero_le _))
  refine wpAny_bind (wpAny_letGo ?_)
  refine wpAny_bind (seqEpoch_at na1 rfl ?_)
  refine wpAny_bind (listUpdate_at na1 rfl ?_ (Nat.zero_le _) (Nat.le_trans (Nat.le_of_eq (by simp only [Bool.false_eq_true, if_false, Array.size_map]; exact hsz)) (by rw [sizeLine_eq]; (first | lia | omega))))
  rw [hfl]
  simp only [bne_self_eq_false, Bool.false_eq_true, if_false]
  exact wpAny_pure (h _ _ c2 (fun b o x => s2.extBut b o (fun q => by rw [q, h0] at x; cases x) (s1.extBut b o (fun q => by rw [q, h0'] at x; cases x) (hb b o x))) hc2)
theorem end_K {C D kS : Addr} {e1 e : Nat} {keys : Array Value} {vs : List Value} {dss : List (List Nat)} {base : Heap} {P : PySem.Fin → Shared → Prop} (O : Ok w s.heap) (rm : Room A 34) (K : KAt s.heap 170 C) (hb : Keep base s.heap) (h0 : base.get? D = none) (h0' : base.get? kS = none) (hne : kS ≠ D)
    (gD : s.heap.get? D = some (seqObj "list" #[] e1)) (gk : s.heap.get? kS = some (seqObj "list" keys e)) (hI : Insts s.heap C keys vs) (hv : BytesAre vs (dss.map way)) (hd : ∀ y ∈ dss, Num y) (h2 : 2 ≤ vs.length) (h64 : vs.length < 64)
    (h : ∀ h' tk c, Keep base h' → h'.get? D = some (seqObj "list" ((krun (fun i j => lex ltN (dss.getD i []) (dss.getD j [])) (kas_sort vs.length)).map fun i => vs.getD i .none) c) → P (.done (.ret .none)) { s with heap := h', toks := tk }) :
    wpAny (model PySem.Challenge.rw_pd0134_01.row.prog w) A (ksk_end D false vs.toArray e1 (.ref kS) keys) P E s := by
  obtain ⟨hks, hki⟩ := hI
  have hzs : (keys.zip vs.toArray).size = vs.length := by rw [Array.size_zip, hks, List.size_toArray, Nat.min_self]
  unfold ksk_end
  try dsimp only
  rw [if_neg Bool.false_ne_true]
  simp only [Bool.false_eq_true, if_false]
  have hn2 : ¬ vs.toArray.size < 2 := by rw [List.size_toArray]; (first | lia | omega)
  rw [if_neg hn2, if_neg hn2]
  have ek : keys = keys.toList.toArray := by simp
  have kk : wpAny (model PySem.Challenge.rw_pd0134_01.row.prog w) A (keyKind' keys.toList.toArray) (fun κ s' => κ = oneType' ∧ s' = s) E s := by
    refine kas_kind (T := .ref C) (by simp; (first | lia | omega)) (fun v hvm => ?_) rfl (by simp) ⟨rfl, rfl⟩
    obtain ⟨j, hj, e⟩ := List.getElem_of_mem hvm
    have hjv : j < vs.length := by rw [← hks]; simpa using hj
    obtain ⟨i, hi, Ki⟩ := hki j vs[j] (by simp [hjv])
    have : v = .ref i := by
      have e2 : keys.toList[j]? = some v := by rw [← e]; simp
      rw [Array.getElem?_toList, hi] at e2
      cases e2; rfl
    subst this
    obtain ⟨dx, od, a, b, _⟩ := Ki
    exact (show InstAt s.heap i ⟨.ref C, some dx, .plain, #[some _]⟩ C (some od) from ⟨a, rfl, rfl, b⟩).type
  rw [← ek] at kk
  refine wpAny_bind (wpAny_mono kk (fun κ s' hκ => ?_) fun _ _ e => e)
  obtain ⟨rfl, rfl⟩ := hκ
  have est : SortSt.mk' oneType' (keys.zip vs.toArray) #[] 7 none = kas_st oneType' (keys.zip vs.toArray) (List.toArray (List.range vs.length)) := by
    have e := kas_range (keys.zip vs.toArray)
    rw [hzs] at e
    show SortSt.mk' oneType' (keys.zip vs.toArray) #[] 7 none = SortSt.mk' oneType' ((List.toArray (List.range vs.length)).map (kas_item (keys.zip vs.toArray))) #[] 7 none
    rw [e]
  have item : ∀ i, i < vs.length → ∃ I v, kas_item (keys.zip vs.toArray) i = (.ref I, v) ∧ vs[i]? = some v ∧ KInst s'.heap C I v := fun i hi => by
    obtain ⟨I, e1, e2⟩ := hki i vs[i] (by simp [hi])
    refine ⟨I, vs[i], ?_, by simp [hi], e2⟩
    unfold kas_item
    rw [Array.getD_eq_getD_getElem?, (Array.getElem?_zip_eq_some (z := (Value.ref I, vs[i]))).mpr ⟨e1, by simp [hi]⟩]
    rfl
  have run := kas_runs (prog := PySem.Challenge.rw_pd0134_01.row.prog) (w := w) (A := A) (E := E) (it := keys.zip vs.toArray) (κ := oneType') (s := s')
    (G := fun p s'' => p = krun (fun i j => lex ltN (dss.getD i []) (dss.getD j [])) (kas_sort vs.length) ∧ ∃ h' tk, s'' = { s' with heap := h', toks := tk } ∧ Keep s'.heap h')
    (Q := fun _ st' s'' => ∃ p : Array Nat, p.size = vs.length ∧ arrOf st' = p.map (kas_item (keys.zip vs.toArray)) ∧ failedOf st' = none ∧ p = krun (fun i j => lex ltN (dss.getD i []) (dss.getD j [])) (kas_sort vs.length) ∧ ∃ h' tk, s'' = { s' with heap := h', toks := tk } ∧ Keep s'.heap h')
    h2 h64 (fun p' st' s'' a1 a2 a3 a4 => ⟨p', a1, a2, a3, a4.1, a4.2⟩) ?_
  · rw [← est] at run
    refine wpAny_bind (wpAny_mono run ?_ fun _ _ e => e)
    rintro ⟨⟨⟩, st'⟩ s'' ⟨p, hp, har, hf, hpe, h', tk, rfl, hk'⟩
    try dsimp only
    refine tail_K (s := { s' with heap := h', toks := tk }) (base := base) (n := vs.length) (hb.trans hk') h0 h0' hne (hk' _ _ gD) (hk' _ _ gk) hks (by rw [har, Array.size_map, hp]) h64 hf fun h'' tk'' c hkb hgD => ?_
    refine h h'' tk'' c hkb ?_
    rw [hgD, har, Array.map_map, ← hpe]
    have : p.map ((fun x : Keyed => x.2) ∘ kas_item (keys.zip vs.toArray)) = p.map fun i => vs.getD i .none := by
      apply Array.toList_inj.mp
      rw [Array.toList_map, Array.toList_map]
      apply List.map_congr_left
      intro i hi
      have hil : i < vs.length := by
        have hperm := (sort_run (lt := fun i j => lex ltN (dss.getD i []) (dss.getD j [])) (pre_of dss) (n := vs.length) (by (first | lia | omega))).1
        rw [← hpe] at hperm
        have := hperm.mem_iff.mp (Array.mem_toList_iff.mp hi)
        simpa using this
      obtain ⟨I, v, e1, e2, _⟩ := item i hil
      show (kas_item (keys.zip vs.toArray) i).2 = _
      rw [e1, List.getD_eq_getElem?_getD, e2]; rfl
    rw [this]
  · refine kasWp_run (fun s'' => ∃ h' tk, s'' = { s' with heap := h', toks := tk } ∧ Keep s'.heap h') (fun i j C' s'' hi hj hI' hC => ?_) _ _ (sort_asks (by (first | lia | omega))) ⟨s'.heap, s'.toks, by cases s'; rfl, fun _ _ e => e⟩ (fun s'' hI' => ⟨rfl, hI'⟩)
    obtain ⟨h', tk, rfl, hk'⟩ := hI'
    obtain ⟨I, v, e1, e2, e3⟩ := item i hi
    obtain ⟨J, u, g1, g2, g3⟩ := item j hj
    obtain ⟨b1, t1, rfl, hb1⟩ := hv.at e2
    obtain ⟨b2, t2, rfl, hb2⟩ := hv.at g2
    rw [List.getElem?_map] at hb1 hb2
    obtain ⟨x, hx, hxe⟩ := Option.map_eq_some_iff.mp hb1
    obtain ⟨y, hy, hye⟩ := Option.map_eq_some_iff.mp hb2
    unfold kas_cmp
    rw [e1, g1]
    refine ask_inst (s := { s' with heap := h', toks := tk }) (O.keeps hk') (rm.less (by (first | lia | omega))) (K.keeps hk') (e3.keeps hk') (g3.keeps hk') hxe.symm hye.symm (hd _ (List.mem_of_getElem? hx)) (hd _ (List.mem_of_getElem? hy)) fun h'' tk'' hk'' => ?_
    have := hC { s' with heap := h'', toks := tk'' } ⟨h'', tk'', rfl, hk'.trans hk''⟩
    rw [List.getD_eq_getElem?_getD, List.getD_eq_getElem?_getD, hx, hy] at this
    exact this
end
end Mine
end
theorem Mine.calmSO2 : True := by w_top off; trivial
section
open PySem PySem.W PyProof.Rows PySem.Calls PySem.W.X
open PySem.Builtin
set_option maxRecDepth 100000
set_option maxHeartbeats 4000000
set_option linter.unusedVariables false
namespace Mine
section
variable {w : World} {s : Shared} {A : Around} {E : Value → Shared → Prop}
theorem Insts.push {h h' h'' : Heap} {C kS I : Addr} {kA : Array Value} {e : Nat} {vs : List Value} {v : Value} (x : Insts h C kA vs) (hk : Keep h h') (hI : KInst h' C I v) (gk : h'.get? kS = some (seqObj "list" kA e)) (hs : Heap.SameBut kS h' h'') : Insts h'' C (kA.push (.ref I)) (vs ++ [v]) := by
  obtain ⟨hz, hi⟩ := x
  refine ⟨by simp [hz], fun j u hj => ?_⟩
  by_cases q : j < vs.length
  · rw [List.getElem?_append_left q] at hj
    obtain ⟨i, e1, e2⟩ := hi j u hj
    refine ⟨i, ?_, (e2.keeps hk).but gk hs⟩
    rw [Array.getElem?_push, if_neg (by (first | lia | omega))]; exact e1
  · have : j = vs.length := by
      have := (List.getElem?_eq_some_iff.mp hj).1
      simp at this; (first | lia | omega)
    subst this
    simp at hj
    subst hj
    exact ⟨I, by rw [← hz]; simp, hI.but gk hs⟩
theorem rest_K {C D kS : Addr} {e1 : Nat} {vs : List Value} {dss : List (List Nat)} {base : Heap} {P : PySem.Fin → Shared → Prop} (O : Ok w base) (rm : Room A 34) (K : KAt base 170 C) (hb : Keep base s.heap) (h0 : base.get? D = none) (h0' : base.get? kS = none) (hne : kS ≠ D)
    (gD : s.heap.get? D = some (seqObj "list" #[] e1)) (gk : s.heap.get? kS = some (seqObj "list" #[] 0)) (hv : BytesAre vs (dss.map way)) (hd : ∀ y ∈ dss, Num y) (h2 : 2 ≤ vs.length) (h64 : vs.length < 64)
    (h : ∀ h' tk c, Keep base h' → h'.get? D = some (seqObj "list" ((krun (fun i j => lex ltN (dss.getD i []) (dss.getD j [])) (kas_sort vs.length)).map fun i => vs.getD i .none) c) → P (.done (.ret .none)) { s with heap := h', toks := tk }) :
    wpAny (model PySem.Challenge.rw_pd0134_01.row.prog w) A (ksk_rest D (.ref C) false vs.toArray e1 (.ref kS)) P E s := by
  unfold ksk_rest
  refine wpAny_bind (wpAny_rule ?_)
  rw [List.forIn_toArray]
  refine wpAny_bind (ksk_fold (fun i s' => ∃ h' tk kA e, s' = { s with heap := h', toks := tk } ∧ Keep base h' ∧ h'.get? D = some (seqObj "list" #[] e1) ∧ h'.get? kS = some (seqObj "list" kA e) ∧ Insts h' C kA (vs.take i)) vs 0 s
    ⟨s.heap, s.toks, #[], 0, rfl, hb, gD, gk, by simp, by simp⟩ ?step ?done)
  case step =>
    rintro j x s' hx ⟨h', tk, kA, e, rfl, hb', gD', gk', hI⟩
    simp only [Nat.zero_add] at hI ⊢
    have hj : j < vs.length := (List.getElem?_eq_some_iff.mp hx).1
    obtain ⟨b, t, rfl, _⟩ := hv.at hx
    refine wpAny_bind (wpAny_attempt (make_inst (s := { s with heap := h', toks := tk }) (O.keeps hb') (rm.less (by (first | lia | omega))) (K.keeps hb') fun I h'' tk'' hk hKI _ => ?_))
    try dsimp only
    have s1 := Heap.SameBut.update h'' kS (Obj.mapSeq (·.push (.ref I)))
    have gk2 := hk _ _ gk'
    obtain ⟨c2, hc2⟩ : ∃ c2, (h''.update kS (Obj.mapSeq (·.push (.ref I)))).get? kS = some (seqObj "list" (kA.push (.ref I)) c2) := ⟨_, get?_update_seq gk2 (·.push (.ref I))⟩
    have hz : kA.size ≤ 64 := by
      have := hI.1
      rw [List.length_take] at this; (first | lia | omega)
    refine wpAny_bind (listUpdate_at gk2 rfl ?_ (by rw [sizeLine_eq]; (first | lia | omega)) (Nat.le_trans (Nat.le_of_eq (Array.size_push ..)) (by rw [sizeLine_eq]; (first | lia | omega))))
    refine wpAny_pure ⟨rfl, _, _, kA.push (.ref I), c2, rfl, fun b' o x' => s1.extBut b' o (fun q => by rw [q, h0'] at x'; cases x') (hk _ _ (hb' _ _ x')), s1.extBut _ _ (Ne.symm hne) (hk _ _ gD'), hc2, ?_⟩
    have : vs.take (j + 1) = vs.take j ++ [.bytes b t] := by rw [List.take_add_one, hx]; rfl
    rw [this]
    exact hI.push hk hKI gk2 s1
  case done =>
    rintro s' ⟨h', tk, kA, e, rfl, hb', gD', gk', hI⟩
    simp only [Nat.zero_add, List.take_length] at hI
    try dsimp only
    refine wpAny_bind (listItems_at gk' rfl ?_)
    exact end_K (s := { s with heap := h', toks := tk }) (O.keeps hb') rm (K.keeps hb') hb' h0 h0' hne gD' gk' hI hv hd h2 h64 h
/-- sorted(a list of ways, key=K over the comparison) -/
theorem sorted_K {C l : Addr} {vs : List Value} {dss : List (List Nat)} {Q : Value → Shared → Prop} (O : Ok w s.heap) (rm : Room A 36) (K : KAt s.heap 170 C) (hl : s.heap.IsList l vs.toArray) (hv : BytesAre vs (dss.map way)) (hd : ∀ y ∈ dss, Num y) (h2 : 2 ≤ vs.length) (h64 : vs.length < 64)
    (h : ∀ D h' tk (us : List Value) (ess : List (List Nat)), h'.IsList D (List.toArray us) → BytesAre us (ess.map way) → ess.Perm dss → ess.Pairwise (fun a b => lex ltN b a = false) → Keep s.heap h' → Q (.ref D) { s with heap := h', toks := tk }) :
    wpAny (model PySem.Challenge.rw_pd0134_01.row.prog w) A (call (.builtin "sorted") [.ref l] [(Str.ofString "key", .ref C)]) Q E s := by
  refine call_function_entry_kw kind_sorted plain_sorted entry_sorted (ksk_s1 _ _) ?_
  unfold Builtin.«sorted»
  refine wpAny_bind (m := checkCount "sorted" 1 1 _) (wpAny_pure ?_)
  refine wpAny_bind (collect_list hl ?_ (by rw [sizeLine_eq]; (first | lia | omega)))
  refine wpAny_bind (wpAny_newList ?_ (by rw [sizeLine_eq]; (first | lia | omega)))
  have hsz : ((s.heap.push (seqObj "list" #[] 0)).update s.heap.objs.size (Obj.mapSeq (· ++ vs.toArray))).objs.size = s.heap.objs.size + 1 := by
    rw [Heap.size_update, size_push']
  have hoL : (((s.heap.push (seqObj "list" #[] 0)).update s.heap.objs.size (Obj.mapSeq (· ++ vs.toArray))).push (seqObj "list" vs.toArray 0)).get? (s.heap.objs.size + 1) = some (seqObj "list" vs.toArray 0) := by
    rw [← hsz]; exact Heap.get?_push_size _ rfl
  have keep : ∀ b o, s.heap.get? b = some o → (((s.heap.push (seqObj "list" #[] 0)).update s.heap.objs.size (Obj.mapSeq (· ++ vs.toArray))).push (seqObj "list" vs.toArray 0)).get? b = some o := fun b o q => by
    have hlt : b < s.heap.objs.size := Heap.lt_size q
    rw [Heap.get?_push_ne _ _ _ (by rw [hsz]; exact Nat.ne_of_lt (Nat.lt_succ_of_lt hlt)), Heap.get?_update_ne _ _ _ _ (Nat.ne_of_lt hlt), Heap.get?_push_ne _ _ _ (Nat.ne_of_lt hlt)]
    exact q
  have hzA : (((s.heap.push (seqObj "list" #[] 0)).update s.heap.objs.size (Obj.mapSeq (· ++ vs.toArray))).push (seqObj "list" vs.toArray 0)).objs.size = s.heap.objs.size + 2 := by rw [size_push', hsz]
  show wpAny _ _ _ _ _ { s with heap := ((s.heap.push (seqObj "list" #[] 0)).update s.heap.objs.size (Obj.mapSeq (· ++ vs.toArray))).push (seqObj "list" vs.toArray 0) }
  rw [hsz]
  generalize hHA : ((s.heap.push (seqObj "list" #[] 0)).update s.heap.objs.size (Obj.mapSeq (· ++ vs.toArray))).push (seqObj "list" vs.toArray 0) = HA at hoL keep hzA ⊢
  obtain ⟨D, hD⟩ : ∃ D, D = s.heap.objs.size + 1 := ⟨_, rfl⟩
  rw [← hD] at hoL ⊢
  have hD0 : s.heap.get? D = none := Heap.get?_none_of_le (by rw [hD]; exact Nat.le_succ _)
  refine wpAny_bind (wpAny_holding (wpAny_call_entry_kw PyProof.Rows.slot_list_sort ⟨_, hoL, rfl⟩ PyProof.Rows.entry_list_sort ?body (ksk_l1 _ _)))
  case body =>
    show wpAny _ A.in1.in1 (Builtin.«list.sort» ⟨[.ref D], [(Str.ofString "key", .ref C)]⟩) _ _ _
    rw [ksk_t1]
    unfold ksk_tree
    have s1 := Heap.SameBut.update HA D (Obj.mapSeq fun _ => (#[] : Array Value))
    obtain ⟨e1, ho1⟩ : ∃ e1, (HA.update D (Obj.mapSeq fun _ => (#[] : Array Value))).get? D = some (seqObj "list" #[] e1) := ⟨_, get?_update_seq hoL fun _ => #[]⟩
    have k1 : Keep s.heap (HA.update D (Obj.mapSeq fun _ => (#[] : Array Value))) := fun b o x => s1.extBut b o (fun q => by rw [q, hD0] at x; cases x) (keep b o x)
    have hkS : ((HA.update D (Obj.mapSeq fun _ => (#[] : Array Value))).push (seqObj "tuple" vs.toArray 0)).objs.size = s.heap.objs.size + 3 := by rw [size_push', Heap.size_update, hzA]
    refine wpAny_bind (listItems_at hoL rfl ?_)
    refine wpAny_bind (listUpdate_at hoL rfl ?_ (by rw [List.size_toArray, sizeLine_eq]; (first | lia | omega)) (Nat.zero_le _))
    refine wpAny_bind (seqEpoch_at ho1 rfl ?_)
    refine wpAny_bind (wpAny_newTuple ?_ (by show vs.length ≤ _; rw [sizeLine_eq]; (first | lia | omega)))
    refine wpAny_bind (wpAny_newList ?_ (Nat.zero_le _))
    refine wpAny_holding ?_
    refine rest_K (s := { s with heap := ((HA.update D (Obj.mapSeq fun _ => (#[] : Array Value))).push (seqObj "tuple" vs.toArray 0)).push (seqObj "list" #[] 0) }) (kS := ((HA.update D (Obj.mapSeq fun _ => (#[] : Array Value))).push (seqObj "tuple" vs.toArray 0)).objs.size) (base := s.heap)
      O ⟨rm.h, by have := rm.d; show A.depth + 34 ≤ 900; (first | lia | omega), by have := rm.u; show A.units + 1 + 1 + 20 * 34 ≤ 9000; (first | lia | omega)⟩ K (fun b o x => Heap.get?_push_of_some _ (Heap.get?_push_of_some _ (k1 b o x))) hD0 (Heap.get?_none_of_le (by rw [hkS]; exact Nat.le_add_right _ _)) (by rw [hkS, hD]; simp) (Heap.get?_push_of_some _ (Heap.get?_push_of_some _ ho1)) (Heap.get?_push_size _ rfl) hv hd h2 h64 fun h' tk c hk' hg => ⟨_, rfl, ?_⟩
    obtain ⟨hperm, hup⟩ := sort_run (pre_of dss) (n := vs.length) (by (first | lia | omega))
    generalize krun (fun i j => lex ltN (dss.getD i []) (dss.getD j [])) (kas_sort vs.length) = p at *
    have hpl : p.toList.Perm (List.range vs.length) := by have := Array.perm_iff_toList_perm.mp hperm; simpa using this
    have hdl : dss.length = vs.length := by rw [hv.length, List.length_map]
    refine wpAny_pure ⟨_, rfl, h D h' tk (p.toList.map fun i => vs.getD i .none) (p.toList.map fun i => dss.getD i []) ⟨_, hg, rfl, c, ?_⟩ ?_ ?_ ?_ hk'⟩
    · show Data.seq _ _ = Data.seq _ _
      congr 1
      apply Array.toList_inj.mp
      simp
    · have : ∀ l : List Nat, (∀ i ∈ l, i < vs.length) → BytesAre (l.map fun i => vs.getD i .none) ((l.map fun i => dss.getD i []).map way) := by
        intro l
        induction l with
        | nil => intro _; exact .nil
        | cons i l ih =>
          intro hl'
          have hi := hl' i (List.mem_cons_self ..)
          obtain ⟨b, t, e1, e2⟩ := hv.get hi
          rw [List.getElem?_map] at e2
          obtain ⟨x, hx, hxe⟩ := Option.map_eq_some_iff.mp e2
          simp only [List.map_cons]
          rw [List.getD_eq_getElem?_getD, e1, List.getD_eq_getElem?_getD, hx]
          exact .cons hxe.symm (ih fun j hj => hl' j (List.mem_cons_of_mem _ hj))
      exact this _ fun i hi => by simpa using hpl.mem_iff.mp hi
    · have h1 := hpl.map fun i => dss.getD i []
      have h2' : (List.range vs.length).map (fun i => dss.getD i []) = dss := by rw [← hdl]; exact range_getD dss []
      rw [h2'] at h1
      exact h1
    · rw [List.pairwise_map, List.pairwise_iff_getElem]
      intro i j hi hj hij
      have hj' : j < vs.length := by
        have := hpl.length_eq
        simp only [List.length_range] at this; (first | lia | omega)
      have := hup i j (Nat.le_of_lt hij) hj'
      simp only [el] at this
      have g : ∀ k (hk : k < p.toList.length), p.getD k 0 = p.toList[k] := fun k hk => by
        have hk2 : k < p.size := by simpa using hk
        simp [Array.getD, hk2]
      rw [g i hi, g j hj] at this
      exact this
end
end Mine
end
theorem Mine.calmCB : True := by w_top off; trivial
section
open PySem PySem.W PyProof.Rows PySem.Calls PySem.W.X
open PySem.Builtin
set_option maxRecDepth 100000
set_option maxHeartbeats 4000000
namespace Mine
section
variable {prog : Program} {w : World} {M : Model} {A : Around} {E : Value → Shared → Prop} {s : Shared} {h₀ : Heap} {news : List (Addr × Obj)} {p : Program} {loose : List Str} {mean : ExcName → Option Value} {mg mb : Str → Option Value}
theorem mk_fun {env : Env} {name qual : Str} {params : Arguments} {body : List Stmt} {scope : Scope} {clos : List (Str × Addr)} {c P : Addr} {ps : Array Value} {pos : Pos} {firstLine : Nat} {Q : Value → Shared → Prop}
    (T : Top p loose mean mg mb h₀) (D : Lg h₀ s.heap news) (i : Nat) (hi : news[i]? = some (P, tabObj ps)) (C : CodeHd s.heap c P) (hcode : env.code = .ref c) (hge : env.globals = mainGlobals)
    (hcl : closureFor scope env = pure clos) (ht : TriplesOk ps.toList) (hnf : codeAmong pos ps.toList = none)
    (h : ∀ f c' oc vs t ctv doc h' tk, Lg h₀ h' ((f, fnMade name qual params body scope clos doc ((mg "__name__").getD .none) c' ctv) :: (c', oc) :: news.set i (P, tabObj (ps ++ #[rawInt pos.line, rawInt pos.col, .ref c']))) →
      CodeHd h' c P → oc.data = .fields vs → vs[1]? = some (.str qual t) → Q (.ref f) { s with heap := h', toks := tk }) :
    wpAny M A (makeFunction name qual params (.stmts body) scope env [] [] [] pos firstLine) Q E s := by
  have hP := D.at i hi
  have hgs := T.g.keeps D.up
  obtain ⟨bm, ob, b1, b2, b3, b4, b5, b6⟩ := T.bmain
  have hgP : mainGlobals ≠ P := fun q => by
    obtain ⟨o, es, ep, e, hd, _⟩ := hgs
    rw [q, hP] at e; cases e; cases hd
  have hbP : bm ≠ P := fun q => by
    have e := D.up _ _ b3
    rw [q, hP] at e; cases e; cases b4
  have hbG : bm ≠ mainGlobals := fun q => by
    obtain ⟨o, es, ep, e, hd, _⟩ := T.g
    rw [q, e] at b3; cases b3; rw [hd] at b6; cases b6
  have hcP : c ≠ P := by obtain ⟨_, _, _, _, _, _, _, _, _, _, _, _, _, _, _, _, _, _, n⟩ := C; exact n
  refine makeFunction_K (mg := mg) hcl hge hgs hcode C hP ht hnf hgP ⟨bm, ob, b1, b2, hbG, hbP, D.up _ _ b3, b4, b5, b6⟩ fun c' ctv doc h' tk hx hgec hlt hrec htb => ?_
  obtain ⟨c₂, oc, vs, t, e2, hoc, hd, hv⟩ := hrec
  cases e2
  -- the heap h' against the ledger
  have old : ∀ b o, h₀.get? b = some o → h'.get? b = some o := fun b o e => hx b o (fun q => by have := D.new i hi; rw [q, this] at e; cases e) (D.up b o e)
  obtain ⟨hl, he⟩ := List.getElem?_eq_some_iff.mp hi
  have hm : (news.set i (P, tabObj (ps ++ #[rawInt pos.line, rawInt pos.col, .ref c']))).map (·.1) = news.map (·.1) := by
    rw [List.map_set]
    refine List.ext_getElem (by simp) fun k h1 h2 => ?_
    by_cases hk : i = k
    · subst hk; simp [he]
    · simp [List.getElem_set, hk]
  have D1 : Lg h₀ h' (news.set i (P, tabObj (ps ++ #[rawInt pos.line, rawInt pos.col, .ref c']))) := by
    refine ⟨old, fun q hq => ?_, by rw [hm]; exact D.ap⟩
    obtain ⟨k, hk, hke⟩ := List.getElem_of_mem hq
    have hk' : k < news.length := by simpa using hk
    by_cases hik : i = k
    · subst hik
      simp only [List.getElem_set_self] at hke
      subst hke
      exact ⟨htb, D.new i hi⟩
    · rw [List.getElem_set_ne hik] at hke
      have hn := D.nw q (hke ▸ List.getElem_mem hk')
      have hne : q.1 ≠ P := by
        intro e
        have hp1 := D.ap
        rw [List.pairwise_iff_getElem] at hp1
        rcases Nat.lt_or_gt_of_ne hik with hlt | hlt
        · have := hp1 i k (by simpa using hl) (by simpa using hk') hlt
          simp only [List.getElem_map, he, hke, e] at this
          exact this rfl
        · have := hp1 k i (by simpa using hk') (by simpa using hl) hlt
          simp only [List.getElem_map, he, hke, e] at this
          exact this rfl
      exact ⟨hx _ _ hne hn.1, hn.2⟩
  have D2 : Lg h₀ h' ((c', oc) :: news.set i (P, tabObj (ps ++ #[rawInt pos.line, rawInt pos.col, .ref c']))) := by
    refine ⟨old, fun q hq => ?_, List.Pairwise.cons (fun b hb => ?_) D1.ap⟩
    · rcases List.mem_cons.mp hq with rfl | hq
      · refine ⟨hoc, ?_⟩
        cases e : h₀.get? c' with
        | none => rfl
        | some o => exact absurd (Heap.lt_size (D.up _ _ e)) (Nat.not_lt_of_le hgec)
      · exact D1.nw q hq
    · rw [hm] at hb
      obtain ⟨q, hq, rfl⟩ := List.mem_map.mp hb
      exact Nat.ne_of_gt (Nat.lt_of_lt_of_le (Heap.lt_size (D.nw q hq).1) hgec)
  refine h _ c' oc vs t ctv doc _ tk (D2.push rfl) ?_ hd hv
  obtain ⟨o, vs', file, tf, flags, tg, inF, text, tt, e1, r⟩ := C
  exact ⟨o, vs', file, tf, flags, tg, inF, text, tt, Heap.get?_push_of_some _ (hx _ _ hcP e1), r⟩
theorem codeHd_at {h h' : Heap} {c P : Addr} {o : Obj} (C : CodeHd h c P) (e1 : h.get? c = some o) (e2 : h'.get? c = some o) : CodeHd h' c P := by
  obtain ⟨a1, a2, a3, a4, a5, a6, a7, a8, a9, e, r⟩ := C
  rw [e1] at e
  cases e
  exact ⟨o, a2, a3, a4, a5, a6, a7, a8, a9, e2, r⟩
/-- a store in a class's block -/
theorem c_store {env : Env} {ns : Addr} {es es' : List DictEntry} {n n' : Nat} {x : Str} {v : Value} {Q : Unit → Shared → Prop} (D : Lg h₀ s.heap news) (j : Nat) (hj : news[j]? = some (ns, dictOf es n)) (hloc : env.locals = ns) (hk : env.scope.kind = .class) (hkind : env.kindOf x = some .local)
    (hl : (getL x es).isSome = true) (e : putL x (PyData.keyHash w.params x) (.str x s.toks) v es = es') (e2 : putN x es n = n')
    (h : ∀ h', Lg h₀ h' (news.set j (ns, dictOf es' n')) → Q () { s with heap := h', toks := s.toks + 1 }) : wpAny (model prog w) A (storeName env x v) Q E s := by
  subst hloc
  unfold storeName
  simp only [hkind, hk]
  show wpAny _ _ (localSet env x v) _ _ _
  unfold localSet
  refine wpAny_bind (wpAny_load (D.at j hj) ?_)
  exact wpAny_ite_true (by rfl) (l_set D j hj hl e e2 h)
end
end Mine
end
theorem Mine.calmCK0 : True := by w_top off; trivial
section
open PySem PySem.W PyProof.Rows PySem.Calls PySem.W.X
open PySem.Builtin
set_option maxRecDepth 100000
set_option maxHeartbeats 4000000
namespace Mine
local macro_rules | `(tactic| x_close) => `(tactic| first | exact ⟨_, _, _, rfl, rfl, by assumption⟩ | exact ⟨_, _, rfl, by first | assumption | exact Mem.start _⟩)
section
variable {w : World} {s : Shared} {A : Around}
theorem prep_ga (X : (hd.heap_1 w.params).In s.heap) {t : Tok} : wpAny (model PySem.Challenge.rw_pd0134_01.row.prog w) A (call (.builtin "type.__getattribute__") [.type "type", .str "__prepare__" t])
    (fun v s' => ∃ a h' tk, v = .ref a ∧ s' = { s with heap := h', toks := tk } ∧ Mem s.heap h' [] [(a, ⟨.type "builtin_function_or_method", none, .fields #[.builtin "type.__prepare__", .type "type"], #[]⟩)]) (fun _ _ => False) s := by
  x_run
theorem en_prep : entryFor table "type.__prepare__" = some Builtin.«type.__prepare__» := entryFor_of_tree (by kernel_rfl)
theorem pl_prep : plainId "type.__prepare__" = true := by decide +kernel
theorem ck_prep (t : Tok) (tp : Addr) : checkBoundCall "type.__prepare__" ⟨[.type "type", .str "K" t, .ref tp], []⟩ = pure () := by kernel_rfl!
theorem prep_call {prog : Program} {E : Value → Shared → Prop} {Q : Value → Shared → Prop} {a tp : Addr} {t : Tok} {h₀ : Heap} {news : List (Addr × Obj)} (D : Lg h₀ s.heap news) (X : (hd.heap_1 w.params).In s.heap) (ha : s.heap.get? a = some ⟨.type "builtin_function_or_method", none, .fields #[.builtin "type.__prepare__", .type "type"], #[]⟩)
    (h : ∀ ns h', Lg h₀ h' ((ns, dictOf [] 0) :: news) → (ns == sysModules) = false → Q (.ref ns) { s with heap := h' }) :
    wpAny (model prog w) A (call (.ref a) [.str "K" t, .ref tp]) Q E s := by
  refine wpAny_call (codeAny_of_tree ?_)
  show wpAny _ A.in1 (callAny (.ref a) ⟨[.str "K" t, .ref tp], []⟩) _ _ s
  unfold callAny
  refine wpAny_bind (wpAny_load ha ?_)
  show wpAny _ _ (checkBoundCall "type.__prepare__" ⟨[.type "type", .str "K" t, .ref tp], []⟩ >>= _) _ _ _
  refine wpAny_bind (wpAny_of_eq (ck_prep t tp) ?_)
  refine wpAny_pure ⟨plainId_quiet pl_prep _, codeAny_builtin en_prep ?_⟩
  show wpAny _ _ (do ret (← newDict)) _ _ _
  refine wpAny_bind (wpAny_newObj_type ?_ (by show 0 ≤ _; (first | lia | omega)))
  refine wpAny_pure (h _ _ (D.push rfl) ?_)
  have h2 : 2 < s.heap.objs.size := Heap.lt_size (X 2 _ (by k_is))
  show (s.heap.objs.size == 1) = false
  simp
  (first | lia | omega)
theorem prep_get (X : (hd.heap_1 w.params).In s.heap) {E : Value → Shared → Prop} {Q : Option Value → Shared → Prop}
    (hq : ∀ a h' tk, Lg s.heap h' [(a, ⟨.type "builtin_function_or_method", none, .fields #[.builtin "type.__prepare__", .type "type"], #[]⟩)] → Q (some (.ref a)) { s with heap := h', toks := tk }) :
    wpAny (model PySem.Challenge.rw_pd0134_01.row.prog w) A (getAttr? (.type "type") "__prepare__") Q E s := by
  have hlk := KF.slot_tga.lookup
  have hT : typeOf (.type "type") = pure (.type "type") := by kernel_rfl
  unfold getAttr? getAttrBy? getAttrBy
  refine wpAny_bind (wpAny_mkText (wpAny_bind (wpAny_attempt (wpAny_holding (wpAny_bind (wpAny_of_eq hT (wpAny_bind (wpAny_of_eq hlk ?_))))))))
  show wpAny _ _ (getAttrByItsOwn (.type "type") (.str "__prepare__" s.toks) (.type "type") (.builtin "type.__getattribute__") false false) _ _ _
  unfold getAttrByItsOwn hookBefore callGetattribute boundAndCalled
  refine wpAny_bind (wpAny_of_eq (show (if onTheHeap (.type "type") then typeLookup (.type "type") "__getattr__" else pure none) = pure none from rfl) ?_)
  refine wpAny_bind (wpAny_attempt (wpAny_holding ?_))
  show wpAny _ _ (bindSpecial (.builtin "type.__getattribute__") (.type "type") >>= _) _ _ _
  refine wpAny_bind (wpAny_of_eq (KF.slot_tga.bind _) ?_)
  refine wpAny_mono (prep_ga (s := { s with toks := s.toks + 1 }) X) (fun v s' hv => ?_) fun _ _ z => z.elim
  obtain ⟨a, h', tk, rfl, rfl, hM⟩ := hv
  exact wpAny_pure (wpAny_pure (hq a h' tk (Lg.of_mem hM)))
end
section
variable {prog : Program} {w : World} {M : Model} {A : Around} {E : Value → Shared → Prop} {s : Shared} {h₀ : Heap} {news : List (Addr × Obj)}
theorem cls_code {env : Env} {c P : Addr} {pos : Pos} {line : Nat} {name qual : Str} {scope : Scope} {Q : Value → Shared → Prop} (D : Lg h₀ s.heap ((P, tabObj #[]) :: news)) (C : CodeHd s.heap c P) (hcode : env.code = .ref c)
    (h : ∀ c' P' oc h' tk, Lg h₀ h' ((c', oc) :: (P', tabObj #[]) :: (P, tabObj #[rawInt pos.line, rawInt pos.col, .ref c']) :: news) → CodeHd h' c' P' → Q (.ref c') { s with heap := h', toks := tk }) :
    wpAny M A (classCode env pos line name qual scope) Q E s := by
  obtain ⟨o, vs, file, tf, flags, tg, inF, text, tt, e1, ec, e3, e4, f3, f4, f5, f6, f7, f11⟩ := C
  have hP := D.at 0 rfl
  unfold classCode codeAt
  rw [hcode, if_neg (show ¬ ((Value.ref c == Value.none) = true) from Bool.false_ne_true)]
  refine wpAny_bind (wpAny_fieldsOf e1 e3 ?_)
  rw [f3]
  refine wpAny_bind (wpAny_fieldsOf hP rfl ?_)
  rw [f4, f5, f6, f7]
  refine wpAny_bind (wpAny_newCodeX fun c' P' h1 tk hk hc hPl hic hta _ => ?_)
  obtain ⟨⟨oc, vc, g1, g2, g3, g4⟩, g5⟩ := hta
  have hcd : CodeHd h1 c' P' := CodeHd.of hic ⟨⟨oc, vc, g1, g2, g3, g4⟩, g5⟩
  have hne : c' ≠ P' := by obtain ⟨_, _, _, _, _, _, _, _, _, _, _, _, _, _, _, _, _, _, n⟩ := hcd; exact n
  have D1 : Lg h₀ h1 ((c', oc) :: (P', tabObj #[]) :: (P, tabObj #[]) :: news) := by
    have lt : ∀ q ∈ (P, tabObj #[]) :: news, q.1 < s.heap.objs.size := fun q hq => Heap.lt_size (D.nw q hq).1
    have fr : ∀ b, s.heap.objs.size ≤ b → h₀.get? b = none := fun b hb => by
      cases e : h₀.get? b with
      | none => rfl
      | some o => exact absurd (Heap.lt_size (D.up _ _ e)) (Nat.not_lt_of_le hb)
    refine ⟨fun b o e => hk _ _ (D.up _ _ e), fun q hq => ?_, ?_⟩
    · rcases List.mem_cons.mp hq with rfl | hq
      · exact ⟨g1, fr _ hc⟩
      · rcases List.mem_cons.mp hq with rfl | hq
        · exact ⟨g5, fr _ hPl⟩
        · exact ⟨hk _ _ (D.nw q hq).1, (D.nw q hq).2⟩
    · refine List.Pairwise.cons (fun b hb => ?_) (List.Pairwise.cons (fun b hb => ?_) D.ap)
      · rcases List.mem_cons.mp hb with rfl | hb
        · exact hne
        · obtain ⟨q, hq, rfl⟩ := List.mem_map.mp hb
          exact Nat.ne_of_gt (Nat.lt_of_lt_of_le (lt q hq) hc)
      · obtain ⟨q, hq, rfl⟩ := List.mem_map.mp hb
        exact Nat.ne_of_gt (Nat.lt_of_lt_of_le (lt q hq) hPl)
  refine wpAny_bind (wpAny_updateFieldsOfTheText (D1.at 2 rfl) rfl ?_)
  have D2 := D1.update (f := Obj.mapFields fun vs => if (codeAmong pos vs.toList).isSome = true then vs else vs ++ #[rawInt pos.line, rawInt pos.col, .ref c']) (o' := tabObj #[rawInt pos.line, rawInt pos.col, .ref c']) 2 rfl (by simp [Obj.mapFields, codeAmong]) rfl
  dsimp only [List.set] at D2
  refine wpAny_bind (wpAny_fieldsOf (D2.at 2 rfl) rfl ?_)
  rw [show codeAmong pos (#[rawInt pos.line, rawInt pos.col, Value.ref c'] : Array Value).toList = some (.ref c') by simp [codeAmong, rawInt]]
  refine wpAny_pure (h c' P' oc _ _ D2 ?_)
  obtain ⟨oc', vs', file', tf', flags', tg', inF', text', tt', u1, ur⟩ := hcd
  rw [g1] at u1
  cases u1
  exact ⟨oc, vs', file', tf', flags', tg', inF', text', tt', D2.at 0 rfl, ur⟩
end
section
variable {prog : Program} {w : World} {A : Around} {E : Value → Shared → Prop} {s : Shared} {h₀ : Heap} {news : List (Addr × Obj)}
/-- a store in a class's block, of a name of the compiler's -/
theorem c_storeN {env : Env} {ns : Addr} {es es' : List DictEntry} {n n' : Nat} {x : Str} {v : Value} {Q : Unit → Shared → Prop} (D : Lg h₀ s.heap news) (j : Nat) (hj : news[j]? = some (ns, dictOf es n)) (hloc : env.locals = ns) (hk : env.scope.kind = .class) (hkind : env.kindOf x = none) (hb : env.blockKind = .class) (hc : compilersOwnNames.contains x = true)
    (hl : (getL x es).isSome = true) (e : putL x (PyData.keyHash w.params x) (.str x s.toks) v es = es') (e2 : putN x es n = n')
    (h : ∀ h', Lg h₀ h' (news.set j (ns, dictOf es' n')) → Q () { s with heap := h', toks := s.toks + 1 }) : wpAny (model prog w) A (storeName env x v) Q E s := by
  subst hloc
  unfold storeName
  simp only [hkind, hk, hb, hc]
  show wpAny _ _ (localSet env x v) _ _ _
  unfold localSet
  refine wpAny_bind (wpAny_load (D.at j hj) ?_)
  exact wpAny_ite_true (by rfl) (l_set D j hj hl e e2 h)
end
end Mine
end
theorem Mine.calmCT : True := by w_top off; trivial
section
open PySem PySem.W PyProof.Rows PySem.Calls PySem.W.X
open PySem.Builtin
set_option maxRecDepth 100000
set_option maxHeartbeats 4000000
namespace Mine
local macro_rules | `(tactic| walk_at "led") => `(tactic| first
  | ((with_reducible show wpAny _ _ (load _) _ _ _); (first | ((with_reducible refine' l_load ?hD ?ix ?hi ?_); (case hD => assumption); (case hi => first | exact (rfl : (_ : List (Addr × Obj))[0]? = _) | exact (rfl : (_ : List (Addr × Obj))[1]? = _) | exact (rfl : (_ : List (Addr × Obj))[2]? = _) | exact (rfl : (_ : List (Addr × Obj))[3]? = _) | exact (rfl : (_ : List (Addr × Obj))[4]? = _) | exact (rfl : (_ : List (Addr × Obj))[5]? = _) | exact (rfl : (_ : List (Addr × Obj))[6]? = _) | exact (rfl : (_ : List (Addr × Obj))[7]? = _) | exact (rfl : (_ : List (Addr × Obj))[8]? = _) | exact (rfl : (_ : List (Addr × Obj))[9]? = _) | exact (rfl : (_ : List (Addr × Obj))[10]? = _) | exact (rfl : (_ : List (Addr × Obj))[11]? = _))) | ((with_reducible refine' o_load ?hD ?ho ?_); (case hD => assumption); (case ho => assumption))))
  | ((with_reducible show wpAny _ _ (loadPart _ _) _ _ _); (first | ((with_reducible refine' l_part ?hD ?ix ?hi ?_); (case hD => assumption); (case hi => first | exact (rfl : (_ : List (Addr × Obj))[0]? = _) | exact (rfl : (_ : List (Addr × Obj))[1]? = _) | exact (rfl : (_ : List (Addr × Obj))[2]? = _) | exact (rfl : (_ : List (Addr × Obj))[3]? = _) | exact (rfl : (_ : List (Addr × Obj))[4]? = _) | exact (rfl : (_ : List (Addr × Obj))[5]? = _) | exact (rfl : (_ : List (Addr × Obj))[6]? = _) | exact (rfl : (_ : List (Addr × Obj))[7]? = _) | exact (rfl : (_ : List (Addr × Obj))[8]? = _) | exact (rfl : (_ : List (Addr × Obj))[9]? = _) | exact (rfl : (_ : List (Addr × Obj))[10]? = _) | exact (rfl : (_ : List (Addr × Obj))[11]? = _))) | ((with_reducible refine' o_part ?hD ?ho ?_); (case hD => assumption); (case ho => assumption))))
  | ((with_reducible show wpAny _ _ (nsGet _ _) _ _ _); (first | ((with_reducible refine' l_get ?hD ?ix ?hi ?e ?_); (case hD => assumption); (case hi => first | exact (rfl : (_ : List (Addr × Obj))[0]? = _) | exact (rfl : (_ : List (Addr × Obj))[1]? = _) | exact (rfl : (_ : List (Addr × Obj))[2]? = _) | exact (rfl : (_ : List (Addr × Obj))[3]? = _) | exact (rfl : (_ : List (Addr × Obj))[4]? = _) | exact (rfl : (_ : List (Addr × Obj))[5]? = _) | exact (rfl : (_ : List (Addr × Obj))[6]? = _) | exact (rfl : (_ : List (Addr × Obj))[7]? = _) | exact (rfl : (_ : List (Addr × Obj))[8]? = _) | exact (rfl : (_ : List (Addr × Obj))[9]? = _) | exact (rfl : (_ : List (Addr × Obj))[10]? = _) | exact (rfl : (_ : List (Addr × Obj))[11]? = _)); (case e => exact rfl)) | ((with_reducible refine' o_get ?hD ?ho ?e ?_); (case hD => assumption); (case ho => assumption); (case e => exact rfl))))
  | ((with_reducible show wpAny _ _ (dictEntries _) _ _ _); (first | ((with_reducible refine' l_entries ?hD ?ix ?hi ?_); (case hD => assumption); (case hi => first | exact (rfl : (_ : List (Addr × Obj))[0]? = _) | exact (rfl : (_ : List (Addr × Obj))[1]? = _) | exact (rfl : (_ : List (Addr × Obj))[2]? = _) | exact (rfl : (_ : List (Addr × Obj))[3]? = _) | exact (rfl : (_ : List (Addr × Obj))[4]? = _) | exact (rfl : (_ : List (Addr × Obj))[5]? = _) | exact (rfl : (_ : List (Addr × Obj))[6]? = _) | exact (rfl : (_ : List (Addr × Obj))[7]? = _) | exact (rfl : (_ : List (Addr × Obj))[8]? = _) | exact (rfl : (_ : List (Addr × Obj))[9]? = _) | exact (rfl : (_ : List (Addr × Obj))[10]? = _) | exact (rfl : (_ : List (Addr × Obj))[11]? = _))) | ((with_reducible refine' o_entries ?hD ?ho ?_); (case hD => assumption); (case ho => assumption))))
  | ((with_reducible show wpAny _ _ (seqItems? _) _ _ _); (first | ((with_reducible refine' l_seq ?hD ?ix ?hi ?_); (case hD => assumption); (case hi => first | exact (rfl : (_ : List (Addr × Obj))[0]? = _) | exact (rfl : (_ : List (Addr × Obj))[1]? = _) | exact (rfl : (_ : List (Addr × Obj))[2]? = _) | exact (rfl : (_ : List (Addr × Obj))[3]? = _) | exact (rfl : (_ : List (Addr × Obj))[4]? = _) | exact (rfl : (_ : List (Addr × Obj))[5]? = _) | exact (rfl : (_ : List (Addr × Obj))[6]? = _) | exact (rfl : (_ : List (Addr × Obj))[7]? = _) | exact (rfl : (_ : List (Addr × Obj))[8]? = _) | exact (rfl : (_ : List (Addr × Obj))[9]? = _) | exact (rfl : (_ : List (Addr × Obj))[10]? = _) | exact (rfl : (_ : List (Addr × Obj))[11]? = _))) | ((with_reducible refine' o_seq ?hD ?ho ?_); (case hD => assumption); (case ho => assumption))))
  | ((with_reducible show wpAny _ _ (alloc _) _ _ _); (with_reducible refine' l_alloc ?hD ?hf ?_); (case hD => assumption); (case hf => rfl); intro _ _ _))

local macro_rules | `(tactic| walk_at "tn") => `(tactic| first
  | with_reducible refine wpAny_bind ?_
  | with_reducible refine wpAny_pure ?_
  | with_reducible refine wpAny_holding ?_
  | with_reducible refine wpAny_rule ?_
  | with_reducible refine wpAny_standAt ?_
  | with_reducible refine wpAny_point ?_
  | with_reducible refine wpAny_letGo ?_
  | with_reducible refine wpAny_attempt ?_
  | with_reducible refine wpAny_onRaise ?_
  | with_reducible refine wpAny_mkText ?_
  | with_reducible refine wpAny_mkInt ?_
  | with_reducible refine wpAny_fresh ?_
  | ((with_reducible show wpAny _ _ (mkStr _) _ _ _); (with_reducible refine' s_str ?_ ?hx); (case hx => rfl))
  | ((with_reducible show wpAny _ _ (ite _ _ _) _ _ _); first | ((with_reducible refine' wpAny_ite_true ?hc ?_); (case hc => kernel_rfl!)) | ((with_reducible refine' wpAny_ite_false ?hc ?_); (case hc => kernel_rfl!)))
  | with_reducible refine wpAny_of_eq (by assumption) ?_
  | with_reducible refine wpAny_isInstance (by assumption) (by assumption) ?_
  | ((with_reducible show wpAny _ _ (extendedBase _) _ _ _); (show wpAny _ _ (extendedBase [.type "object"]) _ _ _); (with_reducible refine wpAny_of_eq ext_obj ?_))
  | ((with_reducible show wpAny _ _ (notOverATurnedClass _) _ _ _); (show wpAny _ _ (notOverATurnedClass [.type "object"]) _ _ _); (with_reducible refine wpAny_of_eq turn_obj ?_))
  | ((with_reducible show wpAny _ _ (Slots.bestBase _) _ _ _); (show wpAny _ _ (Slots.bestBase [.type "object"]) _ _ _); (with_reducible refine wpAny_of_eq best_obj ?_))
  | with_reducible refine wpAny_of_eq snames_obj ?_
  | with_reducible refine wpAny_of_eq gd_obj ?_
  | with_reducible refine wpAny_of_eq gw_obj ?_
  | with_reducible refine wpAny_of_eq vs_obj ?_
  | with_reducible refine wpAny_of_eq it_dict ?_
  | with_reducible refine wpAny_load (by assumption) ?_
  | with_reducible refine wpAny_loadPart (by assumption) ?_
  | ((with_reducible show wpAny _ _ (Sem.tryCatch _ _) _ _ _); refine wpAny_tryCatch ?_)
  | walk_at "led"
  | ((fail_if_success with_reducible show wpAny _ _ (Slots.read _ _ _) _ _ _); (fail_if_success with_reducible show wpAny _ _ (collect _) _ _ _); (fail_if_success with_reducible show wpAny _ _ (setSlotAt _ _ _) _ _ _); (fail_if_success with_reducible show wpAny _ _ (updateCls _ _) _ _ _); (fail_if_success with_reducible show wpAny _ _ (nsDel _ _) _ _ _); (fail_if_success with_reducible show wpAny _ _ (nsSet _ _ _) _ _ _); (fail_if_success with_reducible show wpAny _ _ (nsSetByValue _ _ _) _ _ _); (fail_if_success with_reducible show wpAny _ _ (mroHook? _) _ _ _); (fail_if_success with_reducible show wpAny _ _ (linearize _ _) _ _ _); (fail_if_success with_reducible show wpAny _ _ (Bind.madeBy _) _ _ _); (fail_if_success with_reducible show wpAny _ _ (noteSubclassOfBuiltin _ _) _ _ _); (fail_if_success with_reducible show wpAny _ _ (typeLookup _ _) _ _ _); (fail_if_success with_reducible show wpAny _ _ (List.anyM _ _) _ _ _); (fail_if_success with_reducible show wpAny _ _ (call _ _ _) _ _ _); (fail_if_success with_reducible show wpAny _ _ (nsGet _ _) _ _ _); (fail_if_success with_reducible show wpAny _ _ (eval _ _) _ _ _); (fail_if_success with_reducible show wpAny _ _ (evalArgs _ _ _ _) _ _ _); (fail_if_success with_reducible show wpAny _ _ (storeName _ _ _) _ _ _); (fail_if_success with_reducible show wpAny _ _ (loadName _ _) _ _ _); (fail_if_success with_reducible show wpAny _ _ (classCode _ _ _ _ _ _) _ _ _); (fail_if_success with_reducible show wpAny _ _ (builtinsFor _ _) _ _ _); (fail_if_success with_reducible show wpAny _ _ (enterFrame _) _ _ _); (fail_if_success with_reducible show wpAny _ _ (run _ _) _ _ _); (fail_if_success with_reducible show wpAny _ _ (getAttr? _ _) _ _ _); (fail_if_success with_reducible show wpAny _ _ (exec _ _) _ _ _); (fail_if_success with_reducible show wpAny _ _ (execs _ _) _ _ _); (fail_if_success with_reducible show wpAny _ _ (bindName _ _ _) _ _ _); (fail_if_success with_reducible show wpAny _ _ (getAttr _ _ _) _ _ _); wp_delta)
  | with_reducible_and_instances refine wpAny_pure ?_
  | with_reducible_and_instances refine wpAny_bind ?_)
theorem made_type : Bind.madeBy (.type "type") = pure (some "type.__new__") := by kernel_rfl
theorem mro_type : mroOf (.type "type") = pure [.type "type", .type "object"] := by rw [mroOf_type]; kernel_rfl
theorem slot_type_init : Slot "type" "__init__" "type.__init__" := .of (owner := "type") (n := "__init__") (by rw [typeLookup_type, builtinLookup_eq_fast]; kernel_rfl) (by decide +kernel) (by decide +kernel) (by decide +kernel)
    (by first | exact .inl (by decide +kernel) | exact .inr (by decide +kernel)) (by rw [isSubtype_type]; kernel_rfl)
theorem en_type_init : entryFor table "type.__init__" = some Builtin.«type.__init__» := entryFor_of_tree (by kernel_rfl)
theorem ar_type_init (a b c d : Value) : argsOk "type.__init__" ⟨[a, b, c, d], []⟩ := by unfold argsOk; kernel_rfl
theorem en_type_new : entryFor table "type.__new__" = some Builtin.«type.__new__» := entryFor_of_tree (by kernel_rfl)
theorem pl_type_new : plainId "type.__new__" = true := by decide +kernel
theorem nc_type_new (t : Tok) (tp ns : Addr) : checkBuiltinCall "type.__new__" ⟨[.type "type", .str "K" t, .ref tp, .ref ns], []⟩ = pure () := by kernel_rfl!
section
variable {w : World} {s : Shared} {A : Around} {E : Value → Shared → Prop}
theorem call_type3 {prog : Program} {tp ns : Addr} {t : Tok} {Q : Value → Shared → Prop}
    (h : wpAny (model prog w) A.in1.in1 (Builtin.«type.__new__» ⟨[.type "type", .str "K" t, .ref tp, .ref ns], []⟩) (fun fin s' => ∃ C, fin = .done (.ret (.ref C)) ∧ s'.TypeIs (.ref C) "type" ∧ Q (.ref C) s') (fun _ _ => False) s) :
    wpAny (model prog w) A (call (.type "type") [.str "K" t, .ref tp, .ref ns]) Q E s := by
  refine wpAny_call (codeAny_of_tree ?_)
  show wpAny _ _ (callAny (.type "type") _) _ _ _
  refine wpAny_pure ⟨Code.quiet_builtin _ (by decide +kernel), codeAny_builtin F.entry_type_call ?_⟩
  rw [Around.under_plain (weight_type_call_type "type" _ []) rfl]
  have e1 := made_type
  have e2 := mro_type
  have e3 : checkTypeCall "type" ⟨[.str "K" t, .ref tp, .ref ns], []⟩ = pure () := by kernel_rfl!
  have e4 : isSubtype (.type "type") (.type "type") = pure true := by rw [isSubtype_type]; kernel_rfl
  w_strict (repeat (walk_at "tn"))
  refine wpAny_call (codeAny_of_tree ?_)
  show wpAny _ _ (do checkBuiltinCall "type.__new__" ⟨[.type "type", .str "K" t, .ref tp, .ref ns], []⟩; again (.builtin "type.__new__" ⟨[.type "type", .str "K" t, .ref tp, .ref ns], []⟩)) _ _ s
  refine wpAny_bind (wpAny_of_eq (nc_type_new t tp ns) (wpAny_pure ⟨plainId_quiet pl_type_new _, codeAny_builtin en_type_new ?_⟩))
  rw [Around.under_plainId pl_type_new _]
  refine wpAny_mono h (fun fin s' hv => ?_) fun _ _ z => z.elim
  obtain ⟨C, rfl, hT, hq⟩ := hv
  refine wpAny_bind (wpAny_isInstance hT e4 ?_)
  refine wpAny_ite_false (by rfl) ?_
  refine wpAny_bind (wpAny_holding ?_)
  refine wpAny_callSpecial?_slot (name := Str.ofString "__init__") hT slot_type_init (wpAny_call_entry slot_type_init hT en_type_init ?_ (ar_type_init _ _ _ _))
  w_strict (repeat (walk_at "tn"))
  refine ⟨_, rfl, ?_⟩
  w_strict (repeat (walk_at "tn"))
  exact hq
end
theorem tn2 {w : World} {s : Shared} {A : Around} (X : (hd.heap_1 w.params).In s.heap) (hth : nsIn (hd.heap_1 w.params) cStatics "thirdparty.any" = some none) (hA : A.handled = none) (hdep : A.depth ≤ 915) (hun : A.units ≤ 9190)
   {h0 h1 h2 h3 h4 h5 h6 h7 h8 h9 h10 h11 : Int} {t0 t1 t2 t3 t4 t5 t6 t7 t8 t9 t10 t11 : Tok} {tm tq tf tk tsl tto : Tok} {tt sl f1 f2 f3 f4 f5 f6 tp ns : Addr} {d1 d2 d3 d4 d5 d6 : FuncData} {Q : PySem.Fin → Shared → Prop} (hsm : (ns == sysModules) = false)
   (g1 : s.heap.get? tt = some (tupObj #[.str "obj" tto])) (g2 : s.heap.get? f6 = some (fnO d6)) (g3 : s.heap.get? f5 = some (fnO d5)) (g4 : s.heap.get? f4 = some (fnO d4)) (g5 : s.heap.get? f3 = some (fnO d3)) (g6 : s.heap.get? f2 = some (fnO d2)) (g7 : s.heap.get? f1 = some (fnO d1))
   (g8 : s.heap.get? sl = some (lstObj [.str "obj" tsl])) (g9 : s.heap.get? ns = some (dictOf [⟨h0, .str "__module__" t0, .str "cpy313.functools" tm⟩, ⟨h1, .str "__qualname__" t1, .str "cmp_to_key.<locals>.K" tq⟩, ⟨h2, .str "__firstlineno__" t2, .int 118 tf⟩, ⟨h3, .str "__slots__" t3, .ref sl⟩, ⟨h4, .str "__init__" t4, .ref f1⟩, ⟨h5, .str "__lt__" t5, .ref f2⟩, ⟨h6, .str "__gt__" t6, .ref f3⟩, ⟨h7, .str "__eq__" t7, .ref f4⟩, ⟨h8, .str "__le__" t8, .ref f5⟩, ⟨h9, .str "__ge__" t9, .ref f6⟩, ⟨h10, .str "__hash__" t10, .none⟩, ⟨h11, .str "__static_attributes__" t11, .ref tt⟩] 12)) (g10 : s.heap.get? tp = some (tupObj #[.type "object"]))
   (hQ : ∀ C ns2 md es t1 k sl h' tk', Lg s.heap h' [(md, mdO C t1), (C, clsO "K" "cmp_to_key.<locals>.K" C ns2 [.ref C, .type "object"] false ["obj"] sl), (ns2, dictOf es k)] → (sl.toList[4]?).join = some (.builtin "object.__new__") →
       getL "__init__" es = some (some (.ref f1)) → getL "__lt__" es = some (some (.ref f2)) → getL "obj" es = some (some (.ref md)) → getL "__getattribute__" es = some none → getL "__getattr__" es = some none → getL "__setattr__" es = some none → Q (.done (.ret (.ref C))) { s with heap := h', toks := tk' }) :
   wpAny (model PySem.Challenge.rw_pd0134_01.row.prog w) A (Builtin.«type.__new__» ⟨[.type "type", .str "K" tk, .ref tp, .ref ns], []⟩) Q (fun _ _ => False) s :=
  tn (hs := fun i => [h0, h1, h2, h3, h4, h5, h6, h7, h8, h9, h10, h11].getD i.val 0) (ts := fun i => [t0, t1, t2, t3, t4, t5, t6, t7, t8, t9, t10, t11].getD i.val 0) X hth hA hdep hun hsm g1 g2 g3 g4 g5 g6 g7 g8 g9 g10 fun C ns2 md ho hd to td t1 k h' tk' D =>
    hQ C ns2 md _ t1 k _ h' tk' D rfl rfl rfl rfl rfl rfl rfl
section
theorem calmCE : True := by w_top off; trivial
theorem end_up {h₁ h27 h28 : Heap} {n1 n2 : List (Addr × Obj)} (D : Lg (ghostOf h₁ [(126, 122)]) h27 n1) (D' : Lg h27 h28 n2) : KeepB [122] h₁ h28 :=
  fun _ _ hb e => D'.up _ _ (D.up _ _ (hideAll_get _ e hb))
theorem end_122 {s₀ : Heap} {L : Addr} {h₁ : Heap} {m : Str → Option Value} (hT : TabsAt [(126, 122)] s₀) (F : Fr s₀ L h₁ m) : L ∉ [122] := fun q => by
  have h9 := Heap.lt_size (hT _ (.head _)).2
  rw [List.mem_singleton.mp q] at F
  exact absurd (Nat.lt_of_lt_of_le h9 F.above) (Nat.lt_irrefl _)
theorem end_ns {s₀ h₁ h28 : Heap} {L : Addr} {m : Str → Option Value} (hT : TabsAt [(126, 122)] s₀) (F : Fr s₀ L h₁ m) (k : KeepB [122] h₁ h28) : h28.Ns L m :=
  F.ns.at fun o e => k _ o (end_122 hT F) e
theorem end_keep {s₀ h₁ h28 h29 : Heap} {L : Addr} {m : Str → Option Value} (F : Fr s₀ L h₁ m) (k : KeepB [122] h₁ h28) (hs : Heap.SameBut L h28 h29) : KeepB [122] s₀ h29 :=
  fun b o hb e => hs.extBut b o (Nat.ne_of_lt (Nat.lt_of_lt_of_le (Heap.lt_size e) F.above)) (k b o hb (F.keep b o e))
theorem end_kat {s₀ h₁ h27 h28 h29 : Heap} {L : Addr} {m : Str → Option Value} {n1 : List (Addr × Obj)} {f C ns md f1 f2 c1 c2 : Addr} {o1 o2 oc : Obj} {es : List DictEntry} {k : Nat} {sl : Array (Option Value)} {t1 u1 u2 : Tok} {v1 v2 : Array Value} {doc1 pm1 ct1 doc2 pm2 ct2 : Value} {p0 p1 p2 p3 p4 p5 q0 q1 q2 q3 q4 q5 q6 q7 q8 q9 q10 : Pos}
    (hT : TabsAt [(126, 122)] s₀) (F : Fr s₀ L h₁ m) (hs : Heap.SameBut L h28 h29)
    (D : Lg (ghostOf h₁ [(126, 122)]) h27 n1) (D' : Lg h27 h28 [(md, mdO C t1), (C, clsO "K" "cmp_to_key.<locals>.K" C ns [.ref C, .type "object"] false ["obj"] sl), (ns, dictOf es k)])
    (i1 j1 i2 j2 : Nat) (e1 : n1[i1]? = some (f1, fnO (initFd doc1 pm1 ct1 c1 p0 p1 p2 p3 p4 p5))) (e2 : n1[j1]? = some (c1, o1)) (e3 : n1[i2]? = some (f2, fnO (ltFd doc2 pm2 ct2 c2 (L + 1) q0 q1 q2 q3 q4 q5 q6 q7 q8 q9 q10))) (e4 : n1[j2]? = some (c2, o2)) (hij : i1 ≠ i2)
    (y1 : o1.data = .fields v1) (z1 : v1[1]? = some (.str "cmp_to_key.<locals>.K.__init__" u1)) (y2 : o2.data = .fields v2) (z2 : v2[1]? = some (.str "cmp_to_key.<locals>.K.__lt__" u2))
    (hc : h₁.get? (L + 1) = some oc) (hcd : oc.data = .cell (some (.ref f)))
    (a2 : (sl.toList[4]?).join = some (.builtin "object.__new__")) (b1 : getL "__init__" es = some (some (.ref f1))) (b2 : getL "__lt__" es = some (some (.ref f2))) (b3 : getL "obj" es = some (some (.ref md))) (b4 : getL "__getattribute__" es = some none) (b5 : getL "__getattr__" es = some none) (b6 : getL "__setattr__" es = some none) : KAt h29 f C := by
  have k28 := end_up D D'
  have hL := end_122 hT F
  obtain ⟨oL, _, _, hoL, _⟩ := F.ns
  have gL : (ghostOf h₁ [(126, 122)]).get? L = some oL := hideAll_get _ hoL hL
  have lL : h27.get? L = some oL := D.up _ _ gL
  have up29 : ∀ b o, b ≠ L → h28.get? b = some o → h29.get? b = some o := fun b o hb e => hs.extBut b o hb e
  have nL1 : ∀ i a o, n1[i]? = some (a, o) → a ≠ L := fun i a o hi q => by have := D.new i hi; rw [q, gL] at this; cases this
  have nw : ∀ i a o, n1[i]? = some (a, o) → h29.get? a = some o := fun i a o hi => up29 _ _ (nL1 i a o hi) (D'.up _ _ (D.at i hi))
  have mw : ∀ (i : Nat) (a : Addr) (o : Obj), [(md, mdO C t1), (C, clsO "K" "cmp_to_key.<locals>.K" C ns [.ref C, .type "object"] false ["obj"] sl), (ns, dictOf es k)][i]? = some (a, o) → h29.get? a = some o := fun i a o hi => up29 _ _ (fun q => by have := D'.new i hi; rw [q, lL] at this; cases this) (D'.at i hi)
  have x12 : ∀ (i j : Nat) (a b : Addr) (o o' : Obj), [(md, mdO C t1), (C, clsO "K" "cmp_to_key.<locals>.K" C ns [.ref C, .type "object"] false ["obj"] sl), (ns, dictOf es k)][i]? = some (a, o) → n1[j]? = some (b, o') → a ≠ b := fun i j a b o o' hi hj q => by
    have := D'.new i hi
    rw [q, D.at j hj] at this; cases this
  have hL1 : L + 1 ∉ [122] := fun q => by
    have h9 := Heap.lt_size (hT _ (.head _)).2
    have h8 := F.above
    have : L + 1 = 122 := List.mem_singleton.mp q
    have h7 : (122 : Nat) < L := Nat.lt_of_lt_of_le h9 h8
    exact Nat.lt_irrefl _ (Nat.lt_trans h7 (Nat.lt_of_succ_le (Nat.le_of_eq this)))
  refine ⟨fun i => [ns, md, f1, f2, c1, c2, L + 1].getD i 0, fun i => [doc1, pm1, ct1, doc2, pm2, ct2].getD i .none, fun i => [p0, p1, p2, p3, p4, p5, q0, q1, q2, q3, q4, q5, q6, q7, q8, q9, q10].getD i p0, es, k, sl, t1, mw 1 _ _ rfl, a2, mw 2 _ _ rfl, b1, b2, b3, b4, b5, b6, mw 0 _ _ rfl, nw _ _ _ e1, nw _ _ _ e3,
    ⟨_, _, _, _, rfl, nw _ _ _ e2, y1, z1⟩, ⟨_, _, _, _, rfl, nw _ _ _ e4, y2, z2⟩, ⟨oc, up29 _ _ (Nat.succ_ne_self L) (k28 _ _ hL1 hc), hcd⟩, (?_ : [C, ns, md, f1, f2].Nodup)⟩
  have n1' := D'.ne' 1 2 rfl rfl (by decide)
  have n2' := D'.ne' 1 0 rfl rfl (by decide)
  have n3' := D'.ne' 2 0 rfl rfl (by decide)
  have n4' := D.ne' i1 i2 e1 e3 hij
  simp only [List.nodup_cons, List.mem_cons, List.not_mem_nil, or_false, not_or, not_false_eq_true, List.nodup_nil, and_true]
  exact ⟨⟨n1', n2', x12 1 _ _ _ _ _ rfl e1, x12 1 _ _ _ _ _ rfl e3⟩, ⟨n3', x12 2 _ _ _ _ _ rfl e1, x12 2 _ _ _ _ _ rfl e3⟩, ⟨x12 0 _ _ _ _ _ rfl e1, x12 0 _ _ _ _ _ rfl e3⟩, n4'⟩
end
section
theorem calmCK : True := by w_top off; trivial

section
variable {w : World} {s : Shared} {A : Around} {Q E : Value → Shared → Prop}
theorem ck {f : Addr} (O : Ok w s.heap) (r : Room A 20) (hT : TabsAt [(126, 122)] s.heap) (hQ : ∀ C h' tk, KAt h' f C → KeepB [122] s.heap h' → GrownAt 122 h' → Q (.ref C) { s with heap := h', toks := tk }) :
    wpAny (model PySem.Challenge.rw_pd0134_01.row.prog w) A (call (.ref 127) [.ref f]) Q E s := by
  obtain ⟨p, loose, mean, mg, mb, T⟩ := O.T
  refine enterC (n := 19) O r (by k_is) (by k_is) (BindsTo.of_eq rfl) rfl (by decide +kernel) ?_
  intro dp un L h₁ tk cells hd hu F N Y X
  k_cells Y
  (try simp only [List.cons_append, List.nil_append] at N)
  refine wpAny_execs_cons ?_
  rw [arm_exec_ClassDef]
  w_strict (repeat (walk_at "tn"))
  refine wpAny_nsGet (T.b.keeps F.keep) ?_
  rw [T.builtins _ (by decide +kernel), show bootBuiltins "__build_class__" = some (.builtin "__build_class__") by kernel_rfl]
  w_strict (repeat (walk_at "tn"))
  unfold evalArgs
  show wpAny _ _ (spliced _ >>= _) _ _ _
  refine wpAny_bind ?_
  w_strict (iterate 3 walk1)
  have hT1 : TabsAt [(126, 122)] h₁ := fun q hq => ⟨(hT q hq).1.keeps F.keep, F.keep _ _ (hT q hq).2⟩
  have Xg : (Mine.hd.heap_1 w.params).In (ghostOf h₁ [(126, 122)]) := ghost_K hT1 (X.keeps F.keep) (by kernel_rfl)
  have Tg := ghost_top hT1 (T.keeps F.keep)
  have D0 : Lg (ghostOf h₁ [(126, 122)]) h₁ [(122, tabObj #[])] :=
    ⟨fun b o e => of_hideAll _ e, fun q hq => by rw [List.mem_singleton.mp hq]; exact ⟨(hT1 _ (.head _)).2, hideAll_none _ (.head _)⟩, List.pairwise_singleton _ _⟩
  have C0 : CodeHd h₁ 126 122 := (hT1 _ (.head _)).1
  have e3 : isSubtype (.type "type") (.type "type") = pure true := by rw [isSubtype_type]; kernel_rfl
  have e4 : typeOf (.type "object") = pure (.type "type") := by kernel_rfl
  w_strict (repeat (walk_at "tn"))
  rename_i tp h2 D2
  have Cg : CodeHd (ghostOf h₁ [(126, 122)]) 126 122 := (ghost_code hT1).1
  refine prep_get (Xg.keeps D2.up) ?_
  intro pm h3 tk3 D3'
  have D3 := D2.trans D3'
  dsimp only [List.cons_append, List.nil_append] at D3
  w_strict (repeat (walk_at "tn"))
  refine prep_call D3 (Xg.keeps D3.up) (D3.at 0 rfl) ?_
  intro ns h4 D4 hsm
  have k_dg : typeLookup (.type "dict") "__getitem__" = pure (some (.builtin "dict.__getitem__")) := by rw [typeLookup_type, builtinLookup_eq_fast]; kernel_rfl
  w_strict (repeat (walk_at "tn"))
  refine wpAny_ite_false (by rw [hsm]; decide) ?_
  w_strict (repeat (walk_at "tn"))
  have D4' : Lg (ghostOf h₁ [(126, 122)]) h4 [(122, tabObj #[]), (ns, dictOf [] 0), (tp, tupObj #[.type "object"])] := D4.pick [3, 0, 2] (by decide) rfl
  refine cls_code D4' (Cg.keeps D4.up) rfl ?_
  intro cc P oc h5 tk5 D5 C5
  obtain ⟨bm, ob, b1, b2, b3, b4, b5, b6⟩ := Tg.bmain
  w_strict (repeat (walk_at "tn"))
  refine wpAny_builtinsFor (Tg.g.keeps D5.up) b1 b2 (D5.up _ _ b3) b4 b5 b6 ?_
  w_strict (repeat (walk_at "tn"))
  refine wpAny_nsGet (Tg.g.keeps D5.up) ?_
  rw [mg_of Xg Tg.g (n := "__name__") (by k_is)]
  w_strict (repeat (walk_at "tn"))
  rename_i fr h6 D6
  refine wpAny_enterFrame (Tg.nolimit.keeps D6.up) (by show dp < 1000; (first | lia | omega)) ?_
  w_strict (repeat (walk_at "tn"))
  unfold loadName
  w_strict (repeat (walk_at "tn"))
  refine wpAny_nsGet (Tg.g.keeps D6.up) ?_
  rw [mg_of Xg Tg.g (n := "__name__") (by k_is)]
  w_strict (repeat (walk_at "tn"))
  refine c_store (es' := [_]) (n' := 1) D6 4 rfl rfl rfl (by rfl) rfl rfl rfl ?_
  intro h7 D7
  dsimp only [List.set] at D7
  w_strict (repeat (walk_at "tn"))
  refine c_storeN (es' := [_, _]) (n' := 2) D7 4 rfl rfl rfl (by rfl) (by rfl) (by decide +kernel) rfl rfl rfl ?_
  intro h8 D8
  dsimp only [List.set] at D8
  w_strict (repeat (walk_at "tn"))
  refine c_storeN (es' := [_, _, _]) (n' := 3) D8 4 rfl rfl rfl (by rfl) (by rfl) (by decide +kernel) rfl rfl rfl ?_
  intro h9 D9
  dsimp only [List.set] at D9
  w_strict (repeat (walk_at "tn"))
  refine wpAny_run (codeAny_of_tree ?_)
  show wpAny _ _ (do blockStart _ _; return Fin.done (← Sem.onRaise (execs _ _) (leaving _))) _ _ _
  w_strict (repeat (walk_at "tn"))
  refine wpAny_execs_cons ?_
  w_strict (iterate 2 walk1)
  refine c_store (es' := [_, _, _]) (n' := 3) D9 4 rfl rfl rfl (by rfl) rfl rfl rfl ?_
  intro h10 D10
  dsimp only [List.set] at D10
  refine wpAny_execs_cons ?_
  w_strict (repeat walk1)
  w_strict (repeat (walk_at "tn"))
  rename_i sl h11 D11
  have C11 : CodeHd h11 cc P := codeHd_at C5 (D5.at 0 rfl) (D11.at 2 rfl)
  refine c_store (es' := [_, _, _, _]) (n' := 4) D11 5 rfl rfl rfl (by rfl) rfl rfl rfl ?_
  intro h12 D12
  dsimp only [List.set] at D12
  have C12 : CodeHd h12 cc P := codeHd_at C11 (D11.at 2 rfl) (D12.at 2 rfl)
  refine wpAny_execs_cons ?_
  refine nestDef_K rfl rfl rfl ?_
  refine mk_fun Tg D12 3 rfl C12 rfl rfl rfl (by simp [TriplesOk, rawInt]) (by simp [codeAmong, rawInt]) ?_
  intro f1 c1 o1 v1 t1 ct1 dc1 h13 tk13 D13 C13 y1 z1
  dsimp only [List.set] at D13
  refine c_store (es' := [_, _, _, _, _]) (n' := 5) D13 7 rfl rfl rfl (by rfl) rfl rfl rfl ?_
  intro h14 D14
  dsimp only [List.set] at D14
  have C14 : CodeHd h14 cc P := codeHd_at C13 (D13.at 4 rfl) (D14.at 4 rfl)
  refine wpAny_execs_cons ?_
  refine nestDef_K rfl rfl rfl ?_
  refine mk_fun Tg D14 5 rfl C14 rfl rfl rfl (by simp [TriplesOk, rawInt]) (by simp [codeAmong, rawInt]) ?_
  intro f2 c2 o2 v2 t2 ct2 dc2 h15 tk15 D15 C15 y2 z2
  dsimp only [List.set] at D15
  refine c_store (es' := [_, _, _, _, _, _]) (n' := 6) D15 9 rfl rfl rfl (by rfl) rfl rfl rfl ?_
  intro h16 D16
  dsimp only [List.set] at D16
  have C16 : CodeHd h16 cc P := codeHd_at C15 (D15.at 6 rfl) (D16.at 6 rfl)
  refine wpAny_execs_cons ?_
  refine nestDef_K rfl rfl rfl ?_
  refine mk_fun Tg D16 7 rfl C16 rfl rfl rfl (by simp [TriplesOk, rawInt]) (by simp [codeAmong, rawInt]) ?_
  intro f3 c3 o3 v3 t3 ct3 dc3 h17 tk17 D17 C17 y3 z3
  dsimp only [List.set] at D17
  refine c_store (es' := [_, _, _, _, _, _, _]) (n' := 7) D17 11 rfl rfl rfl (by rfl) rfl rfl rfl ?_
  intro h18 D18
  dsimp only [List.set] at D18
  have C18 : CodeHd h18 cc P := codeHd_at C17 (D17.at 8 rfl) (D18.at 8 rfl)
  refine wpAny_execs_cons ?_
  refine nestDef_K rfl rfl rfl ?_
  refine mk_fun Tg D18 9 rfl C18 rfl rfl rfl (by simp [TriplesOk, rawInt]) (by simp [codeAmong, rawInt]) ?_
  intro f4 c4 o4 v4 t4 ct4 dc4 h19 tk19 D19 C19 y4 z4
  dsimp only [List.set] at D19
  refine c_store (es' := [_, _, _, _, _, _, _, _]) (n' := 8) D19 13 rfl rfl rfl (by rfl) rfl rfl rfl ?_
  intro h20 D20
  dsimp only [List.set] at D20
  have C20 : CodeHd h20 cc P := codeHd_at C19 (D19.at 10 rfl) (D20.at 10 rfl)
  refine wpAny_execs_cons ?_
  refine nestDef_K rfl rfl rfl ?_
  refine mk_fun Tg D20 11 rfl C20 rfl rfl rfl (by simp [TriplesOk, rawInt]) (by simp [codeAmong, rawInt]) ?_
  intro f5 c5 o5 v5 t5 ct5 dc5 h21 tk21 D21 C21 y5 z5
  dsimp only [List.set] at D21
  refine c_store (es' := [_, _, _, _, _, _, _, _, _]) (n' := 9) D21 15 rfl rfl rfl (by rfl) rfl rfl rfl ?_
  intro h22 D22
  dsimp only [List.set] at D22
  have C22 : CodeHd h22 cc P := codeHd_at C21 (D21.at 12 rfl) (D22.at 12 rfl)
  refine wpAny_execs_cons ?_
  refine nestDef_K rfl rfl rfl ?_
  refine mk_fun Tg D22 13 rfl C22 rfl rfl rfl (by simp [TriplesOk, rawInt]) (by simp [codeAmong, rawInt]) ?_
  intro f6 c6 o6 v6 t6 ct6 dc6 h23 tk23 D23 C23 y6 z6
  dsimp only [List.set] at D23
  refine c_store (es' := [_, _, _, _, _, _, _, _, _, _]) (n' := 10) D23 17 rfl rfl rfl (by rfl) rfl rfl rfl ?_
  intro h24 D24
  dsimp only [List.set] at D24
  refine wpAny_execs_cons ?_
  w_strict (iterate 2 walk1)
  refine c_store (es' := [_, _, _, _, _, _, _, _, _, _, _]) (n' := 11) D24 17 rfl rfl rfl (by rfl) rfl rfl rfl ?_
  intro h25 D25
  dsimp only [List.set] at D25
  have D25' : Lg (ghostOf h₁ [(126, 122)]) h25 [(f6, _), (f5, _), (f4, _), (f3, _), (c2, o2), (f2, _), (f1, _), (c1, o1), (sl, _), (ns, _), (tp, _), (122, _)] := D25.pick [0, 2, 4, 6, 9, 8, 10, 11, 12, 17, 18, 16] (by decide) rfl
  clear D10 D11 C11 D12 C12 D13 C13 D14 C14 D15 C15 D16 C16 D17 C17 D18 C18 D19 C19 D20 C20 D21 C21 D22 C22 D23 C23 D24 D25 D2 D3 D3' D4 D4' D5 C5 D6 D7 D8 D9
  refine wpAny_execs_nil ?_
  w_strict (repeat (walk_at "tn"))
  rename_i tt h26 D26
  refine c_storeN (es' := [_, _, _, _, _, _, _, _, _, _, _, _]) (n' := 12) D26 10 rfl rfl rfl (by rfl) (by rfl) (by decide +kernel) rfl rfl rfl ?_
  intro h27 D27
  dsimp only [List.set] at D27
  w_strict (repeat (walk_at "tn"))
  have X27 : (Mine.hd.heap_1 w.params).In h27 := Xg.keeps D27.up
  refine call_type3 ?_
  refine tn2 X27 (by k_is) rfl (by show dp ≤ 915; (first | lia | omega)) (by show un + 1 + 1 ≤ 9190; (first | lia | omega)) hsm (D27.at 0 rfl) (D27.at 1 rfl) (D27.at 2 rfl) (D27.at 3 rfl) (D27.at 4 rfl) (D27.at 6 rfl) (D27.at 7 rfl) (D27.at 9 rfl) (D27.at 10 rfl) (D27.at 11 rfl) ?_
  intro C ns2 md es t1 k sl' h28 tk28 D28 b1 b2 b3 b4 b5 b6 b7
  refine ⟨C, rfl, ⟨_, D28.at 1 rfl, rfl⟩, ?_⟩
  w_strict (repeat (walk_at "tn"))
  refine wpAny_bindName (wpAny_storeName_local (by rfl) (end_ns hT F (end_up D27 D28)) (fun h29 hn29 hs29 => ?_) (by rfl))
  refine wpAny_pure ?_
  refine wpAny_execs_cons (wpAny_Return_some ?_)
  refine wpAny_Name (wpAny_loadName_local (by rfl) (by rfl) hn29 (by rfl) ?_) (by decide +kernel)
  exact hQ C h29 _ (end_kat hT F hs29 D27 D28 7 8 6 5 rfl rfl rfl rfl (by decide) y1 z1 y2 z2 (N _ (.head _)).1 (by assumption) b1 b2 b3 b4 b5 b6 b7) (end_keep F (end_up D27 D28) hs29) ⟨_, (hs29.2 122 (fun q => end_122 hT F (List.mem_singleton.mpr q.symm))).trans (D28.up _ _ (D27.at 12 rfl))⟩
end
end
end Mine
end
theorem Mine.calmV0 : True := by w_top off; trivial
section
open PySem PySem.W PyProof.Rows PySem.Calls
open PySem.Builtin
set_option maxRecDepth 100000
set_option maxHeartbeats 4000000
set_option linter.unusedVariables false
namespace Mine
section
variable {w : World} {s : Shared} {A : Around} {Q E : Value → Shared → Prop} {env : Env}
theorem sum_c {l : Addr} {its : Array Value} {ds : List Nat} (hh : A.handled = none) (hl : s.heap.IsList l its) (hi : IntsAre its.toList (intsL ds))
    (h : ∀ h' tk t', Keep s.heap h' → Q (.int ((ds.sum : Nat) : Int) t') { s with heap := h', toks := tk }) : wpAny (mdl w) A (call (.builtin "sum") [.ref l]) Q E s := by
  obtain ⟨xs, hx⟩ := hi.allInts.items
  rw [Array.toArray_toList] at hx
  subst hx
  refine sum_intListG hh hl fun h' tk t' hk => ?_
  have e1 : intsL ds = xs.toList.map (·.1) := by
    rw [← nums_intItems]
    exact (show numsOf (intItems xs).toList = intsL ds from hi.numsOf).symm
  have e2 : preSum (numAt xs) xs.size = ((ds.sum : Nat) : Int) := by
    rw [preSum_eq, List.take_of_length_le (by simp), ← e1]
    have : ∀ ds : List Nat, (intsL ds).sum = ((ds.sum : Nat) : Int) := by
      intro ds
      induction ds with
      | nil => rfl
      | cons d r ih => show (d : Int) + (intsL r).sum = _; rw [ih, List.sum_cons]; push_cast; rfl
    exact this ds
  rw [e2]
  exact h h' tk t' hk
theorem ne_same {l b : Addr} {us ws : List Value} {ls : List (List UInt8)} (hl : s.heap.IsList l us.toArray) (hb : s.heap.IsList b ws.toArray) (hu : BytesAre us ls) (hw : BytesAre ws ls) (hA : A.units < 9900)
    (h : Q (.bool false) s) : wpAny (mdl w) A (compareOp .NotEq (.ref l) (.ref b)) Q E s := by
  show wpAny _ _ (richCompare .NotEq (.ref l) (.ref b)) Q E s
  have hlen : us.length = ws.length := by rw [hu.length, hw.length]
  refine (SeqAt.RcNeAt.lists (e := fun _ => true) hl hb (by simpa using hlen) hA fun j h1 h2 => ?_) _ _ _ _ ?_
  · intro prog w E Q hq
    have h1' : j < us.length := by simpa using h1
    have h2' : j < ws.length := by simpa using h2
    obtain ⟨b1, t1, e1, l1⟩ := hu.get h1'
    obtain ⟨b2, t2, e2, l2⟩ := hw.get h2'
    have g1 : us.toArray[j] = .bytes b1 t1 := by
      rw [List.getElem?_eq_getElem h1'] at e1; simpa using Option.some.inj e1
    have g2 : ws.toArray[j] = .bytes b2 t2 := by
      rw [List.getElem?_eq_getElem h2'] at e2; simpa using Option.some.inj e2
    rw [g1, g2]
    refine eqb_bytes ?_
    have : b1.toList = b2.toList := by rw [l1] at l2; exact Option.some.inj l2
    rw [decide_eq_true this]
    exact hq
  · have : (!(List.range us.toArray.size).all fun _ => true) = false := by simp
    rw [this]
    exact h
theorem list2 {e1 e2 : Expr} {pos : Pos} (h : wpAny (mdl w) A (eval e1 env) (fun v s₁ => wpAny (mdl w) A (eval e2 env) (fun u s₂ => Q (.ref s₂.heap.objs.size) { s₂ with heap := s₂.heap.push { cls := .type "list", data := .seq [v, u].toArray } }) E s₁) E s)
    (he : starEach [e1, e2] env = [(false, eval e1 env), (false, eval e2 env)] := by rfl) : wpAny (mdl w) A (eval (.List [e1, e2] pos) env) Q E s := by
  refine wpAny_List_spliced ?_
  rw [he]
  refine spliced_cons (wpAny_mono h (fun v s₁ h₁ => spliced_cons (wpAny_mono h₁ (fun u s₂ h₂ => spliced_nil ⟨by rw [sizeLine_eq]; show 2 ≤ 16777216; decide, h₂⟩) fun _ _ x => x)) fun _ _ x => x)
theorem callKB {x kn : Str} {id : String} {e1 ke : Expr} {p1 kp pos : Pos} (O : Ok w s.heap) (hn : nsIn (hd.heap_1 w.params) mainGlobals x = some none) (hb : bootBuiltins x = some (.builtin id))
    (h : wpAny (mdl w) A (eval e1 env) (fun v s₁ => wpAny (mdl w) A (eval ke env) (fun k s₂ => wpAny (mdl w) A (call (.builtin id) [v] [(kn, k)]) Q E s₂) E s₁) E s)
    (hg : env.globals = mainGlobals := by rfl) (hbl : env.builtins = builtinsNs := by rfl) (hk : env.scope.kind = .function := by rfl) (hx : env.kindOf x = some .globalImplicit := by rfl) (hd : (x == ("__debug__" : Str)) = false := by decide +kernel) (hnn : x ≠ "__name__" := by decide +kernel)
    (he : starEach [e1] env = [(false, eval e1 env)] := by rfl) : wpAny (mdl w) A (eval (.Call (.Name x p1) [e1] [⟨some kn, ke, kp⟩] pos) env) Q E s := by
  show wpAny (mdl w) A (do callWith pos (← eval (.Name x p1) env) [] (backTo pos (starEach [e1] env)) (backToKw pos (keywordEach [⟨some kn, ke, kp⟩] env))) Q E s
  refine wpAny_bind (ld_boot O hn hb ?_ hg hbl hk hx hd hnn)
  rw [he]
  refine callWith_builtin_kwB rfl rfl (evalArgs_kwB rfl (spliced_cons (wpAny_mono h (fun v s₁ h₁ => spliced_nil ?_) fun _ _ x => x)))
  refine kws_cons (wpAny_mono h₁ (fun k s₂ h₂ => kws_nil ?_) fun _ _ x => x)
  exact h₂
end
end Mine
end
theorem Mine.calmV1 : True := by w_top off; trivial
section
open PySem PySem.W PyProof.Rows PySem.Calls
set_option maxRecDepth 100000
set_option maxHeartbeats 4000000
set_option linter.unusedVariables false
namespace Mine
theorem intsL_get {vs : List Value} {ds : List Nat} {i : Nat} (x : IntsAre vs (intsL ds)) (h : i < ds.length) : ∃ t, vs[i]? = some (.int ((ds.getD i 0 : Nat) : Int) t) := by
  induction ds generalizing vs i with
  | nil => exact absurd h (Nat.not_lt_zero _)
  | cons d ds ih =>
    cases x with
    | cons _ t r =>
      cases i with
      | zero => exact ⟨t, rfl⟩
      | succ i => exact ih r (Nat.lt_of_succ_lt_succ h)
section
variable {w : World} {s : Shared} {A : Around} {Q E : Value → Shared → Prop} {env : Env}
theorem src_range8 {prog : Program} {r : Addr} {b : Int} {t u v : Tok} {n : Nat} (hh : A.handled = none) (hr : IsRange s.heap r 0 b 1 t u v) (hsm : Builtin.Range.small 0 b 1 = true) (hn : Builtin.Range.rangeSize 0 b 1 = ((n : Nat) : Int)) :
    Src prog w A s (.ref r) n (fun i v => i < n ∧ ∃ t, v = .int (i : Int) t) := fun Q E h =>
  src_range hh hr hsm hn Q E fun I fp St h' a b W c d e f => h I fp St h' a b
    { sub := W.sub, frame := W.frame, done := W.done, self := W.self, item := fun i s Q E hi st hQ => W.item i s Q E hi st fun v h' tk hP => hQ v h' tk ⟨hi, by obtain ⟨t, rfl⟩ := hP; exact ⟨t, by rw [Int.zero_add]⟩⟩ } c d e f
/-- NAME[index] of a list of naturals -/
theorem sub_nat {value : Expr} {x : Str} {p pos : Pos} {l : Addr} {ys : Array Value} {ds : List Nat} {k : Nat} {u : Tok} (rl : Rd PySem.Challenge.rw_pd0134_01.row.prog w A env value (.ref l) s.heap) (rx : Rd PySem.Challenge.rw_pd0134_01.row.prog w A env (.Name x p) (.int (k : Int) u) s.heap)
    (hl : s.heap.IsList l ys) (hi : IntsAre ys.toList (intsL ds)) (hk : k < ds.length) (hd : ds.length ≤ 1000) (h : ∀ t, Q (.int ((ds.getD k 0 : Nat) : Int) t) s) (ht : ∀ o r, letTemporaryGo value o r = pure () := by intro _ _; rfl) :
    wpAny (mdl w) A (eval (.Subscript value (.Name x p) pos) env) Q E s := by
  obtain ⟨t, e⟩ := intsL_get hi hk
  have h9 : (2 : Int) ^ 63 = 9223372036854775808 := by decide
  refine wpAny_Subscript_Name_late (rl _ _ _ (Keep.refl _) (rx _ _ _ (Keep.refl _) ?_)) ht
  exact ⟨"list", _, list_getitem_lookup, hl.typeIs, wpAny_getItem_list hl (Int.natCast_nonneg k) (by (first | lia | omega)) (x := .int ((ds.getD k 0 : Nat) : Int) t) (by rw [Int.toNat_natCast]; simpa using e) (h t)⟩
/-- NAME[index] of a list of bytes -/
theorem sub_bytes {value : Expr} {x : Str} {p pos : Pos} {l : Addr} {us : List Value} {ls : List (List UInt8)} {k : Nat} {u : Tok} (rl : Rd PySem.Challenge.rw_pd0134_01.row.prog w A env value (.ref l) s.heap) (rx : Rd PySem.Challenge.rw_pd0134_01.row.prog w A env (.Name x p) (.int (k : Int) u) s.heap)
    (hl : s.heap.IsList l us.toArray) (hi : BytesAre us ls) (hk : k < us.length) (hd : us.length ≤ 1000) (h : ∀ b t, ls[k]? = some b.toList → Q (.bytes b t) s) (ht : ∀ o r, letTemporaryGo value o r = pure () := by intro _ _; rfl) :
    wpAny (mdl w) A (eval (.Subscript value (.Name x p) pos) env) Q E s := by
  obtain ⟨b, t, e, e2⟩ := hi.get hk
  have h9 : (2 : Int) ^ 63 = 9223372036854775808 := by decide
  refine wpAny_Subscript_Name_late (rl _ _ _ (Keep.refl _) (rx _ _ _ (Keep.refl _) ?_)) ht
  exact ⟨"list", _, list_getitem_lookup, hl.typeIs, wpAny_getItem_list hl (Int.natCast_nonneg k) (by (first | lia | omega)) (x := .bytes b t) (by rw [Int.toNat_natCast]; simpa using e) (h b t e2)⟩
end
theorem paired_zs {ds : List Nat} {j : Nat} {vs ys : List Value} (hv : ∀ (i : Nat) (v : Value), vs[i]? = some v → ∃ t, v = .int (((j + i : Nat)) : Int) t) (y : Paired (fun v y => ∀ k t, v = .int ((k : Nat) : Int) t → k < 8 → ∃ z u, y = .int z u ∧ z.natAbs = ds.getD k 0) vs ys) (hl : j + vs.length ≤ 8) :
    ∃ zs : List Int, IntsAre ys zs ∧ zs.length = vs.length ∧ ∀ i, i < zs.length → (zs.getD i 0).natAbs = ds.getD (j + i) 0 := by
  induction y generalizing j with
  | nil => exact ⟨[], .nil, rfl, fun i hi => absurd hi (Nat.not_lt_zero _)⟩
  | @cons v _ vs _ e _ ih =>
    have hl' : j + 1 + vs.length ≤ 8 := Nat.le_trans (Nat.le_of_eq (Nat.add_right_comm j 1 vs.length)) hl
    have hs : ∀ i, j + (i + 1) = j + 1 + i := fun i => (Nat.add_right_comm j 1 i).symm
    obtain ⟨t, rfl⟩ := hv 0 v rfl
    obtain ⟨z, u, rfl, hz⟩ := e j t rfl (Nat.lt_of_lt_of_le (Nat.lt_of_lt_of_le (Nat.lt_succ_self j) (Nat.le_add_right _ _)) hl')
    obtain ⟨zs, h1, h2, h3⟩ := ih (j := j + 1) (fun i v h => by rw [← hs]; exact hv (i + 1) v h) hl'
    refine ⟨z :: zs, .cons z u h1, congrArg Nat.succ h2, fun i hi => ?_⟩
    cases i with
    | zero => exact hz
    | succ i => rw [hs]; exact h3 i (Nat.lt_of_succ_lt_succ hi)
theorem ints_mem {vs : List Value} {ns : List Int} (h : IntsAre vs ns) {v : Value} (hv : v ∈ vs) : ∃ z t, v = .int z t ∧ z ∈ ns := by
  induction h with
  | nil => cases hv
  | cons n t _ ih =>
    rcases List.mem_cons.mp hv with rfl | hv
    · exact ⟨n, t, rfl, .head _⟩
    · obtain ⟨z, t, e, hz⟩ := ih hv; exact ⟨z, t, e, .tail _ hz⟩
theorem paired_ways {f : Int → List UInt8} {vs ys : List Value} {zs : List Int} (x : IntsAre vs zs) (y : Paired (fun v y => ∀ z t, v = Value.int z t → ∃ b u, y = .bytes b u ∧ b.toList = f z) vs ys) : BytesAre ys (zs.map f) := by
  induction x generalizing ys with
  | nil => cases y; exact .nil
  | cons n t _ ih =>
    cases y with
    | cons e q =>
      obtain ⟨b, u, rfl, hb⟩ := e n t rfl
      exact .cons hb (ih q)
theorem abs_map {zs : List Int} {ds : List Nat} (hl : zs.length = ds.length) (h : ∀ i, i < zs.length → (zs.getD i 0).natAbs = ds.getD (0 + i) 0) : zs.map Int.natAbs = ds := by
  apply List.ext_getElem
  · simpa using hl
  · intro i h1 h2
    have h3 : i < zs.length := by simpa using h1
    have := h i h3
    simp only [Nat.zero_add] at this
    simpa [h3, h2] using this
/-- what the law's frame holds beyond its base -/
structure Led (G h : Heap) (L : Addr) (nw : List (Addr × Obj)) : Prop where
  news : News G L h nw
  nd : (nw.map (·.1)).Nodup
section
variable {G h h' : Heap} {L a D : Addr} {nw : List (Addr × Obj)} {o o' : Obj} {m : Str → Option Value}
theorem Led.keep (x : Led G h L nw) (k : Keep h h') : Led G h' L nw := ⟨News.grown x.news k, x.nd⟩
theorem Led.butL (x : Led G h L nw) (k : KeepB [L] h h') : Led G h' L nw := ⟨KeepB.news x.news k, x.nd⟩
theorem Led.mem {i : Nat} (_ : Led G h L nw) (hi : nw[i]? = some (a, o)) : (a, o) ∈ nw := List.mem_of_getElem? hi
theorem Led.get (x : Led G h L nw) (i : Nat) (hi : nw[i]? = some (a, o)) : h.get? a = some o := (x.news _ (x.mem hi)).1
theorem Led.neL (x : Led G h L nw) (i : Nat) (hi : nw[i]? = some (a, o)) : a ≠ L := (x.news _ (x.mem hi)).2.1
theorem Led.noG (x : Led G h L nw) (i : Nat) (hi : nw[i]? = some (a, o)) : G.get? a = none := (x.news _ (x.mem hi)).2.2
theorem Led.fr {i : Nat} (x : Led G h L nw) (hi : nw[i]? = some (a, o)) (F : Fr G L h m) (k : KeepB [a] h h') : Fr G L h' m :=
  ⟨F.ns.at fun o e => k _ o (fun q => x.neL i hi (List.mem_singleton.mp q).symm) e, fun b o e => k b o (fun q => by rw [List.mem_singleton.mp q, x.noG i hi] at e; cases e) (F.keep b o e), F.above⟩
theorem Led.set {i : Nat} (x : Led G h L nw) (hi : nw[i]? = some (a, o)) (k : KeepB [a] h h') (ha : h'.get? a = some o') : Led G h' L (nw.set i (a, o')) := by
  have hlt : i < nw.length := (List.getElem?_eq_some_iff.mp hi).1
  have hmap : (nw.set i (a, o')).map (·.1) = nw.map (·.1) := by
    rw [List.map_set]
    apply List.ext_getElem?
    intro j
    rw [List.getElem?_set]
    split
    · rename_i e; subst e
      rw [List.length_map]
      simp [hlt, List.getElem?_eq_some_iff.mp hi |>.2]
    · rfl
  refine ⟨fun p hp => ?_, by rw [hmap]; exact x.nd⟩
  obtain ⟨j, hj⟩ := List.getElem?_of_mem hp
  rw [List.getElem?_set] at hj
  by_cases e : i = j
  · subst e
    rw [if_pos rfl, if_pos hlt] at hj
    cases hj
    exact ⟨ha, x.neL i hi, x.noG i hi⟩
  · rw [if_neg e] at hj
    have hpm := List.mem_of_getElem? hj
    have n := x.news p hpm
    refine ⟨k _ _ (fun q => ?_) n.1, n.2⟩
    have h1 : (nw.map (·.1))[i]? = some a := by rw [List.getElem?_map, hi]; rfl
    have h2 : (nw.map (·.1))[j]? = some a := by rw [List.getElem?_map, hj, ← List.mem_singleton.mp q]; rfl
    exact e ((List.getElem?_inj (by rw [List.length_map]; exact hlt) x.nd).mp (h1.trans h2.symm))
theorem Led.set2 {i : Nat} (x : Led G h L nw) (hi : nw[i]? = some (a, o)) (k : KeepB [L, a] h h') (ha : h'.get? a = some o') : Led G h' L (nw.set i (a, o')) := by
  have hlt : i < nw.length := (List.getElem?_eq_some_iff.mp hi).1
  have hmap : (nw.set i (a, o')).map (·.1) = nw.map (·.1) := by
    rw [List.map_set]
    apply List.ext_getElem?
    intro j
    rw [List.getElem?_set]
    split
    · rename_i e; subst e
      rw [List.length_map]
      simp [hlt, List.getElem?_eq_some_iff.mp hi |>.2]
    · rfl
  refine ⟨fun p hp => ?_, by rw [hmap]; exact x.nd⟩
  obtain ⟨j, hj⟩ := List.getElem?_of_mem hp
  rw [List.getElem?_set] at hj
  by_cases e : i = j
  · subst e
    rw [if_pos rfl, if_pos hlt] at hj
    cases hj
    exact ⟨ha, x.neL i hi, x.noG i hi⟩
  · rw [if_neg e] at hj
    have hpm := List.mem_of_getElem? hj
    have n := x.news p hpm
    refine ⟨k _ _ (fun q => ?_) n.1, n.2⟩
    simp only [List.mem_cons, List.not_mem_nil, or_false] at q
    rcases q with q | q
    · exact n.2.1 q
    have h1 : (nw.map (·.1))[i]? = some a := by rw [List.getElem?_map, hi]; rfl
    have h2 : (nw.map (·.1))[j]? = some a := by rw [List.getElem?_map, hj, ← q]; rfl
    exact e ((List.getElem?_inj (by rw [List.length_map]; exact hlt) x.nd).mp (h1.trans h2.symm))
theorem Led.add {h0 : Heap} {nw0 : List (Addr × Obj)} (x : Led G h L nw) (x0 : Led G h0 L nw0) (F0 : Fr G L h0 m) (hD0 : h0.get? D = none) (hD : h.get? D = some o) (he : nw0.map (·.1) = nw.map (·.1) := by rfl) : Led G h L ((D, o) :: nw) := by
  obtain ⟨oL, _, _, hoL, _⟩ := F0.ns
  refine ⟨fun p hp => ?_, List.nodup_cons.mpr ⟨fun q => ?_, x.nd⟩⟩
  · rcases List.mem_cons.mp hp with rfl | hp
    · exact ⟨hD, fun q => (by rw [← q, hD0] at hoL; cases hoL), by
        cases e : G.get? D with
        | none => rfl
        | some o => have := F0.keep _ _ e; rw [hD0] at this; cases this⟩
    · exact x.news p hp
  · obtain ⟨p, hp, e⟩ := List.mem_map.mp (he ▸ q : D ∈ nw0.map (·.1))
    have := (x0.news p hp).1
    rw [e, hD0] at this; cases this
theorem Led.list {i : Nat} {ys : Array Value} {n : Nat} (x : Led G h L nw) (hi : nw[i]? = some (a, o)) (hc : o.cls = .type "list") (hd : o.data = .seq ys n) : h.IsList a ys := ⟨o, x.get i hi, hc, n, hd⟩
theorem Led.cell {i : Nat} {v : Option Value} (x : Led G h L nw) (hi : nw[i]? = some (a, o)) (hd : o.data = .cell v) : h.IsCell a v := ⟨o, x.get i hi, hd⟩
end
end Mine
end
theorem Mine.calmD0 : True := by w_top off; trivial
section
open PySem PySem.W PyProof.Rows PySem.Calls
set_option maxRecDepth 100000
set_option maxHeartbeats 4000000
namespace Mine
theorem compTurn_two0 (elt t1 i1 t2 i2 : Expr) (ifs : List Expr) (scope : Scope) (pos : Pos) (it acc : Value) (env : Env) :
    compTurn (.ListComp elt [⟨t1, i1, [], 0⟩, ⟨t2, i2, ifs, 0⟩] scope pos) 0 it acc env = (do
      standAt i1.pos
      match ← pyNext it with
      | none => pure (.done .next)
      | some v =>
        letOwnedTupleGo t1 it v
        assign t1 env v
        let x ← eval i2 env
        standAt i2.pos
        let x ← foldedSetIterable i2 env x
        let _ ← runOwn (.compStart (.ListComp elt [⟨t1, i1, [], 0⟩, ⟨t2, i2, ifs, 0⟩] scope pos) 1 (← holding [x] (pyIter x)) acc env) env
        again (.compLoop (.ListComp elt [⟨t1, i1, [], 0⟩, ⟨t2, i2, ifs, 0⟩] scope pos) 0 it acc env)) := by rfl
theorem compTurn_two1 (elt t1 i1 t2 i2 : Expr) (ifs : List Expr) (scope : Scope) (pos : Pos) (it acc : Value) (env : Env) :
    compTurn (.ListComp elt [⟨t1, i1, [], 0⟩, ⟨t2, i2, ifs, 0⟩] scope pos) 1 it acc env = (do
      standAt i2.pos
      match ← pyNext it with
      | none => pure (.done .next)
      | some v =>
        letOwnedTupleGo t2 it v
        assign t2 env v
        let mut ok := true
        for c in ifs do
          if ok then ok ← isTrue c env (eval c env)
        if ok then
          (do let _ ← call (.builtin "list.append") [acc, ← eval elt env])
        again (.compLoop (.ListComp elt [⟨t1, i1, [], 0⟩, ⟨t2, i2, ifs, 0⟩] scope pos) 1 it acc env)) := by rfl
section
variable {prog : Program} {w : World} {A : Around} {E : Value → Shared → Prop} {R : Result → Shared → Prop} {s : Shared}
theorem two_start1 {elt t1 i1 t2 i2 : Expr} {ifs : List Expr} {scope : Scope} {pos : Pos} {it acc : Value} {env : Env}
    (h0 : codeAny (model prog w) A (.compLoop (.ListComp elt [⟨t1, i1, [], 0⟩, ⟨t2, i2, ifs, 0⟩] scope pos) 1 it acc env) R s)
    (h : wpAny (model prog w) A (pyIter it) (fun it' s' => codeAny (model prog w) A (.compLoop (.ListComp elt [⟨t1, i1, [], 0⟩, ⟨t2, i2, ifs, 0⟩] scope pos) 1 it' acc env) R s')
      (notedBy (model prog w) A env fun x s' => R (.error x) s') s) :
    codeAny (model prog w) A (.compStart (.ListComp elt [⟨t1, i1, [], 0⟩, ⟨t2, i2, ifs, 0⟩] scope pos) 1 it acc env) R s := by
  refine codeAny_of_tree ?_
  show wpAny _ _ ((compStart (.ListComp elt [⟨t1, i1, [], 0⟩, ⟨t2, i2, ifs, 0⟩] scope pos) 1 it acc env).onRaise (fun x => do noteFrame x env; standAt theWindowsPlace)) _ _ s
  refine wpAny_notedAt ?_
  unfold compStart
  show wpAny _ _ (ask >>= _) _ _ s
  refine wpAny_bind (wpAny_askSetting (wpAny_ite ?_))
  split
  · first
      | exact wpAny_bind (wpAny_pure (wpAny_pure (And.intro rfl h0)))
      | exact wpAny_pure (And.intro rfl h0)
  · first
      | exact wpAny_bind (wpAny_rule (wpAny_bind (wpAny_standAt (wpAny_bind (wpAny_mono h (fun it' s' h' => wpAny_pure (And.intro rfl h')) fun _ _ x => x)))))
      | (refine wpAny_bind (wpAny_rule ?_); show wpAny _ _ (standAt i2.pos >>= _) _ _ s; exact wpAny_bind (wpAny_standAt (wpAny_bind (wpAny_mono h (fun it' s' h' => wpAny_pure (And.intro rfl h')) fun _ _ x => x))))
theorem two_loop1 {elt t1 i1 target i2 : Expr} {ifs : List Expr} {scope : Scope} {pos : Pos} {it acc : Value} {env : Env} (I : Nat → Shared → Prop)
    (turn : ∀ n s, I n s → wpAny (model prog w) A (pyNext it) (fun r s₁ => match r with
      | none => R (.ok .next) s₁
      | some v => wpAny (model prog w) A (assign target env v) (fun _ s₂ =>
          wpAny (model prog w) A (forIn ifs true fun c r => if r = true then do let ok ← isTrue c env (eval c env); pure (ForInStep.yield ok) else pure (ForInStep.yield r)) (fun ok s₃ =>
            if ok = true then wpAny (model prog w) A (eval elt env) (fun x s₄ =>
              wpAny (model prog w) A (call (.builtin "list.append") [acc, x]) (fun _ s₅ => ∃ m, m < n ∧ I m s₅) (notedBy (model prog w) A env fun e s' => R (.error e) s') s₄) (notedBy (model prog w) A env fun e s' => R (.error e) s') s₃
            else ∃ m, m < n ∧ I m s₃) (notedBy (model prog w) A env fun e s' => R (.error e) s') s₂) (notedBy (model prog w) A env fun e s' => R (.error e) s') s₁) (notedBy (model prog w) A env fun e s' => R (.error e) s') s)
    (n : Nat) (h : I n s) (ht : ∀ v, letOwnedTupleGo target it v = pure () := by intro _; rfl) :
    codeAny (model prog w) A (.compLoop (.ListComp elt [⟨t1, i1, [], 0⟩, ⟨target, i2, ifs, 0⟩] scope pos) 1 it acc env) R s := by
  refine codeAny_loop rfl I (fun n s hI => ?_) n h
  show wpAny _ A ((compTurn (.ListComp elt [⟨t1, i1, [], 0⟩, ⟨target, i2, ifs, 0⟩] scope pos) 1 it acc env).onRaise (fun x => do noteFrame x env; theTreesLotGoes x)) _ _ s
  refine wpAny_noted ?_
  rw [compTurn_two1]
  refine wpAny_bind (wpAny_standAt (wpAny_bind (wpAny_mono (turn n s hI) (fun r s₁ h₁ => ?_) fun _ _ h' => h')))
  cases r with
  | none => exact wpAny_pure h₁
  | some v =>
    refine wpAny_bind (wpAny_of_eq (ht v) ?_)
    refine wpAny_bind (wpAny_mono h₁ (fun _ s₂ h₂ => wpAny_bind (wpAny_mono h₂ (fun ok s₃ h₃ => ?_) fun _ _ h' => h')) fun _ _ h' => h')
    cases ok with
    | false => exact wpAny_pure ⟨rfl, h₃⟩
    | true =>
      exact wpAny_bind (wpAny_bind (wpAny_mono h₃ (fun x s₄ h₄ => wpAny_bind (wpAny_mono h₄ (fun _ s₅ h₅ => wpAny_pure (wpAny_pure ⟨rfl, h₅⟩)) fun _ _ h' => h')) fun _ _ h' => h'))
theorem two_loop0 {elt target i1 t2 i2 : Expr} {ifs : List Expr} {scope : Scope} {pos : Pos} {it acc : Value} {env : Env} (I : Nat → Shared → Prop)
    (turn : ∀ n s, I n s → wpAny (model prog w) A (pyNext it) (fun r s₁ => match r with
      | none => R (.ok .next) s₁
      | some v => wpAny (model prog w) A (assign target env v) (fun _ s₂ =>
          wpAny (model prog w) A (eval i2 env) (fun x s₃ => wpAny (model prog w) A (pyIter x) (fun it2 s₄ =>
            codeAny (model prog w) A (.compStart (.ListComp elt [⟨target, i1, [], 0⟩, ⟨t2, i2, ifs, 0⟩] scope pos) 1 it2 acc env) (fun r s₅ => match r with | .ok _ => ∃ m, m < n ∧ I m s₅ | .error _ => False) s₄)
              (notedBy (model prog w) A env fun e s' => R (.error e) s') s₃) (notedBy (model prog w) A env fun e s' => R (.error e) s') s₂) (notedBy (model prog w) A env fun e s' => R (.error e) s') s₁) (notedBy (model prog w) A env fun e s' => R (.error e) s') s)
    (n : Nat) (h : I n s) (ht : ∀ v, letOwnedTupleGo target it v = pure () := by intro _; rfl) (hs : ∀ x, foldedSetIterable i2 env x = pure x := by intro _; rfl) :
    codeAny (model prog w) A (.compLoop (.ListComp elt [⟨target, i1, [], 0⟩, ⟨t2, i2, ifs, 0⟩] scope pos) 0 it acc env) R s := by
  refine codeAny_loop rfl I (fun n s hI => ?_) n h
  show wpAny _ A ((compTurn (.ListComp elt [⟨target, i1, [], 0⟩, ⟨t2, i2, ifs, 0⟩] scope pos) 0 it acc env).onRaise (fun x => do noteFrame x env; theTreesLotGoes x)) _ _ s
  refine wpAny_noted ?_
  rw [compTurn_two0]
  refine wpAny_bind (wpAny_standAt (wpAny_bind (wpAny_mono (turn n s hI) (fun r s₁ h₁ => ?_) fun _ _ h' => h')))
  cases r with
  | none => exact wpAny_pure h₁
  | some v =>
    refine wpAny_bind (wpAny_of_eq (ht v) ?_)
    refine wpAny_bind (wpAny_mono h₁ (fun _ s₂ h₂ => ?_) fun _ _ h' => h')
    refine wpAny_bind (wpAny_mono h₂ (fun x s₃ h₃ => ?_) fun _ _ h' => h')
    refine wpAny_bind (wpAny_standAt ?_)
    refine wpAny_bind (wpAny_of_eq (hs x) ?_)
    refine wpAny_bind (wpAny_holding (wpAny_mono h₃ (fun it2 s₄ h₄ => ?_) fun _ _ h' => h'))
    refine wpAny_bind (wpAny_runOwn (codeAny_mono h₄ fun r s₅ h₅ => ?_))
    cases r with
    | ok f => exact wpAny_pure ⟨rfl, h₅⟩
    | error e => exact h₅.elim
end
end Mine
end
theorem Mine.calmD1 : True := by w_top off; trivial
section
open PySem PySem.W PyProof.Rows PySem.Calls
set_option maxRecDepth 100000
set_option maxHeartbeats 4000000
namespace Mine
/-- all but three places stand as they stood -/
def Off (C I D : Addr) (h h' : Heap) : Prop := ∀ b o, b ≠ C → b ≠ I → b ≠ D → h.get? b = some o → h'.get? b = some o
inductive TwoInv (s : Shared) (C I D : Addr) (x : Str) (v : Value) (n : Nat) (P : Nat → Value → Prop) (St : Nat → Heap → Prop) (p : Value → Bool) (F : Value → Value → Prop) (ys0 : Array Value) (k : Nat) : Shared → Prop
  | mk (h' : Heap) (tk : Nat) (m' : Str → Option Value) (ys : Array Value) (us : List Value) : St us.length h' → h'.PlainList D (ys0 ++ ys) → h'.Ns C m' → m' x = some v → (∀ j u, us[j]? = some u → P j u) → Paired F (us.filter p) ys.toList → us.length ≤ n → k = n + 1 - us.length → Off C I D s.heap h' →
    TwoInv s C I D x v n P St p F ys0 k { s with heap := h', toks := tk }
inductive OutInv (s : Shared) (h2 : Heap) (C I D : Addr) (n n2 : Nat) (St : Nat → Heap → Prop) (G : Nat → List Value → Prop) (k : Nat) : Shared → Prop
  | mk (i : Nat) (h' : Heap) (tk : Nat) (m' : Str → Option Value) (zs : Array Value) : St i h' → h'.PlainList D zs → h'.Ns C m' → G i zs.toList → zs.size ≤ i * n2 → i ≤ n → k = n + 1 - i → Off C I D h2 h' → OutInv s h2 C I D n n2 St G k { s with heap := h', toks := tk }
theorem all_snoc {P : Nat → Value → Prop} {us : List Value} {u : Value} (h : ∀ j q, us[j]? = some q → P j q) (hu : P us.length u) : ∀ j q, (us ++ [u])[j]? = some q → P j q := fun j q hj => by
  rcases Nat.lt_or_ge j us.length with l | l
  · exact h j q (by rwa [List.getElem?_append_left l] at hj)
  · rw [List.getElem?_append_right l] at hj
    rcases e : j - us.length with _ | k
    · rw [e] at hj; cases hj
      rw [Nat.le_antisymm (Nat.sub_eq_zero_iff_le.mp e) l]; exact hu
    · rw [e] at hj; cases hj
section
variable {prog : Program} {w : World} {A : Around} {E : Value → Shared → Prop} {R : Result → Shared → Prop} {s : Shared} {env : Env}
/-- the inner loop of a comprehension with two for's -/
theorem two_inner {elt t1 i1 i2 : Expr} {y : Str} {py : Pos} {ifs : List Expr} {scope : Scope} {pos : Pos} {I D : Addr} {fp : List Addr} {n : Nat} {P : Nat → Value → Prop} {St : Nat → Heap → Prop}
    {cenv : Env} {m : Str → Option Value} (W : Walks prog w A I fp [I] n P St) (p : Value → Bool) (F : Value → Value → Prop) {x : Str} {v : Value} {ys0 : Array Value} (hxy : x ≠ y) (hmx : m x = some v)
    (hx : cenv.kindOf y = some .local) (hp : (cenv.scope.kind == .class || (cenv.scope.kind == .module && cenv.locals != cenv.globals)) = false)
    (hDC : D ≠ cenv.locals) (hDf : D ∉ fp) (hCf : cenv.locals ∉ fp) (hIC : I ≠ cenv.locals) (hID : I ≠ D)
    (hst : St 0 s.heap) (hacc : s.heap.PlainList D ys0) (hn : s.heap.Ns cenv.locals m)
    (htests : ∀ i u s₂ m₂ E', P i u → s₂.heap.Ns cenv.locals m₂ → m₂ y = some u → m₂ x = some v → Off cenv.locals I D s.heap s₂.heap →
      wpAny (model prog w) A (forIn ifs true fun c r => if r = true then do let ok ← isTrue c cenv (eval c cenv); pure (ForInStep.yield ok) else pure (ForInStep.yield r))
        (fun ok s₃ => ok = p u ∧ Keeps s₂ s₃) E' s₂)
    (helt : ∀ i u s₂ m₂ E', P i u → p u = true → s₂.heap.Ns cenv.locals m₂ → m₂ y = some u → m₂ x = some v → Off cenv.locals I D s.heap s₂.heap →
      wpAny (model prog w) A (eval elt cenv) (fun q s₃ => F u q ∧ Keeps s₂ s₃) E' s₂)
    (hR : ∀ h' tk m' ys (us : List Value), h'.Ns cenv.locals m' → h'.PlainList D (ys0 ++ ys) → us.length = n → (∀ j u, us[j]? = some u → P j u) → Paired F (us.filter p) ys.toList →
      Off cenv.locals I D s.heap h' → R (.ok .next) { s with heap := h', toks := tk })
    (hsz : ys0.size + n ≤ sizeLine) :
    codeAny (model prog w) A (.compLoop (.ListComp elt [⟨t1, i1, [], 0⟩, ⟨.Name y py, i2, ifs, 0⟩] scope pos) 1 (.ref I) (.ref D) cenv) R s := by
  refine two_loop1
    (TwoInv s cenv.locals I D x v n P St p F ys0) ?_ (n + 1)
    (.mk s.heap s.toks m #[] [] hst (by simpa using hacc) hn hmx (fun _ _ e => nomatch e) .nil (Nat.zero_le _) rfl fun _ _ _ _ _ e => e)
  rintro k s' ⟨H, tk, m', ys, us, hst', hacc', hn', hmx', hP, hF, hi, rfl, hk⟩
  have nI : ∀ b, b ≠ I → b ∉ [I] := fun b h q => h (List.mem_singleton.mp q)
  by_cases hlt : us.length < n
  · refine W.item us.length _ _ _ hlt hst' fun u h₁ tk₁ hPv hst₁ hk₁ => ?_
    refine wpAny_assign_Name (wpAny_storeName_local hx (hn'.at' fun o e => hk₁ _ o (nI _ hIC.symm) e) (fun h₂ hn₂ hs₂ => ?_) hp)
    have up₂ : ∀ b o, b ≠ cenv.locals → b ≠ I → H.get? b = some o → h₂.get? b = some o := fun b o hbC hbf e => hs₂.extBut b o hbC (hk₁ b o (nI _ hbf) e)
    have hst₂ : St (us.length + 1) h₂ := W.frame _ _ _ hst₁ fun b hb o e => hs₂.extBut b o (fun h => hCf (h ▸ hb)) e
    refine wpAny_mono (htests us.length u _ _ _ hPv hn₂ (by simp) (by simp [hxy, hmx']) (fun b o hbC hbf hbD e => up₂ b o hbC hbf (hk b o hbC hbf hbD e))) (fun ok s₃ h₃ => ?_) fun _ _ e => e
    obtain ⟨rfl, h₃, tk₃, rfl, hk₃⟩ := h₃
    have hst₃ : St (us.length + 1) h₃ := W.frame _ _ _ hst₂ fun b _ o e => hk₃ b o e
    have hacc₃ : h₃.PlainList D (ys0 ++ ys) := hacc'.at fun o e => hk₃ _ o (up₂ D o hDC hID.symm e)
    have hn₃ := hn₂.keeps hk₃
    have hP' := all_snoc hP hPv
    have hln : (us ++ [u]).length = us.length + 1 := List.length_append
    have hms : n + 1 - (us.length + 1) < n + 1 - us.length := Nat.sub_lt_sub_left (Nat.lt_succ_of_lt hlt) (Nat.lt_succ_self _)
    cases hpv : p u with
    | false =>
      simp only [Bool.false_eq_true, if_false]
      refine ⟨n + 1 - (us.length + 1), hms, .mk h₃ tk₃ _ ys (us ++ [u]) (by rw [hln]; exact hst₃) hacc₃ hn₃ (by simp [hxy, hmx']) hP' ?_ (by rw [hln]; exact hlt) (by rw [hln]) fun b o hbC hbf hbD e => hk₃ b o (up₂ b o hbC hbf (hk b o hbC hbf hbD e))⟩
      rw [List.filter_append]; simpa [hpv] using hF
    | true =>
      simp only [if_true]
      refine wpAny_mono (helt us.length u _ _ _ hPv hpv hn₃ (by simp) (by simp [hxy, hmx']) (fun b o hbC hbf hbD e => hk₃ b o (up₂ b o hbC hbf (hk b o hbC hbf hbD e)))) (fun q s₄ h₄ => ?_) fun _ _ e => e
      obtain ⟨hFy, h₄, tk₄, rfl, hk₄⟩ := h₄
      have hys : (ys0 ++ ys).size ≤ sizeLine := by
        have e1 := hF.length
        have e2 : (us.filter p).length ≤ us.length := List.length_filter_le _ _
        have e4 : ys.toList.length = ys.size := by simp
        rw [Array.size_append]
        (first | lia | omega)
      refine wpAny_list_append_plain (hsz := hys) (hacc₃.at fun o e => hk₄ _ o e) fun h₅ hl₅ hs₅ => ?_
      refine ⟨n + 1 - (us.length + 1), hms, .mk h₅ tk₄ _ (ys.push q) (us ++ [u]) ?_ (by rw [Array.append_push]; exact hl₅) ((hn₃.keeps hk₄).sameBut hs₅ (Ne.symm hDC)) (by simp [hxy, hmx']) hP' ?_ (by rw [hln]; exact hlt) (by rw [hln])
        fun b o hbC hbf hbD e => hs₅.extBut b o hbD (hk₄ b o (hk₃ b o (up₂ b o hbC hbf (hk b o hbC hbf hbD e))))⟩
      · rw [hln]; exact W.frame _ _ h₅ hst₃ fun b hb o e => hs₅.extBut b o (fun h => hDf (h ▸ hb)) (hk₄ b o e)
      · rw [List.filter_append]; simpa [hpv] using Paired.snoc hF hFy
  · have hin : us.length = n := Nat.le_antisymm hi (Nat.not_lt.mp hlt)
    refine W.done _ _ _ (hin ▸ hst') fun h₁ tk₁ hk₁ => ?_
    exact hR h₁ tk₁ m' ys us (hn'.at' fun o e => hk₁ _ o (nI _ hIC.symm) e) (hacc'.at fun o e => hk₁ _ o (nI _ hID.symm) e) hin hP hF fun b o hbC hbf hbD e => hk₁ b o (nI _ hbf) (hk b o hbC hbf hbD e)
/-- [elt for x in iter for y in iter2 if test] -/
theorem lc_two {elt iter i2 : Expr} {x y : Str} {px py : Pos} {ifs : List Expr} {scope : Scope} {cl : List (Str × Addr)} {pos : Pos} {Q : Value → Shared → Prop} {n n2 : Nat} {P P2 : Nat → Value → Prop} (p : Value → Value → Bool) (F : Value → Value → Value → Prop)
    (hsrc : wpAny (model prog w) A (eval iter env) (fun xv s₁ => Keeps s s₁ ∧ (∃ l o, xv = .ref l ∧ s₁.heap.get? l = some o) ∧ Src prog w A s₁ xv n P) E s) (hz : n * n2 ≤ sizeLine) (hxy : x ≠ y)
    (hsrc2 : ∀ C i v s₃ m₃ E', P i v → s₃.heap.Ns C m₃ → m₃ x = some v → Keep s.heap s₃.heap → Under s.heap C →
      wpAny (model prog w) A (eval i2 (compEnvC scope cl C env)) (fun xv s₄ => Keeps s₃ s₄ ∧ (∀ b, xv = .ref b → s₃.heap.get? b = none) ∧ Src prog w A s₄ xv n2 P2) E' s₃)
    (ht : ∀ C i j v u s₃ m₃ E', P i v → P2 j u → s₃.heap.Ns C m₃ → m₃ x = some v → m₃ y = some u → Keep s.heap s₃.heap → Under s.heap C →
      wpAny (model prog w) A (forIn ifs true fun c r => if r = true then do let ok ← isTrue c (compEnvC scope cl C env) (eval c (compEnvC scope cl C env)); pure (ForInStep.yield ok) else pure (ForInStep.yield r)) (fun ok s₄ => ok = p v u ∧ Keeps s₃ s₄) E' s₃)
    (he : ∀ C i j v u s₃ m₃ E', P i v → P2 j u → p v u = true → s₃.heap.Ns C m₃ → m₃ x = some v → m₃ y = some u → Keep s.heap s₃.heap → Under s.heap C →
      wpAny (model prog w) A (eval elt (compEnvC scope cl C env)) (fun q s₄ => F v u q ∧ Keeps s₃ s₄) E' s₃)
    (G : Nat → List Value → Prop) (hG0 : G 0 [])
    (hG : ∀ i v (us ys zs : List Value), P i v → us.length = n2 → (∀ j u, us[j]? = some u → P2 j u) → Paired (F v) (us.filter (p v)) ys → G i zs → G (i + 1) (zs ++ ys))
    (h : ∀ D h' tk ys, s.heap.get? D = none → h'.IsList D ys → G n ys.toList → Keep s.heap h' → Q (.ref D) { s with heap := h', toks := tk })
    (hclos : closureFor scope env = pure cl := by rfl) (hcell : ∀ y ∈ scope.names, y.2 ≠ .cell := by decide) (hkind : scope.kind = .function := by rfl)
    (hnames : ∀ y ∈ scope.names, y.2 = .local → scope.names.lookup y.1 = some .local := by decide) (hx : scope.names.lookup x = some .local := by decide) (hy : scope.names.lookup y = some .local := by decide)
    (hs : ∀ x, foldedSetIterable iter env x = pure x := by intro _; rfl) (hs2 : ∀ C x, foldedSetIterable i2 (compEnvC scope cl C env) x = pure x := by intro _ _; rfl) :
    wpAny (model prog w) A (eval (.ListComp elt [⟨.Name x px, iter, [], 0⟩, ⟨.Name y py, i2, ifs, 0⟩] scope pos) env) Q E s := by
  rw [eval_ListComp]
  refine wpAny_comprehension_free (use := none) rfl hs hclos hkind hnames (wpAny_mono hsrc (fun xv s₁ h₁ => ?_) fun _ _ e => e)
  obtain ⟨⟨h1, tk1, rfl, hk1⟩, ⟨l, ol, rfl, hol⟩, hsr⟩ := h₁
  refine hsr _ _ fun I fp St h2 hk2 hI W hst hfp hlv hfx => ?_
  have up : Keep s.heap h2 := Keep.trans hk1 hk2
  have hIl : ∃ o, h2.get? I = some o := hlv 0 _ hst
  have hll : h2.get? l = some ol := hk2 _ _ hol
  have hfl : ∀ b ∈ fp, ∃ o, h2.get? b = some o := fun b hb => by
    rcases hfx b hb with rfl | e
    · exact hIl
    · injection e with e; rw [← e]; exact ⟨_, hll⟩
  have hIs : s.heap.get? I = none := by
    cases e : s.heap.get? I with
    | none => rfl
    | some o => rw [hk1 _ _ e] at hI; cases hI
  refine wpAny_newObj_type (wpAny_newFunctionEnv hcell (by intro y hy; simp at hy) (fun h₁ hns₁ hsb₁ => ?_) hkind)
  dsimp only at hns₁ hsb₁ ⊢
  obtain ⟨C, hC⟩ : ∃ C, C = (h2.push { cls := .type "list", dict := none, data := .seq ([] : List Value).toArray }).objs.size := ⟨_, rfl⟩
  obtain ⟨D, hD⟩ : ∃ D, D = h2.objs.size := ⟨_, rfl⟩
  have hCD : C = D + 1 := by rw [hC, hD, Heap.size_push]
  have old : Keep h2 h₁ := fun b o e => hsb₁.extBut b o (by rw [Heap.size_push]; exact Nat.ne_of_lt (Nat.lt_succ_of_lt (Heap.lt_size e))) (Heap.get?_push_of_some _ (Heap.get?_push_of_some _ e))
  have hacc : h₁.PlainList h2.objs.size #[] := ⟨_, hsb₁.extBut _ _ (by rw [Heap.size_push]; exact Nat.ne_of_lt (Nat.lt_succ_self _)) (Heap.get?_push_of_some _ (Heap.get?_push_size _ rfl))⟩
  rw [← hC] at hns₁ ⊢
  rw [← hD] at hacc ⊢
  have live : ∀ b o, h2.get? b = some o → b ≠ C ∧ b ≠ D := fun b o e => by
    have := Heap.lt_size e
    rw [← hD] at this
    exact ⟨by rw [hCD]; exact Nat.ne_of_lt (Nat.lt_succ_of_lt this), Nat.ne_of_lt this⟩
  have hDC : D ≠ C := by rw [hCD]; exact Nat.ne_of_lt (Nat.lt_succ_self _)
  have hCf : C ∉ fp := fun q => by obtain ⟨o, e⟩ := hfl _ q; exact (live _ _ e).1 rfl
  have hDf : D ∉ fp := fun q => by obtain ⟨o, e⟩ := hfl _ q; exact (live _ _ e).2 rfl
  obtain ⟨oI, hoI⟩ := hIl
  have hIC := (live _ _ hoI).1
  have hID := (live _ _ hoI).2
  have hst₁ : St 0 h₁ := W.frame _ _ _ hst fun b _ o e => old b o e
  have under : Under s.heap C := fun b o e => by
    rw [hCD, hD]; exact Nat.lt_succ_of_lt (Heap.lt_size (up _ _ e))
  have sne : ∀ b o, s.heap.get? b = some o → b ≠ C ∧ b ≠ I ∧ b ≠ D := fun b o e => ⟨(live _ _ (up _ _ e)).1, (fun q => by rw [q, hIs] at e; cases e), (live _ _ (up _ _ e)).2⟩
  have hxk : (compEnvC scope cl C env).kindOf x = some .local := lookup_relabel_local hx
  have hyk : (compEnvC scope cl C env).kindOf y = some .local := lookup_relabel_local hy
  have hpk : ((compEnvC scope cl C env).scope.kind == .class || ((compEnvC scope cl C env).scope.kind == .module && (compEnvC scope cl C env).locals != (compEnvC scope cl C env).globals)) = false := by simp [compEnvC, relabel, hkind]
  have loop : ∀ s₃ : Shared, s₃ = { s with heap := h₁, toks := tk1 + ([] : List (Str × Value)).length } →
      codeAny (model prog w) A (.compLoop (.ListComp elt [⟨.Name x px, iter, [], 0⟩, ⟨.Name y py, i2, ifs, 0⟩] scope pos) 0 (.ref I) (.ref D) (compEnvC scope cl C env))
        (compPost (model prog w) A E none Q (.ref D) C) s₃ := by
    rintro s₃ rfl
    refine two_loop0 (OutInv s h2 C I D n n2 St G) ?_ (n + 1) (.mk 0 h₁ _ _ #[] hst₁ hacc hns₁ hG0 (Nat.zero_le _) (Nat.zero_le _) rfl fun b o _ _ _ e => old b o e) (hs := hs2 C)
    rintro k s' ⟨i, H, tk, m', zs, hst', hacc', hn', hGi, hzs, hi, rfl, hk⟩
    have nI : ∀ b, b ≠ I → b ∉ [I] := fun b h q => h (List.mem_singleton.mp q)
    by_cases hlt : i < n
    · refine W.item i _ _ _ hlt hst' fun v h₃ tk₃ hPv hst₃ hk₃ => ?_
      refine wpAny_assign_Name (wpAny_storeName_local hxk (hn'.at' fun o e => hk₃ _ o (nI _ hIC.symm) e) (fun h₄ hn₄ hs₄ => ?_) hpk)
      have up₄ : ∀ b o, b ≠ C → b ≠ I → H.get? b = some o → h₄.get? b = some o := fun b o hbC hbf e => hs₄.extBut b o hbC (hk₃ b o (nI _ hbf) e)
      have hst₄ : St (i + 1) h₄ := W.frame _ _ _ hst₃ fun b hb o e => hs₄.extBut b o (fun h => hCf (by rw [← show b = C from h]; exact hb)) e
      have ks₄ : Keep s.heap h₄ := fun b o e => up₄ b o (sne b o e).1 (sne b o e).2.1 (hk b o (sne b o e).1 (sne b o e).2.1 (sne b o e).2.2 (up _ _ e))
      have hD₄ : h₄.PlainList D zs := hacc'.at fun o e => up₄ _ o hDC hID.symm e
      refine wpAny_mono (hsrc2 C i v _ _ _ hPv hn₄ (by simp) ks₄ under) (fun xv s₅ h₅ => ?_) fun _ _ e => e
      obtain ⟨⟨h5, tk5, rfl, hk5⟩, hfr, hsr2⟩ := h₅
      refine hsr2 _ _ fun I2 fp2 St2 h6 hk6 hI2 W2 hst2 hfp2 hlv2 hfx2 => ?_
      have k46 : Keep h₄ h6 := Keep.trans hk5 hk6
      have hI2n : h₄.get? I2 = none := by
        cases e : h₄.get? I2 with
        | none => rfl
        | some o => have := hk5 _ _ e; rw [show h5.get? I2 = none from hI2] at this; cases this
      have fr2 : ∀ b ∈ fp2, h₄.get? b = none := fun b hb => by
        rcases hfx2 b hb with q | e
        · rw [q]; exact hI2n
        · exact hfr b e
      have hns6 : h6.Ns C _ := hn₄.keeps k46
      have hC₄ : ∃ o, h₄.get? C = some o := by obtain ⟨o, _, _, ho, _⟩ := hn₄; exact ⟨o, ho⟩
      have hD₄' : ∃ o, h₄.get? D = some o := by obtain ⟨nn, ho⟩ := hD₄; exact ⟨_, ho⟩
      have hCf2 : C ∉ fp2 := fun q => by obtain ⟨o, e⟩ := hC₄; rw [fr2 _ q] at e; cases e
      have hDf2 : D ∉ fp2 := fun q => by obtain ⟨o, e⟩ := hD₄'; rw [fr2 _ q] at e; cases e
      have hI2C : I2 ≠ C := fun q => by obtain ⟨o, e⟩ := hC₄; rw [← q, hI2n] at e; cases e
      have hI2D : I2 ≠ D := fun q => by obtain ⟨o, e⟩ := hD₄'; rw [← q, hI2n] at e; cases e
      have inner : codeAny (model prog w) A (.compLoop (.ListComp elt [⟨.Name x px, iter, [], 0⟩, ⟨.Name y py, i2, ifs, 0⟩] scope pos) 1 (.ref I2) (.ref D) (compEnvC scope cl C env))
          (fun r s₅ => match r with | .ok _ => ∃ m, m < n + 1 - i ∧ OutInv s h2 C I D n n2 St G m s₅ | .error _ => False) { s with heap := h6, toks := tk5 } := by
        have e1 : i * n2 + n2 ≤ n * n2 := by rw [← Nat.succ_mul]; exact Nat.mul_le_mul_right _ hlt
        refine two_inner (v := v) (s := { s with heap := h6, toks := tk5 }) (cenv := compEnvC scope cl C env) W2 (p v) (F v) hxy (by simp) hyk hpk hDC hDf2 hCf2 hI2C hI2D hst2 (hD₄.at fun o e => k46 _ _ e) hns6 ?_ ?_ ?_ (by (first | lia | omega))
        · intro j u s₂ m₂ E' hPu hn2' hmu hmx hkk
          exact ht C i j v u s₂ m₂ E' hPv hPu hn2' hmx hmu (fun b o e => hkk b o (sne b o e).1 (fun q => by have := ks₄ _ _ e; rw [q, hI2n] at this; cases this) (sne b o e).2.2 (k46 _ _ (ks₄ _ _ e))) under
        · intro j u s₂ m₂ E' hPu hpu hn2' hmu hmx hkk
          exact he C i j v u s₂ m₂ E' hPv hPu hpu hn2' hmx hmu (fun b o e => hkk b o (sne b o e).1 (fun q => by have := ks₄ _ _ e; rw [q, hI2n] at this; cases this) (sne b o e).2.2 (k46 _ _ (ks₄ _ _ e))) under
        · intro h7 tk7 m7 ys us hn7 hl7 hlen hPu hF7 hk7
          have fI : ∀ b ∈ fp, ∀ o, h₄.get? b = some o → h7.get? b = some o := fun b hb o e => hk7 b o (fun q => hCf (by rw [← show b = C from q]; exact hb)) (fun q => by rw [q, hI2n] at e; cases e) (fun q => hDf (q ▸ hb)) (k46 _ _ e)
          refine ⟨n + 1 - (i + 1), Nat.sub_lt_sub_left (Nat.lt_succ_of_lt hlt) (Nat.lt_succ_self i), .mk (i + 1) h7 tk7 m7 (zs ++ ys) (W.frame _ _ _ hst₄ fI) hl7 hn7 (by rw [Array.toList_append]; exact hG i v us ys.toList zs.toList hPv hlen hPu hF7 hGi) ?_ hlt rfl ?_⟩
          · have f1 := hF7.length
            have f2 : (us.filter (p v)).length ≤ us.length := List.length_filter_le _ _
            have f3 : ys.toList.length = ys.size := by simp
            rw [Array.size_append, Nat.succ_mul]
            (first | lia | omega)
          · intro b o bC bI bD e
            have e4 := up₄ b o bC bI (hk b o bC bI bD e)
            exact hk7 b o bC (fun q => by rw [q, hI2n] at e4; cases e4) bD (k46 _ _ e4)
      exact two_start1 inner (W2.self 0 _ _ _ hst2 inner)
    · have hin : i = n := Nat.le_antisymm hi (Nat.not_lt.mp hlt)
      subst hin
      refine W.done _ _ _ hst' fun h₃ tk₃ hk₃ => ?_
      refine ⟨m', hn'.at' fun o e => hk₃ _ o (nI _ hIC.symm) e, fun h₄ hs₄ => ?_⟩
      have hl₃ : h₃.IsList D zs := (hacc'.at fun o e => hk₃ _ o (nI _ hID.symm) e).isList
      refine h D h₄ _ zs ?_ (hl₃.extBut hs₄.extBut hDC) hGi fun b o e => hs₄.extBut b o (sne b o e).1 (hk₃ b o (nI _ (sne b o e).2.1) (hk b o (sne b o e).1 (sne b o e).2.1 (sne b o e).2.2 (up _ _ e)))
      cases e : s.heap.get? D with
      | none => rfl
      | some o => exact absurd rfl (sne _ _ e).2.2
  exact codeAny_compStart_list (loop _ rfl) (W.self 0 _ _ _ hst₁ (loop _ rfl))
end
end Mine
end
theorem Mine.calmV2 : True := by w_top off; trivial
section
open PySem PySem.W PyProof.Rows PySem.Calls
set_option maxRecDepth 100000
set_option maxHeartbeats 4000000
set_option linter.unusedVariables false
namespace Mine
def pTw : Value → Value → Bool
  | .int a _, .int k _ => decide (16 ^ k.toNat ≤ a.toNat)
  | _, _ => false
def FTw (v u q : Value) : Prop := ∀ (a k : Nat) t t', v = .int (a : Int) t → u = .int (k : Int) t' → k ≤ 3 → ∃ t'', q = .int ((a / 16 ^ k : Nat) : Int) t''
theorem headsOf_take {ds : List Nat} {i : Nat} (h : i < ds.length) : headsOf (ds.take (i + 1)) = headsOf (ds.take i) ++ (([0, 1, 2, 3].filter fun k => decide (16 ^ k ≤ ds.getD i 0)).map fun k => ds.getD i 0 / 16 ^ k) := by
  unfold headsOf
  rw [List.take_add_one, List.flatMap_append, List.getElem?_eq_getElem h]
  simp [List.getD_eq_getElem?_getD, h]
theorem heads_turn {d : Nat} {t : Tok} {us ys : List Value} (hl : us.length = 4) (hu : ∀ (j : Nat) (u : Value), us[j]? = some u → j < 4 ∧ ∃ t, u = .int (j : Int) t) (hp : Paired (FTw (.int (d : Int) t)) (us.filter (pTw (.int (d : Int) t))) ys) :
    IntsAre ys (intsL (([0, 1, 2, 3].filter fun k => decide (16 ^ k ≤ d)).map fun k => d / 16 ^ k)) := by
  obtain ⟨a, b, c, e, rfl⟩ := len4 hl
  obtain ⟨_, t0, rfl⟩ := hu 0 a rfl
  obtain ⟨_, t1, rfl⟩ := hu 1 b rfl
  obtain ⟨_, t2, rfl⟩ := hu 2 c rfl
  obtain ⟨_, t3, rfl⟩ := hu 3 e rfl
  have key : ∀ (ks : List Nat) (ws : List Value), (∀ k ∈ ks, k ≤ 3) → Paired (fun (k : Nat) (v : Value) => ∃ t, v = .int (k : Int) t) ks ws → ∀ ys, Paired (FTw (.int (d : Int) t)) (ws.filter (pTw (.int (d : Int) t))) ys →
      IntsAre ys (intsL ((ks.filter fun k => decide (16 ^ k ≤ d)).map fun k => d / 16 ^ k)) := by
    intro ks ws hk hw
    induction hw with
    | nil => intro ys h; cases h; exact .nil
    | cons e r ih =>
      rename_i k v ks ws
      obtain ⟨tv, rfl⟩ := e
      intro ys h
      have hk3 := hk k (.head _)
      have ih := ih (fun k hk' => hk k (.tail _ hk'))
      by_cases q : 16 ^ k ≤ d
      · rw [List.filter_cons_of_pos (by simpa [pTw] using q)] at h
        rw [List.filter_cons_of_pos (by simpa using q)]
        cases h with
        | cons e r =>
          obtain ⟨t'', rfl⟩ := e d k _ _ rfl rfl hk3
          exact .cons _ t'' (ih _ r)
      · rw [List.filter_cons_of_neg (by simpa [pTw] using q)] at h
        rw [List.filter_cons_of_neg (by simpa using q)]
        exact ih _ h
  exact key [0, 1, 2, 3] _ (by simp) (.cons ⟨t0, rfl⟩ (.cons ⟨t1, rfl⟩ (.cons ⟨t2, rfl⟩ (.cons ⟨t3, rfl⟩ .nil)))) ys hp
theorem list_ne_cell {h : Heap} {T c : Addr} {its : Array Value} {v : Option Value} (hc : h.IsCell c v) (hT : h.IsList T its) : T ≠ c := fun q => by
  obtain ⟨o, e, _, n, hd⟩ := hT
  obtain ⟨o2, e2, hd2⟩ := hc
  rw [q, e2] at e; cases e; rw [hd] at hd2; cases hd2
theorem intsAre_ofN : ∀ {vs : List Value} {ds : List Nat}, vs.length = ds.length → (∀ (j : Nat) (v : Value), vs[j]? = some v → ∃ (d : Nat) (t : Tok), v = .int (d : Int) t ∧ ds[j]? = some d) → IntsAre vs (intsL ds)
  | [], [], _, _ => .nil
  | v :: vs, d :: ds, hl, h => by
    obtain ⟨d', t, rfl, e⟩ := h 0 v rfl
    cases e
    exact .cons _ t (intsAre_ofN (by simpa using hl) fun j v hv => h (j + 1) v hv)
theorem glb_snoc : ∀ (x : List Nat) (l : List (List Nat)) (u : List Nat), glb x (l ++ [u]) = lcp (glb x l) u
  | _, [], _ => rfl
  | x, y :: l, u => glb_snoc (lcp x y) l u
theorem ends_of {α : Type} {l : List α} (h : 2 ≤ l.length) : ∃ x r y, l = x :: r ++ [y] ∧ r.length + 2 = l.length := by
  match l, h with
  | x :: z :: t, _ =>
    refine ⟨x, (z :: t).dropLast, (z :: t).getLast (by simp), ?_, by simp⟩
    rw [List.cons_append, List.dropLast_concat_getLast]
theorem walk_row {ds : List Nat} {ess : List (List Nat)} (hdlt : ∀ d ∈ ds, d < 65536) (hperm : ess.Perm (ds.map digs)) (hsort : ess.Pairwise (fun a b => lex ltN b a = false)) :
    ess = (walkR ds (fun k => decide (k ∈ headsOf ds)) 4 0).map digs := by
  have hS := headsOf_set hdlt
  exact sorted_uniq (hperm.trans ((walk_perm hS hdlt).map digs).symm) hsort (List.pairwise_map.mpr (walk_sorted hS 4 0))
theorem SetU.but {w : World} {h h' : Heap} {P Z : Addr} {zs : List Nat} (x : SetU w h P zs) (hZ : P ≠ Z) (k : KeepB [Z] h h') : SetU w h' P zs := by
  obtain ⟨o, S', n, e, r⟩ := x; exact ⟨o, S', n, k _ _ (fun q => hZ (List.mem_singleton.mp q)) e, r⟩
theorem IsList.but {h h' : Heap} {D Z : Addr} {ys : Array Value} (x : h.IsList D ys) (hZ : D ≠ Z) (k : KeepB [Z] h h') : h'.IsList D ys := by
  obtain ⟨o, e, r⟩ := x; exact ⟨o, k _ _ (fun q => hZ (List.mem_singleton.mp q)) e, r⟩
section
variable {w : World} {s : Shared} {A : Around} {Q E : Value → Shared → Prop} {env : Env}
theorem item_bytes {l : Addr} {us : List Value} {ls : List (List UInt8)} {k : Nat} {u : Tok} (hl : s.heap.IsList l us.toArray) (hi : BytesAre us ls) (hk : k < us.length) (hd : us.length ≤ 1000) (h : ∀ b t, ls[k]? = some b.toList → Q (.bytes b t) s) :
    ItemOn (mdl w) A E (.ref l) (.int (k : Int) u) Q s := by
  obtain ⟨b, t, e, e2⟩ := hi.get hk
  have h9 : (2 : Int) ^ 63 = 9223372036854775808 := by decide
  exact ⟨"list", _, list_getitem_lookup, hl.typeIs, wpAny_getItem_list hl (Int.natCast_nonneg k) (by (first | lia | omega)) (x := .bytes b t) (by rw [Int.toNat_natCast]; simpa using e) (h b t e2)⟩
/-- two ways' commonpath, in a list of their own -/
theorem cp2 {b1 b2 : Array UInt8} {t1 t2 : Tok} {x y : List Nat} (O : Ok w s.heap) (rm : Room A 20) (h1 : b1.toList = way x) (h2 : b2.toList = way y) (hx : Num x) (hy : Num y)
    (h : ∀ b t h' tk, b.toList = way (lcp x y) → Keep s.heap h' → Q (.bytes b t) { s with heap := h', toks := tk }) :
    Keep s.heap (s.heap.push { cls := .type "list", data := .seq [Value.bytes b1 t1, .bytes b2 t2].toArray }) ∧ wpAny (mdl w) A (call (.ref 120) [.ref s.heap.objs.size]) Q E { s with heap := s.heap.push { cls := .type "list", data := .seq [Value.bytes b1 t1, .bytes b2 t2].toArray } } := by
  have kp : ∀ o : Obj, Keep s.heap (s.heap.push o) := fun o b x e => Heap.get?_push_of_some _ e
  refine ⟨kp _, ?_⟩
  refine cp (s := { s with heap := s.heap.push { cls := .type "list", data := .seq [Value.bytes b1 t1, .bytes b2 t2].toArray } }) (vs := [.bytes b1 t1, .bytes b2 t2]) (x := x) (r := [y]) (O.keeps (kp _)) rm ⟨_, Heap.get?_push_size _ rfl, rfl, _, rfl⟩ (.cons h1 (.cons h2 .nil)) ?_ (by simp) ?_
  · intro z hz
    simp only [List.mem_cons, List.not_mem_nil, or_false] at hz
    rcases hz with rfl | rfl
    · exact hx
    · exact hy
  · intro b t h' tk hb k
    exact h b t h' tk (by rw [hb]; rfl) (Keep.trans (kp _) k)
end
end Mine
end
theorem Mine.calmV3 : True := by w_top off; trivial
section
open PySem PySem.W PyProof.Rows PySem.Calls
set_option maxRecDepth 100000
set_option maxHeartbeats 4000000
set_option linter.unusedVariables false
namespace Mine
theorem paired_depths {vs ys : List Value} {zs : List (List Nat)} (x : BytesAre vs (zs.map way)) (hn : ∀ z ∈ zs, Num z) (y : Paired (fun v y => ∀ b t z, v = Value.bytes b t → b.toList = way z → Num z → ∃ u, y = Value.int ((z.length : Nat) : Int) u) vs ys) : IntsAre ys (intsL (zs.map List.length)) := by
  induction zs generalizing vs ys with
  | nil => cases x; cases y; exact .nil
  | cons z zs ih =>
    cases x with
    | cons hb r =>
      cases y with
      | cons e q =>
        obtain ⟨u, rfl⟩ := e _ _ z rfl hb (hn z (.head _))
        exact .cons _ u (ih r (fun y hy => hn y (.tail _ hy)) q)
theorem between_len : ∀ (l : List (List Nat)), (between l).length = l.length - 1
  | [] => rfl
  | [_] => rfl
  | x :: y :: r => by
    have := between_len (y :: r)
    simp only [between, List.length_cons] at *
    (first | lia | omega)
theorem between_get : ∀ (l : List (List Nat)) (k : Nat), k + 1 < l.length → (between l).getD k 0 = (lcp (l.getD k []) (l.getD (k + 1) [])).length
  | [], k, h => by simp at h
  | [_], k, h => by simp at h
  | x :: y :: r, 0, h => by simp [between]
  | x :: y :: r, k + 1, h => by
    have := between_get (y :: r) k (by simpa using h)
    simpa [between] using this
theorem paired_at {bs : List Nat} {j : Nat} {vs ys : List Value} (hv : ∀ (i : Nat) (v : Value), vs[i]? = some v → ∃ t, v = .int (((j + i : Nat)) : Int) t)
    (y : Paired (fun v y => ∀ (k : Nat) (t : Tok), v = Value.int ((k : Nat) : Int) t → k < bs.length → ∃ u, y = Value.int ((bs.getD k 0 : Nat) : Int) u) vs ys) (hl : j + vs.length = bs.length) : IntsAre ys (intsL (bs.drop j)) := by
  induction y generalizing j with
  | nil => rw [List.drop_of_length_le (i := j) (Nat.le_of_eq hl.symm)]; exact .nil
  | @cons v _ vs _ e _ ih =>
    have hl' : j + 1 + vs.length = bs.length := (Nat.add_right_comm j 1 vs.length).trans hl
    have hj : j < bs.length := hl' ▸ Nat.lt_of_lt_of_le (Nat.lt_succ_self j) (Nat.le_add_right _ _)
    obtain ⟨t, rfl⟩ := hv 0 v rfl
    obtain ⟨u, rfl⟩ := e j t rfl hj
    have ih := ih (j := j + 1) (fun i v h => by rw [Nat.add_right_comm]; exact hv (i + 1) v h) hl'
    rw [List.drop_eq_getElem_cons hj]
    have : bs.getD j 0 = bs[j] := by rw [List.getD_eq_getElem?_getD, List.getElem?_eq_getElem hj]; rfl
    rw [this]
    exact .cons _ u ih
theorem glb_take {dz : List Nat} {dr : List (List Nat)} {i : Nat} (h1 : 1 ≤ i) (h : i - 1 < dr.length) : lcp (glb dz (dr.take (i - 1))) (dr.getD (i - 1) []) = glb dz (dr.take i) := by
  have e : dr.take i = dr.take (i - 1) ++ [dr.getD (i - 1) []] := by
    obtain ⟨k, rfl⟩ : ∃ k, i = k + 1 := ⟨i - 1, by (first | lia | omega)⟩
    rw [List.take_add_one, List.getElem?_eq_getElem (by simpa using h)]
    simp [List.getD_eq_getElem?_getD, List.getElem?_eq_getElem (show k < dr.length by simpa using h)]
  rw [e, glb_snoc]
theorem setU_ne_tab {w : World} {h : Heap} {P T : Addr} {zs : List Nat} {ps : Array Value} (x : SetU w h P zs) (e : h.get? T = some (tabObj ps)) : P ≠ T := fun q => by
  obtain ⟨oP, _, _, ePA, sPA, _⟩ := x
  obtain ⟨_, es, ep, tt, hd, _⟩ := sPA
  rw [q, e] at ePA; cases ePA; cases hd
end Mine
end
theorem Mine.calmLW : True := by w_top off; trivial
section
open PySem PySem.W PyProof.Rows PySem.Calls
open PySem.Builtin
set_option maxRecDepth 100000
set_option maxHeartbeats 4000000
set_option linter.unusedVariables false
namespace Mine
theorem GrownAt.keeps {P : Addr} {h h' : Heap} (x : GrownAt P h) (k : Keep h h') : GrownAt P h' := by obtain ⟨ps, e⟩ := x; exact ⟨ps, k _ _ e⟩
theorem lw : PySem.Challenge.rw_pd0134_01.Holds := by
  refine hdW ?_
  k_go0
  rename_i w s0 s1 mg mb G0 Y fa o pm doc ho hg X V T B TE TW hcd ns hs hlay0 hL1 hr1 hl2 a1 a2 S vs a3 hL ra w1 r0 hI hr hc1 hc2 hD h1 tk1 oA oB dA dB X0 XG TG K F cH1 cH2 NN l0
  clear G0 Y hT8 X V B TE TW hT9 hcd hL1 hr1 hl2 ra w1 r0 hr hc2 hD X0 K hs hlay0 T hL
  have OG : Ok w (ghostOf s1.heap [(162, 160), (126, 122), (191, 189)]) := ⟨XG, ⟨_, _, _, _, _, TG⟩⟩
  have n160 : (ghostOf s1.heap [(162, 160), (126, 122), (191, 189)]).get? 160 = none := hideAll_none _ (by simp)
  have n122 : (ghostOf s1.heap [(162, 160), (126, 122), (191, 189)]).get? 122 = none := hideAll_none _ (by simp)
  have n189 : (ghostOf s1.heap [(162, 160), (126, 122), (191, 189)]).get? 189 = none := hideAll_none _ (by simp)
  generalize ghostOf s1.heap [(162, 160), (126, 122), (191, 189)] = G at *
  have hns : ns.length ≤ 63 := by (first | lia | omega)
  clear hc1
  obtain ⟨L, eL⟩ : ∃ L, L = s1.heap.objs.size := ⟨_, rfl⟩
  rw [← eL] at F NN l0 ⊢
  clear eL
  refine wpAny_mono (Q := fun f s' => f = .ret (.bool true) ∧ ∃ h' tk', s' = { s1 with heap := h', toks := tk' } ∧ Keep G h' ∧ GrownAt 160 h' ∧ GrownAt 122 h' ∧ GrownAt 189 h') (E := fun _ _ => False) ?run ?post (fun _ _ e => e.elim)
  case post =>
    rintro f s' ⟨rfl, h', tk', rfl, hk, g1, g2, g3⟩
    refine ⟨⟨.inl ⟨.bool true, .bool true, [], rfl, ?_, .bool true, ?_, ?_⟩, hk, rfl, hg⟩, g1, g2, g3, trivial⟩
    · intro cls; rfl
    · first | rfl | kernel_rfl! | with_unfolding_all rfl | decide +kernel | (simp [PySem.Challenge.rw_pd0134_01, OpenLaw.row]; done)
    · intro _; exact ⟨List.nodup_nil, fun a ha => nomatch ha⟩
  case run =>
    refine arr_up (dp := 302) (un := 100) rfl (by show _ ≤ _; first | exact (by decide : 1 + claimMargin ≤ 302) | exact (by decide : 1 + claimMargin + 1 ≤ 302)) (by first | exact (by decide : 4 ≤ 100) | exact (by decide : 4 + 3 ≤ 100)) ?_
    refine hideQ fun QQ hQQ => ?_
    have O1 : Ok w h1 := OG.keeps F.keep
    have hS1 : h1.IsList S vs.toArray := IsList.keeps' lifted F.keep
    have X1 : Led G h1 L [(L + 1 + 1, oA), (L + 1, oB), (160, tabObj #[]), (122, tabObj #[]), (189, tabObj #[])] := ⟨NN, by
      obtain ⟨l1, l2, l3⟩ := l0
      have e1 : L + 1 + 1 ≠ 160 := by (first | lia | omega)
      have e2 : L + 1 + 1 ≠ 122 := by (first | lia | omega)
      have e3 : L + 1 + 1 ≠ 189 := by (first | lia | omega)
      have e4 : L + 1 ≠ 160 := by (first | lia | omega)
      have e5 : L + 1 ≠ 122 := by (first | lia | omega)
      have e6 : L + 1 ≠ 189 := by (first | lia | omega)
      have e7 : L + 1 + 1 ≠ L + 1 := by (first | lia | omega)
      simp [e1, e2, e3, e4, e5, e6]⟩
    clear NN l0
    -- sizes = _law_numbers(script)
    refine wpAny_execs_cons ?_
    refine wpAny_Assign_Name ?_
    refine call1 O1 (by k_is) ⟨_, _, _, _, by k_is⟩ ?_
    refine ld_local F.ns (v := .ref S) (by rfl) ⟨Keep.refl _, ?_⟩
    refine numbers_c hS1 (by rw [List.toList_toArray]; exact hI) hns O1 ⟨rfl, by decide, by decide⟩ ?_
    intro D1 h2 tk2 ds ys1 hl1 hi1 hd8 hdlt hD1 k2
    obtain ⟨oD1, eD1, cD1, nD1, dD1⟩ := id hl1
    have X2 := (X1.keep k2).add X1 F hD1 eD1
    have F2 := F.keeps k2
    refine wpAny_storeName_cell (by rfl) (by rfl) (c := L + 1) (by rfl) (X2.cell (i := 2) rfl dB) ?_
    intro h3 sz3 hs3
    obtain ⟨oS, eS, dS⟩ := sz3
    have X3 := X2.set (i := 2) rfl (fun b o nb e => hs3.extBut b o (fun q => nb (List.mem_singleton.mpr q)) e) eS
    have F3 := X2.fr (i := 2) rfl F2 (fun b o nb e => hs3.extBut b o (fun q => nb (List.mem_singleton.mpr q)) e)
    dsimp only [List.set] at X3
    clear X2 F2 hs3 eD1 hl1 X1 F k2
    -- numbers
    refine wpAny_execs_cons ?_
    refine alc_free F3 rfl (n := 8) (P := fun i v => i < 8 ∧ ∃ t, v = .int (i : Int) t) (fun _ => true) (fun v y => ∀ k t, v = .int ((k : Nat) : Int) t → k < 8 → ∃ z u, y = .int z u ∧ z.natAbs = ds.getD k 0) ?s2src (by rw [sizeLine_eq]; decide) ?s2t ?s2e ?s2h
    case s2src =>
      refine callT1 (OG.keeps F3.keep) (by k_is) boot_range ?_
      refine wpAny_Constant_int ?_
      refine call_range_1 ?_
      exact ⟨keeps_of fun b o e => Heap.get?_push_of_some _ e, src_range8 (by rfl) (IsRange.new ..) (by decide) (by decide)⟩
    case s2t => intro C i v s₃ m₃ E' hP hns hm hk _; exact wpAny_tests_nil ⟨rfl, Keeps.refl _⟩
    case s2e =>
      intro C i v s₃ m₃ E' hP _ hns hm hk hu'
      obtain ⟨hi8, u1, rfl⟩ := hP
      have c3 : s₃.heap.IsCell (L + 1) (some (.ref D1)) := (X3.keep hk).cell (i := 2) rfl dS
      have l3 : s₃.heap.IsList D1 ys1 := (X3.keep hk).list (i := 0) rfl cD1 dD1
      have hres : ∀ z u, z.natAbs = ds.getD i 0 → (∀ (k : Nat) (t : Tok), Value.int (i : Int) u1 = .int (k : Int) t → k < 8 → ∃ z' u', Value.int z u = .int z' u' ∧ z'.natAbs = ds.getD k 0) := fun z u hz k t e _ => by
        injection e with e _
        have : i = k := by (first | lia | omega)
        exact ⟨z, u, rfl, this ▸ hz⟩
      refine wpAny_IfExp ?_
      refine wpAny_isTrue_Compare1 ?_
      refine wpAny_BinOp ?_
      refine ld_local hns hm ?_
      refine wpAny_Constant_int ?_
      refine mod_int (by decide) ?_
      refine wpAny_Constant_int ?_
      refine PyProof.Rows.eq_int ?_
      refine wpAny_truthy_bool ?_
      split
      · refine sub_nat (k := i) (u := u1) (Rd.cell (c := L + 1) c3) (Rd.local hns hm) l3 hi1 (by (first | lia | omega)) (by (first | lia | omega)) fun t => ?_
        exact ⟨hres _ _ (by rw [Int.natAbs_natCast]), keeps_of fun _ _ e => e⟩
      · refine UnaryOp_ ?_
        refine sub_nat (k := i) (u := u1) (Rd.cell (c := L + 1) c3) (Rd.local hns hm) l3 hi1 (by (first | lia | omega)) (by (first | lia | omega)) fun t => ?_
        refine PyProof.Rows.neg_int ?_
        exact ⟨hres _ _ (by rw [Int.natAbs_neg, Int.natAbs_natCast]), keeps_of fun _ _ e => e⟩
    case s2h =>
      intro D2 h4 tk4 ys2 vs2 hD2 hl2 hlen hP hpair F4 k4
      rw [show vs2.filter (fun _ => true) = vs2 from List.filter_eq_self.mpr (fun _ _ => rfl)] at hpair
      obtain ⟨zs, hzs, hzl, hza⟩ := paired_zs (j := 0) (fun i v h => by obtain ⟨_, t, e⟩ := hP i v h; exact ⟨t, by rw [e, Nat.zero_add]⟩) hpair (by (first | lia | omega))
      obtain ⟨oD2, eD2, cD2, nD2, dD2⟩ := id hl2
      have X4 := (X3.butL (KeepB.one k4)).add X3 F3 hD2 eD2
      have hza' : zs.map Int.natAbs = ds := abs_map (by (first | lia | omega)) hza
      have hzb : ∀ z ∈ zs, z.natAbs < 65536 := fun z hz => hdlt _ (hza' ▸ List.mem_map_of_mem hz)
      have hl2' : ys2.size = 8 := by have := hzs.length; rw [Array.length_toList] at this; (first | lia | omega)
      clear hD2 eD2 hpair hP k4 X3 F3 eS
      show wpAny _ _ (execs _ _) _ _ _
      -- ways
      refine wpAny_execs_cons ?_
      refine alc_lam (P := 160) (line := 176) (col := 18) (qual := "_law_made.<locals>.<lambda>") (l := D2) (items := ys2) (fun v y => ∀ z t, v = Value.int z t → ∃ b u, y = .bytes b u ∧ b.toList = way (digs z.natAbs)) F4 rfl rfl n160 (X4.neL 4 rfl) (.inl (X4.get 4 rfl)) hl2
        (fun Q E q => ld_local F4.ns (v := .ref D2) (by rfl) q) (by rw [sizeLine_eq]; (first | lia | omega)) ?s3e ?s3h
      case s3e =>
        intro C i v s₃ m₃ E' hv hns hm hk lt hu'
        obtain ⟨z, t, rfl, hz⟩ := ints_mem hzs (by rw [Array.mem_toList_iff]; exact Array.mem_of_getElem? hv)
        have kG : Keep G s₃.heap := fun b o e => hk b o (fun q => by rw [List.mem_singleton.mp q, n160] at e; cases e) (F4.keep _ _ e)
        refine call1 (OG.keeps kG) (by k_is) ⟨_, _, _, _, by k_is⟩ ?_
        refine ld_local hns hm ⟨Keep.refl _, ?_⟩
        refine made (n := z.natAbs) rfl (hzb z hz) ⟨OG, kG, n160, cH1⟩ lt ⟨rfl, by decide, by decide⟩ fun b t h' tk hb k' lt' => ⟨fun z' t' e => ?_, h', tk, rfl, k', lt'⟩
        cases e
        exact ⟨b, t, rfl, hb⟩
      case s3h =>
        intro D3 h5 tk5 ys3 hD3 hl3 hpair F5 k5 lt5
        have hb3 := paired_ways (f := fun z => way (digs z.natAbs)) hzs hpair
        rw [show (fun z : Int => way (digs z.natAbs)) = (way ∘ digs) ∘ Int.natAbs from rfl, ← List.map_map, hza'] at hb3
        obtain ⟨ps, e160⟩ : ∃ ps, h5.get? 160 = some (tabObj ps) := by rcases lt5 with e | ⟨_, e, _⟩ <;> exact ⟨_, e⟩
        obtain ⟨oD3, eD3, cD3, nD3, dD3⟩ := id hl3
        have X5 := X4.set2 (i := 4) rfl k5 e160
        dsimp only [List.set] at X5
        have X6 := X5.add X4 F4 hD3 eD3
        have hu3 := hb3.length
        rw [List.length_map] at hu3
        clear X4 X5 F4 hl2 eD3 hpair k5 lt5 hD3 e160
        show wpAny _ _ (execs _ _) _ _ _
        -- if ways != [...]
        refine wpAny_execs_cons ?_
        refine wpAny_If ?_
        refine wpAny_isTrue_Compare1 ?_
        refine ld_local F5.ns (v := .ref D3) (by rfl) ?_
        have c5 : h5.IsCell (L + 1) (some (.ref D1)) := X6.cell (i := 4) rfl dS
        have l51 : h5.IsList D1 ys1 := X6.list (i := 2) rfl cD1 dD1
        have hy1 : ys1.size = 8 := by have := hi1.length; rw [Array.length_toList, List.length_map] at this; (first | lia | omega)
        refine lc_free (n := ys1.size) (P := fun i v => ys1[i]? = some v) (fun _ => true) (fun v y => ∀ z t, v = Value.int z t → ∃ b u, y = .bytes b u ∧ b.toList = way (digs z.natAbs))
          ((Rd.cell (c := L + 1) c5) _ _ _ (Keep.refl _) ⟨Keeps.refl _, src_list rfl l51⟩) (by rw [sizeLine_eq]; (first | lia | omega)) ?_ ?_ ?_
        · intro C i v s₃ m₃ E' hP hns hm hk _; exact wpAny_tests_nil ⟨rfl, Keeps.refl _⟩
        · intro C i v s₃ m₃ E' hP _ hns hm hk hu'
          obtain ⟨z, t, rfl, hz⟩ := ints_mem hi1 (by rw [Array.mem_toList_iff]; exact Array.mem_of_getElem? hP)
          obtain ⟨d, hd, rfl⟩ := List.mem_map.mp hz
          have O3 : Ok w s₃.heap := OG.keeps (Keep.trans F5.keep hk)
          refine call1 O3 (by k_is) ⟨_, _, _, _, by k_is⟩ ?_
          refine ld_local hns hm ⟨Keep.refl _, ?_⟩
          refine way_c (hdlt d hd) O3 ⟨rfl, by decide, by decide⟩ fun b t h' tk hb k' => ⟨fun z' t' e => ?_, keeps_of k'⟩
          cases e
          exact ⟨b, t, rfl, by rw [Int.natAbs_natCast]; exact hb⟩
        intro D4 h6 tk6 ys4 vs4 hD4 hl4 hlen4 hP4 hpair4 k6
        have hv4 : vs4 = ys1.toList := vs_eq (by rw [hlen4, Array.length_toList]) (by simpa using hP4)
        rw [show vs4.filter (fun _ => true) = vs4 from List.filter_eq_self.mpr (fun _ _ => rfl), hv4] at hpair4
        have hb4 := paired_ways (f := fun z => way (digs z.natAbs)) hi1 hpair4
        rw [show (intsL ds).map (fun z : Int => way (digs z.natAbs)) = ds.map (way ∘ digs) by
          rw [List.map_map]; apply List.map_congr_left; intro d _; simp] at hb4
        have F6 := F5.keeps k6
        have X7 := X6.keep k6
        have l63 : h6.IsList D3 ys3 := X7.list (i := 0) rfl cD3 dD3
        refine ne_same (us := ys3.toList) (ws := ys4.toList) (by rw [Array.toArray_toList]; exact l63) (by rw [Array.toArray_toList]; exact hl4) hb3 hb4 (by decide) ?_
        refine wpAny_truthy_bool ?_
        simp only [Bool.false_eq_true, if_false]
        refine wpAny_execs_nil ?_
        clear X6 F5 k6 hpair4 hP4 hlen4 hl4 hD4 c5 l51 hl3
        show wpAny _ _ (execs _ _) _ _ _
        -- for k in range(8): for m in range(k)
        refine wpAny_execs_cons ?_
        obtain ⟨NW, hNW⟩ : ∃ l : List (Addr × Obj), l = [(D3, oD3), (D2, oD2), (D1, oD1), (L + 1 + 1, oA), (L + 1, oS), (160, tabObj ps), (122, tabObj #[]), (189, tabObj #[])] := ⟨_, rfl⟩
        refine for_free (n := 8) (P := fun i v => i < 8 ∧ ∃ t, v = .int (i : Int) t) F6 (by rw [hNW]; exact X7.news) rfl (fun i m nw => nw = NW ∧ m "ways" = some (.ref D3)) ?s5src ⟨rfl, by rfl⟩ ?s5step ?s5h
        case s5src =>
          refine callT1 (OG.keeps F6.keep) (by k_is) boot_range ?_
          refine wpAny_Constant_int ?_
          refine call_range_1 ?_
          refine ⟨keeps_of fun b o e => Heap.get?_push_of_some _ e, fun q => ?_, src_range8 (by rfl) (IsRange.new ..) (by decide) (by decide)⟩
          have hlt : L < h6.objs.size := F6.ns.lt
          injection q with q
          exact Nat.ne_of_gt hlt q
        case s5step =>
          rintro k vk h7 tk7 m7 nw7 hk8 ⟨_, tk', rfl⟩ ⟨rfl, ew7⟩ F7 N7 kb7
          refine hideQ fun Q5 hQ5 => ?_
          refine wpAny_execs_cons ?_
          refine for_free (n := k) (P := fun i v => i < k ∧ ∃ t, v = .int (i : Int) t) F7 N7 rfl (fun i m nw => nw = nw7 ∧ m "ways" = some (.ref D3) ∧ m "k" = some (.int (k : Int) tk')) ?src ⟨rfl, by simp only [if_neg (show (Str.ofString "ways" ≠ Str.ofString "k") by decide)]; exact ew7, by rfl⟩ ?step ?fin
          case src =>
            refine callT1 (OG.keeps F7.keep) (by k_is) boot_range ?_
            refine ld_local F7.ns (v := .int (k : Int) tk') (by rfl) ?_
            refine call_range_1 ?_
            refine ⟨keeps_of fun b o e => Heap.get?_push_of_some _ e, fun q => ?_, src_range8 (by rfl) (IsRange.new ..) ?_ ?_⟩
            · have hlt : L < h7.objs.size := F7.ns.lt
              injection q with q
              exact Nat.ne_of_gt hlt q
            · have : ∀ i : _root_.Fin 8, Builtin.Range.small 0 ((i.val : Nat) : Int) 1 = true := by decide
              exact this ⟨k, hk8⟩
            · have : ∀ i : _root_.Fin 8, Builtin.Range.rangeSize 0 ((i.val : Nat) : Int) 1 = ((i.val : Nat) : Int) := by decide
              exact this ⟨k, hk8⟩
          case fin =>
            rintro h8 tk8 m8 nw8 ⟨rfl, e1, e2⟩ F8 N8 kb8
            refine wpAny_execs_nil ?_
            refine hQ5 _ _ ?_
            exact ⟨h8, _, m8, _, rfl, F8, ⟨rfl, e1⟩, kb8, fun p hp => ⟨(N8 p hp).1, .inl (List.mem_map_of_mem hp)⟩⟩
          case step =>
            rintro i vi h8 tk8 m8 nw8 hi ⟨_, ti, rfl⟩ ⟨rfl, e1, e2⟩ F8 N8 kb8
            refine hideQ fun Q6 hQ6 => ?_
            have X8 : Led G h8 L [(D3, oD3), (D2, oD2), (D1, oD1), (L + 1 + 1, oA), (L + 1, oS), (160, tabObj ps), (122, tabObj #[]), (189, tabObj #[])] := ⟨hNW ▸ N8, X7.nd⟩
            have O8 : Ok w h8 := OG.keeps F8.keep
            have l83 : h8.IsList D3 ys3.toList.toArray := by rw [Array.toArray_toList]; exact X8.list (i := 0) rfl cD3 dD3
            have l81 : h8.IsList D1 ys1 := X8.list (i := 2) rfl cD1 dD1
            have c8 : h8.IsCell (L + 1) (some (.ref D1)) := X8.cell (i := 4) rfl dS
            have hk' : k < ys3.toList.length := by (first | lia | omega)
            have hi' : i < ys3.toList.length := by (first | lia | omega)
            have hgd : ∀ j, j < 8 → ds.getD j 0 < 65536 := fun j hj => by
              have : j < ds.length := by (first | lia | omega)
              rw [List.getD_eq_getElem?_getD, List.getElem?_eq_getElem this]
              exact hdlt _ (List.getElem_mem this)
            have hmw : (fun y => if y = Str.ofString "m" then some (Value.int (i : Int) ti) else m8 y) "ways" = some (.ref D3) := by
              simp only [if_neg (show (Str.ofString "ways" ≠ Str.ofString "m") by decide)]; exact e1
            have hmk : (fun y => if y = Str.ofString "m" then some (Value.int (i : Int) ti) else m8 y) "k" = some (.int (k : Int) tk') := by
              simp only [if_neg (show (Str.ofString "k" ≠ Str.ofString "m") by decide)]; exact e2
            refine wpAny_execs_cons ?_
            refine wpAny_If ?_
            refine wpAny_isTrue_Compare1 ?_
            refine call1 O8 (by k_is) ⟨_, _, _, _, by k_is⟩ ?_
            refine list2 ?_
            refine sub_bytes (k := i) (u := ti) (Rd.local F8.ns hmw) (Rd.local F8.ns (by rfl)) l83 hb3 hi' (by (first | lia | omega)) fun bi tbi hbi => ?_
            refine sub_bytes (k := k) (u := tk') (Rd.local F8.ns hmw) (Rd.local F8.ns hmk) l83 hb3 hk' (by (first | lia | omega)) fun bk tbk hbk => ?_
            have kp : ∀ o : Obj, Keep h8 (h8.push o) := fun o b x e => Heap.get?_push_of_some _ e
            refine ⟨kp _, ?_⟩
            have hway : ∀ j b, (ds.map (way ∘ digs))[j]? = some b → j < 8 → b = way (digs (ds.getD j 0)) := fun j b e hj => by
              have : j < ds.length := by (first | lia | omega)
              rw [List.getElem?_map, List.getElem?_eq_getElem this] at e
              rw [List.getD_eq_getElem?_getD, List.getElem?_eq_getElem this]
              exact (Option.some.inj e).symm
            have wi := hway i _ hbi (by (first | lia | omega))
            have wk := hway k _ hbk (by (first | lia | omega))
            have ni := num_digs (hgd i (by (first | lia | omega)))
            have nk := num_digs (hgd k (by (first | lia | omega)))
            refine cp (vs := [.bytes bi tbi, .bytes bk tbk]) (x := digs (ds.getD i 0)) (r := [digs (ds.getD k 0)]) (O8.keeps (kp _)) ⟨rfl, by decide, by decide⟩ ⟨_, Heap.get?_push_size _ rfl, rfl, _, rfl⟩ (.cons wi (.cons wk .nil)) ?_ (by simp) ?_
            · intro y hy
              simp only [List.mem_cons, List.not_mem_nil, or_false] at hy
              rcases hy with rfl | rfl
              · exact ni
              · exact nk
            intro bc tbc h9 tk9 hbc k9
            have F9 := (F8.keeps (kp _)).keeps k9
            have O9 : Ok w h9 := OG.keeps F9.keep
            have X9 := (X8.keep (kp _)).keep k9
            have l91 : h9.IsList D1 ys1 := X9.list (i := 2) rfl cD1 dD1
            have c9 : h9.IsCell (L + 1) (some (.ref D1)) := X9.cell (i := 4) rfl dS
            refine call1 O9 (by k_is) ⟨_, _, _, _, by k_is⟩ ?_
            refine call2 O9 (by k_is) ⟨_, _, _, _, by k_is⟩ ?_
            refine sub_nat (k := i) (u := ti) (Rd.cell (c := L + 1) c9) (Rd.local F9.ns (by rfl)) l91 hi1 (by (first | lia | omega)) (by (first | lia | omega)) fun t1 => ?_
            refine sub_nat (k := k) (u := tk') (Rd.cell (c := L + 1) c9) (Rd.local F9.ns hmk) l91 hi1 (by (first | lia | omega)) (by (first | lia | omega)) fun t2 => ⟨Keep.refl _, ?_⟩
            refine met_c (hgd i (by (first | lia | omega))) (hgd k (by (first | lia | omega))) O9 ⟨rfl, by decide, by decide⟩ fun t3 h10 tk10 k10 => ⟨k10, ?_⟩
            have hmet := met_lcp _ (ds.getD i 0) (ds.getD k 0) (Nat.le_refl _) (hgd i (by (first | lia | omega))) (hgd k (by (first | lia | omega)))
            refine way_c hmet.2 (O9.keeps k10) ⟨rfl, by decide, by decide⟩ fun bw tbw h11 tk11 hbw k11 => ?_
            refine ne_bytes ?_
            refine wpAny_truthy_bool ?_
            have eqq : (bc.toList != bw.toList) = false := by
              rw [hbc, hbw, hmet.1]
              simp [glb]
            rw [eqq]
            simp only [Bool.false_eq_true, if_false]
            refine wpAny_execs_nil ?_
            refine wpAny_execs_nil ?_
            have k811 : Keep h8 h11 := Keep.trans (Keep.trans (Keep.trans (kp _) k9) k10) k11
            exact hQ6 _ _ ⟨h11, _, _, _, rfl, F8.keeps k811, ⟨rfl, hmw, hmk⟩, Keep.but k811 _, fun p hp => ⟨k811 _ _ (N8 p hp).1, .inl (List.mem_map_of_mem hp)⟩⟩
        case s5h =>
          rintro h7 tk7 m7 nw7 ⟨rfl, ew7⟩ F7 N7 kb7
          have X8 : Led G h7 L [(D3, oD3), (D2, oD2), (D1, oD1), (L + 1 + 1, oA), (L + 1, oS), (160, tabObj ps), (122, tabObj #[]), (189, tabObj #[])] := ⟨hNW ▸ N7, X7.nd⟩
          clear X7 F6 kb7
          show wpAny _ _ (execs _ _) _ _ _
          -- row = sorted(ways, key=cmp_to_key(_law_compared))
          have O7 : Ok w h7 := OG.keeps F7.keep
          refine wpAny_execs_cons ?_
          refine wpAny_Assign_Name ?_
          refine callKB O7 (by k_is) boot_sorted ?_
          refine ld_local F7.ns ew7 ?_
          refine call1 O7 (by k_is) ⟨_, _, _, _, by k_is⟩ ?_
          refine ld_glob (v := .ref 170) O7 (by k_is) ⟨Keep.refl _, ?_⟩
          refine ck O7 ⟨rfl, by decide, by decide⟩ (fun q hq => by rw [List.mem_singleton.mp hq]; exact ⟨cH2.keeps F7.keep, X8.get 6 rfl⟩) ?_
          intro C h8 tk8 KA k8 gr8
          obtain ⟨ps2, e122⟩ := gr8
          have X9 := X8.set (i := 6) rfl k8 e122
          have F8 := X8.fr (i := 6) rfl F7 k8
          dsimp only [List.set] at X9
          clear X8 F7 k8 O7 N7
          have O8 : Ok w h8 := OG.keeps F8.keep
          have hb3' : BytesAre ys3.toList ((ds.map digs).map way) := by rw [List.map_map]; exact hb3
          refine sorted_K (vs := ys3.toList) (dss := ds.map digs) O8 ⟨rfl, by decide, by decide⟩ KA (by rw [Array.toArray_toList]; exact X9.list (i := 0) rfl cD3 dD3) hb3' ?_ (by (first | lia | omega)) (by (first | lia | omega)) ?_
          · intro y hy
            obtain ⟨d, hd, rfl⟩ := List.mem_map.mp hy
            exact num_digs (hdlt d hd)
          intro DR h9 tk9 us ess hlR hbR hperm hsort k9
          have X10 := X9.keep k9
          have F9 := F8.keeps k9
          clear X9 F8 KA k9 O8 e122
          refine wpAny_storeName_cell (by rfl) (by rfl) (c := L + 1 + 1) (by rfl) (X10.cell (i := 3) rfl dA) ?_
          intro h10 rw10 hs10
          have hRc := list_ne_cell (X10.cell (i := 3) rfl dA) hlR
          obtain ⟨oR, eR, dR⟩ := rw10
          have kb10 : KeepB [L + 1 + 1] h9 h10 := fun b o nb e => hs10.extBut b o (fun q => nb (List.mem_singleton.mpr q)) e
          have X11 := X10.set (i := 3) rfl kb10 eR
          have F10 := X10.fr (i := 3) rfl F9 kb10
          dsimp only [List.set] at X11
          have hlR10 : h10.IsList DR us.toArray := by obtain ⟨o, e, r⟩ := hlR; exact ⟨o, kb10 _ _ (fun q => hRc (List.mem_singleton.mp q)) e, r⟩
          clear X10 F9 hs10 eR kb10 hlR hRc
          show wpAny _ _ (execs _ _) _ _ _
          -- above = set([...])
          have O10 : Ok w h10 := OG.keeps F10.keep
          have c10 : h10.IsCell (L + 1) (some (.ref D1)) := X11.cell (i := 4) rfl dS
          have l101 : h10.IsList D1 ys1 := X11.list (i := 2) rfl cD1 dD1
          refine wpAny_execs_cons ?_
          refine wpAny_Assign_Name ?_
          refine callT1 O10 (by k_is) boot_set ?_
          refine lc_two (n := ys1.size) (n2 := 4) (P := fun i v => ys1[i]? = some v) (P2 := fun j u => j < 4 ∧ ∃ t, u = .int (j : Int) t) pTw FTw
            ((Rd.cell (c := L + 1) c10) _ _ _ (Keep.refl _) ⟨Keeps.refl _, ⟨D1, _, rfl, X11.get 2 rfl⟩, src_list rfl l101⟩) (by rw [sizeLine_eq]; (first | lia | omega)) (by decide) ?a1 ?a2 ?a3 (fun i zs => IntsAre zs (intsL (headsOf (ds.take i)))) .nil ?a4 ?a5
          case a1 =>
            intro C i v s₃ m₃ E' hP hns hm hk hu'
            refine callT1 (O10.keeps hk) (by k_is) boot_range ?_
            refine wpAny_Constant_int ?_
            refine call_range_1 ?_
            exact ⟨keeps_of fun b o e => Heap.get?_push_of_some _ e, fun b e => by (injection e with e; rw [← e]; exact new_none _), src_range8 (by rfl) (IsRange.new ..) (by decide) (by decide)⟩
          case a2 =>
            intro C i j v u s₃ m₃ E' hP hP2 hns hmx hmy hk hu'
            obtain ⟨z, t, rfl, hz⟩ := ints_mem hi1 (by rw [Array.mem_toList_iff]; exact Array.mem_of_getElem? hP)
            obtain ⟨d, hd, rfl⟩ := List.mem_map.mp hz
            obtain ⟨hj, t2, rfl⟩ := hP2
            refine wpAny_tests_one (test16 (n := d) (k := j) (by (first | lia | omega)) (Rd.local hns hmx) (Rd.local hns hmy) fun tk => ⟨by simp [pTw], keeps_of fun _ _ e => e⟩)
          case a3 =>
            intro C i j v u s₃ m₃ E' hP hP2 _ hns hmx hmy hk hu'
            obtain ⟨z, t, rfl, hz⟩ := ints_mem hi1 (by rw [Array.mem_toList_iff]; exact Array.mem_of_getElem? hP)
            obtain ⟨d, hd, rfl⟩ := List.mem_map.mp hz
            obtain ⟨hj, t2, rfl⟩ := hP2
            refine div16 (n := d) (k := j) (by (first | lia | omega)) (Rd.local hns hmx) (Rd.local hns hmy) fun t' tk => ⟨fun a k t t'' e1 e2 _ => ?_, keeps_of fun _ _ e => e⟩
            injection e1 with e1 _
            injection e2 with e2 _
            have : a = d := by (first | lia | omega)
            have : k = j := by (first | lia | omega)
            subst a k
            exact ⟨_, rfl⟩
          case a4 =>
            intro i v us2 ys zs2 hP hl4 hu4 hp4 hG
            have hid : i < ds.length := by
              have := (Array.getElem?_eq_some_iff.mp hP).1; (first | lia | omega)
            obtain ⟨t, e⟩ := intsL_get hi1 hid
            have : v = .int ((ds.getD i 0 : Nat) : Int) t := by
              rw [Array.getElem?_toList, hP] at e; exact Option.some.inj e
            subst this
            rw [headsOf_take hid]
            show IntsAre _ (List.map _ _)
            rw [List.map_append]
            exact hG.append (heads_turn hl4 hu4 hp4)
          case a5 =>
            intro DA h11 tk11 ysA hDA hlA hGA k11
            rw [List.take_of_length_le (by (first | lia | omega))] at hGA
            refine set_c rfl hlA hGA (by have := headsOf_len (ds := ds) (by (first | lia | omega)); (first | lia | omega)) ?_
            intro PA h12 tk12 hSU k12 hPA
            have F12 := (F10.keeps k11).keeps k12
            have X12 := (X11.keep k11).keep k12
            have hlR12 := IsList.keeps' (IsList.keeps' hlR10 k11) k12
            have hPAL : PA ≠ L := fun q => by
              obtain ⟨oL, _, _, hoL, _⟩ := F10.ns
              have := k11 _ _ hoL
              rw [← q, hPA] at this; cases this
            refine store_F F12 rfl ?_
            intro h13 tk13 F13 k13
            have X13 := X12.butL k13
            have hlR13 := IsList.but hlR12 (list_ne F12.ns hlR12) k13
            have hSU13 := hSU.but hPAL k13
            clear X12 F12 hlR12 hSU k13 X11 F10 hlR10 k11 k12 hlA hDA hPA hGA c10 l101 O10
            show wpAny _ _ (execs _ _) _ _ _
            -- if row != [...]
            have hrow := walk_row hdlt hperm hsort
            have hWp := walk_perm (headsOf_set hdlt) hdlt
            have hWlt : ∀ d ∈ walkR ds (fun k => decide (k ∈ headsOf ds)) 4 0, d < 65536 := fun d hd => hdlt d (hWp.mem_iff.mp hd)
            have hWl := hWp.length_eq
            generalize hWR : walkR ds (fun k => decide (k ∈ headsOf ds)) 4 0 = WR at *
            have O13 : Ok w h13 := OG.keeps F13.keep
            have rw13 : h13.IsCell (L + 1 + 1) (some (.ref DR)) := X13.cell (i := 3) rfl dR
            have c13 : h13.IsCell (L + 1) (some (.ref D1)) := X13.cell (i := 4) rfl dS
            have l131 : h13.IsList D1 ys1 := X13.list (i := 2) rfl cD1 dD1
            refine wpAny_execs_cons ?_
            refine wpAny_If ?_
            refine wpAny_isTrue_Compare1 ?_
            refine (Rd.cell (c := L + 1 + 1) rw13) _ _ _ (Keep.refl _) ?_
            refine lc_free (n := WR.length) (P := fun i v => ∃ (d : Nat) (t : Tok), v = .int (d : Int) t ∧ WR[i]? = some d) (fun _ => true) (fun v y => ∀ z t, v = Value.int z t → ∃ b u, y = .bytes b u ∧ b.toList = way (digs z.natAbs)) ?b1 (by rw [sizeLine_eq]; (first | lia | omega)) ?b2 ?b3 ?b4
            case b1 =>
              have fk : FnAt 182 h13 := FnK.at (w := w) ⟨_, _, _, _, by k_is⟩ O13
              refine wpAny_bind (ld_glob (v := .ref 182) O13 (by k_is) ?_)
              refine callWith_F fk ?_ (by rfl) (by rfl)
              refine spliced_cons ?_
              show wpAny _ _ (eval _ _) _ _ _
              refine wpAny_Constant_int ?_
              refine spliced_cons ?_
              show wpAny _ _ (eval _ _) _ _ _
              refine (Rd.cell (c := L + 1) c13) _ _ _ (Keep.refl _) ?_
              refine spliced_cons ?_
              show wpAny _ _ (eval _ _) _ _ _
              refine ld_local F13.ns (v := .ref PA) (by rfl) ?_
              refine spliced_nil ⟨fk, ?_⟩
              have hw := (walked (w := w) (D := D1) (P := PA) (headsOf_set hdlt) (by (first | lia | omega) : ds.length ≤ 8) 4 0 (by (first | lia | omega)) (by (first | lia | omega)) (by (first | lia | omega))).1
              rw [hWR] at hw
              refine hw _ _ _ _ _ ys1 O13 ⟨rfl, by decide, by decide⟩ l131 hi1 hSU13.setN ?_
              intro R h14 tk14 zsR hlR' hiR hR k14
              have hsz : zsR.size = WR.length := by have := hiR.length; rw [Array.length_toList, List.length_map] at this; exact this
              refine ⟨keeps_of k14, ?_⟩
              rw [← hsz]
              refine Src.weak (src_list rfl hlR') fun i v hv => ?_
              have hlt : i < WR.length := by have := (Array.getElem?_eq_some_iff.mp hv).1; (first | lia | omega)
              obtain ⟨t, e⟩ := intsL_get hiR hlt
              rw [Array.getElem?_toList, hv] at e
              refine ⟨WR.getD i 0, t, Option.some.inj e, ?_⟩
              rw [List.getD_eq_getElem?_getD, List.getElem?_eq_getElem hlt]; rfl
            case b2 => intro C i v s₃ m₃ E' hP hns hm hk _; exact wpAny_tests_nil ⟨rfl, Keeps.refl _⟩
            case b3 =>
              intro C i v s₃ m₃ E' hP _ hns hm hk hu'
              obtain ⟨d, t, rfl, hd⟩ := hP
              have O3 : Ok w s₃.heap := O13.keeps hk
              refine call1 O3 (by k_is) ⟨_, _, _, _, by k_is⟩ ?_
              refine ld_local hns hm ⟨Keep.refl _, ?_⟩
              refine way_c (hWlt d (List.mem_of_getElem? hd)) O3 ⟨rfl, by decide, by decide⟩ fun b t h' tk hb k' => ⟨fun z' t' e => ?_, keeps_of k'⟩
              cases e
              exact ⟨b, t, rfl, by rw [Int.natAbs_natCast]; exact hb⟩
            case b4 =>
              intro D5 h14 tk14 ys5 vs5 hD5 hl5 hlen5 hP5 hpair5 k14
              rw [show vs5.filter (fun _ => true) = vs5 from List.filter_eq_self.mpr (fun _ _ => rfl)] at hpair5
              have hb5 := paired_ways (f := fun z => way (digs z.natAbs)) (intsAre_ofN hlen5 hP5) hpair5
              rw [show (intsL WR).map (fun z : Int => way (digs z.natAbs)) = ess.map way by
                rw [hrow, List.map_map, List.map_map]; apply List.map_congr_left; intro d _; simp] at hb5
              have F14 := F13.keeps k14
              have X14 := X13.keep k14
              have hlR14 := IsList.keeps' hlR13 k14
              have hSU14 := hSU13.keeps k14
              refine ne_same (us := us) (ws := ys5.toList) hlR14 (by rw [Array.toArray_toList]; exact hl5) hbR hb5 (by decide) ?_
              refine wpAny_truthy_bool ?_
              simp only [Bool.false_eq_true, if_false]
              refine wpAny_execs_nil ?_
              clear X13 F13 hlR13 hSU13 k14 hpair5 hP5 hlen5 hl5 hD5 c13 l131 rw13 O13
              show wpAny _ _ (execs _ _) _ _ _
              -- whole = commonpath(row)
              have hel : ess.length = 8 := by have := hperm.length_eq; rw [List.length_map] at this; (first | lia | omega)
              have husl : us.length = 8 := by have := hbR.length; rw [List.length_map] at this; (first | lia | omega)
              have hnum : ∀ z ∈ ess, Num z := fun z hz => by
                obtain ⟨d, hd, rfl⟩ := List.mem_map.mp (hperm.mem_iff.mp hz)
                exact num_digs (hdlt d hd)
              obtain ⟨x, r, y, hess, hrl⟩ := ends_of (l := ess) (by (first | lia | omega))
              have hess' : ess = x :: (r ++ [y]) := by rw [hess]; rfl
              have hnx : Num x := hnum x (by rw [hess']; exact .head _)
              have hny : Num y := hnum y (by rw [hess']; simp)
              have hglb : glb x (r ++ [y]) = lcp x y := glb_ends (by rw [← hess]; exact hsort)
              have O14 : Ok w h14 := OG.keeps F14.keep
              refine wpAny_execs_cons ?_
              refine wpAny_Assign_Name ?_
              refine call1 O14 (by k_is) ⟨_, _, _, _, by k_is⟩ ?_
              refine (Rd.cell (c := L + 1 + 1) (X14.cell (i := 3) rfl dR)) _ _ _ (Keep.refl _) ⟨Keep.refl _, ?_⟩
              refine cp (vs := us) (x := x) (r := r ++ [y]) O14 ⟨rfl, by decide, by decide⟩ hlR14 (by rw [← hess']; exact hbR) (by rw [← hess']; exact hnum) (by rw [List.length_append, List.length_singleton]; (first | lia | omega)) ?_
              intro bW tW h15 tk15 hbW k15
              rw [hglb] at hbW
              have F15 := F14.keeps k15
              have X15 := X14.keep k15
              have hlR15 := IsList.keeps' hlR14 k15
              have hSU15 := hSU14.keeps k15
              have hPAL : PA ≠ L := fun q => by
                obtain ⟨oL, _, _, hoL, hoLd, _⟩ := F15.ns
                obtain ⟨oP, _, _, ePA, sPA, _⟩ := hSU15
                obtain ⟨_, es, ep, tt, hd, _⟩ := sPA
                rw [q, hoL] at ePA; cases ePA
                rw [hd] at hoLd; cases hoLd
              refine store_F F15 rfl ?_
              intro h16 tk16 F16 k16
              have X16 := X15.butL k16
              have hlR16 := IsList.but hlR15 (list_ne F15.ns hlR15) k16
              have hSU16 := hSU15.but hPAL k16
              clear X15 F15 hlR15 hSU15 k16 k15 X14 F14 hlR14 hSU14 O14
              show wpAny _ _ (execs _ _) _ _ _
              -- if whole != commonpath([row[0], row[7]]) or whole != commonpath(ways)
              have O16 : Ok w h16 := OG.keeps F16.keep
              have hx0 : (ess.map way)[0]? = some (way x) := by rw [hess']; rfl
              have hy7 : (ess.map way)[7]? = some (way y) := by
                rw [hess', List.getElem?_map, List.getElem?_cons_succ, List.getElem?_append_right (by (first | lia | omega)), show 6 - r.length = 0 by (first | lia | omega)]; rfl
              obtain ⟨dz, dr, hdz⟩ : ∃ dz dr, ds.map digs = dz :: dr := by
                cases hq : ds.map digs with
                | nil => have h9 := congrArg List.length hq; rw [List.length_map, List.length_nil] at h9; (first | lia | omega)
                | cons a b => exact ⟨a, b, rfl⟩
              have hdrl : dr.length = 7 := by have := congrArg List.length hdz; rw [List.length_map, List.length_cons] at this; (first | lia | omega)
              have hnumd : ∀ z ∈ dz :: dr, Num z := fun z hz => hnum z (hperm.mem_iff.mpr (hdz ▸ hz))
              have hglb2 : glb dz dr = lcp x y := by
                rw [← hglb]
                exact glb_perm (by rw [← hdz, ← hess']; exact hperm.symm)
              refine wpAny_execs_cons ?_
              refine wpAny_If ?_
              refine isTrue_or ?_
              refine wpAny_isTrue_Compare1 ?_
              refine ld_local F16.ns (v := .bytes bW tW) (by rfl) ?_
              refine call1 O16 (by k_is) ⟨_, _, _, _, by k_is⟩ ?_
              refine list2 ?_
              have rw16 : h16.IsCell (L + 1 + 1) (some (.ref DR)) := X16.cell (i := 3) rfl dR
              refine Subscript_Constant ?_
              refine (Rd.cell (c := L + 1 + 1) rw16) _ _ _ (Keep.refl _) ?_
              refine wpAny_Constant_int ?_
              refine item_bytes (k := 0) hlR16 hbR (by (first | lia | omega)) (by (first | lia | omega)) fun b0 t0 e0 => ?_
              refine Subscript_Constant ?_
              refine (Rd.cell (c := L + 1 + 1) rw16) _ _ _ (Keep.refl _) ?_
              refine wpAny_Constant_int ?_
              refine item_bytes (k := 7) hlR16 hbR (by (first | lia | omega)) (by (first | lia | omega)) fun b7 t7 e7 => ?_
              have kp : ∀ o : Obj, Keep h16 (h16.push o) := fun o b z e => Heap.get?_push_of_some _ e
              refine ⟨kp _, ?_⟩
              refine cp (vs := [.bytes b0 t0, .bytes b7 t7]) (x := x) (r := [y]) (O16.keeps (kp _)) ⟨rfl, by decide, by decide⟩ ⟨_, Heap.get?_push_size _ rfl, rfl, _, rfl⟩ (.cons (by rw [hx0] at e0; exact (Option.some.inj e0).symm) (.cons (by rw [hy7] at e7; exact (Option.some.inj e7).symm) .nil)) ?_ (by simp) ?_
              · intro z hz
                simp only [List.mem_cons, List.not_mem_nil, or_false] at hz
                rcases hz with rfl | rfl
                · exact hnx
                · exact hny
              intro bc tc h17 tk17 hbc k17'
              have k17 : Keep h16 h17 := Keep.trans (kp _) k17'
              have hbc' : bc.toList = way (lcp x y) := by rw [hbc]; rfl
              refine ne_bytes ?_
              refine wpAny_truthy_bool ?_
              have eq1 : (bW.toList != bc.toList) = false := by rw [hbW, hbc']; simp
              rw [eq1]
              simp only [Bool.false_eq_true, if_false]
              have F17 := F16.keeps k17
              have X17 := X16.keep k17
              have O17 : Ok w h17 := OG.keeps F17.keep
              refine isTrue_or ?_
              refine wpAny_isTrue_Compare1 ?_
              refine ld_local F17.ns (v := .bytes bW tW) (by rfl) ?_
              refine call1 O17 (by k_is) ⟨_, _, _, _, by k_is⟩ ?_
              refine ld_local F17.ns (v := .ref D3) (by simp only [if_neg (show (Str.ofString "ways" ≠ Str.ofString "whole") by decide), if_neg (show (Str.ofString "ways" ≠ Str.ofString "above") by decide)]; exact ew7) ⟨Keep.refl _, ?_⟩
              refine cp (vs := ys3.toList) (x := dz) (r := dr) O17 ⟨rfl, by decide, by decide⟩ (by rw [Array.toArray_toList]; exact X17.list (i := 0) rfl cD3 dD3) (by rw [← hdz]; exact hb3') hnumd (by (first | lia | omega)) ?_
              intro bc2 tc2 h18 tk18 hbc2 k18
              refine ne_bytes ?_
              refine wpAny_truthy_bool ?_
              have eq2 : (bW.toList != bc2.toList) = false := by rw [hbW, hbc2, hglb2]; simp
              rw [eq2]
              simp only [Bool.false_eq_true, if_false]
              refine isTrue_or_nil ?_
              simp only [Bool.false_eq_true, if_false]
              refine wpAny_execs_nil ?_
              have k68 : Keep h16 h18 := Keep.trans k17 k18
              have F18 := F16.keeps k68
              have X18 := X16.keep k68
              have hlR18 := IsList.keeps' hlR16 k68
              have hSU18 := hSU16.keeps k68
              clear X16 F16 hlR16 hSU16 k68 k17 k18 F17 X17 O17 O16 rw16
              show wpAny _ _ (execs _ _) _ _ _
              -- if whole != reduce(lambda one, other: commonpath([one, other]), ways)
              have fk0 : FnAt 136 G := FnK.at (w := w) ⟨_, _, _, _, by k_is⟩ OG
              have fkk : ∀ {h : Heap}, Keep G h → FnAt 136 h := fun k => by obtain ⟨oc, od, fd, sl, e⟩ := fk0; exact ⟨oc, od, fd, sl, k _ _ e⟩
              have lt18 : LamTab 189 219 23 "law.<locals>.<lambda>" h18 := .inl (X18.get 7 rfl)
              refine wpAny_execs_cons ?_
              refine wpAny_If ?_
              refine wpAny_isTrue_Compare1 ?_
              refine ld_local F18.ns (v := .bytes bW tW) (by rfl) ?_
              refine wpAny_bind (ld_glob (v := .ref 136) (OG.keeps F18.keep) (by k_is) ?_)
              refine callWith_F (fkk F18.keep) ?_ (by rfl) (by rfl)
              refine spliced_cons ?_
              show wpAny _ _ (eval _ _) _ _ _
              refine' lam_make (c := 191) (P := 189) (cl := [("row", L + 1 + 1), ("sizes", L + 1)]) (fq := "law") (qual := "law.<locals>.<lambda>") ?lg ?lF ?lp ?lt ?lq ?ld ?lc ?_
              case lg => exact ⟨OG, F18.keep, n189, codeHd⟩
              case lF => exact F18
              case lp => exact X18.neL 7 rfl
              case lt => exact lt18
              case lq => rfl
              case ld => rfl
              case lc => rfl
              intro f c' ctv pm9 h19 tk19 hf19 hc19 lt19 F19 g19 k19
              obtain ⟨ps3, e189⟩ : ∃ ps, h19.get? 189 = some (tabObj ps) := by rcases lt19 with e | ⟨_, e, _⟩ <;> exact ⟨_, e⟩
              have X19 := X18.set (i := 7) rfl k19 e189
              dsimp only [List.set] at X19
              have hlR19 := IsList.but hlR18 (lt18.ne hlR18) k19
              have hSU19 := hSU18.but (setU_ne_tab hSU18 (X18.get 7 rfl)) k19
              refine spliced_cons ?_
              show wpAny _ _ (eval _ _) _ _ _
              refine ld_local F19.ns (v := .ref D3) (by simp only [if_neg (show (Str.ofString "ways" ≠ Str.ofString "whole") by decide), if_neg (show (Str.ofString "ways" ≠ Str.ofString "above") by decide)]; exact ew7) ?_
              refine spliced_nil ⟨fkk g19.keep, ?_⟩
              clear X18 F18 hlR18 hSU18 lt18 k19
              have O19 : Ok w h19 := OG.keeps g19.keep
              have l193 : h19.IsList D3 ys3 := X19.list (i := 0) rfl cD3 dD3
              have hb3d : BytesAre ys3.toList ((dz :: dr).map way) := by rw [← hdz]; exact hb3'
              obtain ⟨bf, tf, ef, ef2⟩ := hb3d.get (i := 0) (by (first | lia | omega))
              have hlen3 : ys3.size = 8 := by rw [Array.length_toList] at hu3; (first | lia | omega)
              refine reduce2 (n := 22) (v0 := .bytes bf tf) (fun i v => 1 ≤ i ∧ ∃ b t, v = .bytes b t ∧ b.toList = way (glb dz (dr.take (i - 1)))) O19 ⟨rfl, by decide, by decide⟩ l193 ⟨_, _, _, _, hf19⟩ (by rw [← Array.getElem?_toList]; exact ef) ⟨Nat.le_refl _, bf, tf, rfl, (Option.some.inj ef2).symm⟩ ?r1 ?r2
              case r1 =>
                intro i v u A' h20 tk20 Q' E' rm20 k20 hu20 hacc hq
                obtain ⟨hi1', b, tb, rfl, hb⟩ := hacc
                have hi8 : i < 8 := by have := (Array.getElem?_eq_some_iff.mp hu20).1; (first | lia | omega)
                obtain ⟨bu, tu, rfl, hbu⟩ := hb3d.at (by simpa using hu20)
                have hbu' : bu.toList = way (dr.getD (i - 1) []) := by
                  obtain ⟨j, rfl⟩ : ∃ j, i = j + 1 := ⟨i - 1, by (first | lia | omega)⟩
                  rw [List.map_cons, List.getElem?_cons_succ, List.getElem?_map, List.getElem?_eq_getElem (by (first | lia | omega))] at hbu
                  rw [Nat.add_sub_cancel, List.getD_eq_getElem?_getD, List.getElem?_eq_getElem (by (first | lia | omega))]
                  exact (Option.some.inj hbu).symm
                have hna : Num (glb dz (dr.take (i - 1))) := num_glb fun z hz => hnumd z (by
                  rcases List.mem_cons.mp hz with rfl | hz
                  · exact .head _
                  · exact .tail _ (List.mem_of_mem_take hz))
                have hnu : Num (dr.getD (i - 1) []) := hnumd _ (.tail _ (by
                  rw [List.getD_eq_getElem?_getD, List.getElem?_eq_getElem (by (first | lia | omega))]
                  exact List.getElem_mem (by (first | lia | omega))))
                obtain ⟨c2, oc2, vs2', t2', q0, q1, q2⟩ := hc19
                refine lam_enter (n := 21) (O19.keeps k20) rm20 (k20 _ _ hf19) ⟨c2, oc2, vs2', t2', q0, k20 _ _ q1, q2⟩ (by rfl) (locs rfl) ?_
                intro dp2 un2 L2 h21 tk21 hd2 hu2 F21
                have O21 : Ok w h21 := (O19.keeps k20).keeps F21.keep
                refine call1 O21 (by k_is) ⟨_, _, _, _, by k_is⟩ ?_
                refine list2 ?_
                refine ld_local F21.ns (v := .bytes b tb) (by rfl) ?_
                refine ld_local F21.ns (v := .bytes bu tu) (by rfl) ?_
                have kp : ∀ o : Obj, Keep h21 (h21.push o) := fun o b z e => Heap.get?_push_of_some _ e
                refine ⟨kp _, ?_⟩
                refine cp (vs := [.bytes b tb, .bytes bu tu]) (x := glb dz (dr.take (i - 1))) (r := [dr.getD (i - 1) []]) (O21.keeps (kp _)) ⟨rfl, by show dp2 + 20 ≤ 900; (first | lia | omega), by show un2 + 20 * 20 ≤ 9000; (first | lia | omega)⟩ ⟨_, Heap.get?_push_size _ rfl, rfl, _, rfl⟩ (.cons hb (.cons hbu' .nil)) ?_ (by simp) ?_
                · intro z hz
                  simp only [List.mem_cons, List.not_mem_nil, or_false] at hz
                  rcases hz with rfl | rfl
                  · exact hna
                  · exact hnu
                · intro bz tz h22 tk22 hbz k22
                  refine hq _ h22 _ ⟨by (first | lia | omega), bz, tz, rfl, ?_⟩ (Keep.trans (Keep.trans F21.keep (kp _)) k22)
                  rw [hbz, Nat.add_sub_cancel, ← glb_take hi1' (by (first | lia | omega))]
                  rfl
              case r2 =>
                intro v h20 tk20 hacc k20
                obtain ⟨_, b, tb, rfl, hb⟩ := hacc
                rw [hlen3, show (8 : Nat) - 1 = dr.length by (first | lia | omega), List.take_length, hglb2] at hb
                refine ne_bytes ?_
                refine wpAny_truthy_bool ?_
                have eq3 : (bW.toList != b.toList) = false := by rw [hbW, hb]; simp
                rw [eq3]
                simp only [Bool.false_eq_true, if_false]
                refine wpAny_execs_nil ?_
                have F20 := F19.keeps k20
                have X20 := X19.keep k20
                have hlR20 := IsList.keeps' hlR19 k20
                have hSU20 := hSU19.keeps k20
                clear X19 F19 hlR19 hSU19 k20 hf19 hc19 lt19 g19 O19 l193 e189
                show wpAny _ _ (execs _ _) _ _ _
                -- depths = sum([_law_depth(way) for way in row])
                have O20 : Ok w h20 := OG.keeps F20.keep
                have rw20 : h20.IsCell (L + 1 + 1) (some (.ref DR)) := X20.cell (i := 3) rfl dR
                refine wpAny_execs_cons ?_
                refine wpAny_Assign_Name ?_
                refine callB1 O20 (by k_is) boot_sum ?_
                refine lc_free (n := us.toArray.size) (P := fun i v => us.toArray[i]? = some v) (fun _ => true) (fun v y => ∀ b t z, v = Value.bytes b t → b.toList = way z → Num z → ∃ u, y = Value.int ((z.length : Nat) : Int) u)
                  ((Rd.cell (c := L + 1 + 1) rw20) _ _ _ (Keep.refl _) ⟨Keeps.refl _, src_list rfl hlR20⟩) (by rw [List.size_toArray, sizeLine_eq]; (first | lia | omega)) ?d1 ?d2 ?d3
                case d1 => intro C i v s₃ m₃ E' hP hns hm hk _; exact wpAny_tests_nil ⟨rfl, Keeps.refl _⟩
                case d2 =>
                  intro C i v s₃ m₃ E' hP _ hns hm hk hu'
                  obtain ⟨b1, t1, rfl, hb1⟩ := hbR.at (by simpa using hP)
                  obtain ⟨z1, hz1, hzw⟩ := List.mem_map.mp (List.mem_of_getElem? hb1)
                  have hn1 := hnum z1 hz1
                  have O3 : Ok w s₃.heap := O20.keeps hk
                  refine call1 O3 (by k_is) ⟨_, _, _, _, by k_is⟩ ?_
                  refine ld_local hns hm ⟨Keep.refl _, ?_⟩
                  refine depth_c hzw.symm hn1 O3 ⟨rfl, by decide, by decide⟩ fun t h' tk k' => ⟨fun b t' z e hb hz => ?_, keeps_of k'⟩
                  cases e
                  have : z = z1 := way_inj hz.1 hn1.1 (by rw [← hb, hzw])
                  subst this
                  exact ⟨_, rfl⟩
                case d3 =>
                  intro D6 h21 tk21 ys6 vs6 hD6 hl6 hlen6 hP6 hpair6 k21
                  have hv6 : vs6 = us := vs_eq (by rw [hlen6, List.size_toArray]) hP6
                  rw [show vs6.filter (fun _ => true) = vs6 from List.filter_eq_self.mpr (fun _ _ => rfl), hv6] at hpair6
                  have hi6 := paired_depths hbR hnum hpair6
                  refine sum_c rfl hl6 hi6 fun h22 tk22 tS k22 => ?_
                  have kS := Keep.trans k21 k22
                  have F22 := F20.keeps kS
                  have X22 := X20.keep kS
                  have hlR22 := IsList.keeps' hlR20 kS
                  have hSU22 := hSU20.keeps kS
                  refine store_F F22 rfl ?_
                  intro h23 tk23 F23 k23
                  have X23 := X22.butL k23
                  have hlR23 := IsList.but hlR22 (list_ne F22.ns hlR22) k23
                  have hPAL : PA ≠ L := fun q => by
                    obtain ⟨oL, _, _, hoL, hoLd, _⟩ := F22.ns
                    obtain ⟨oP, _, _, ePA, sPA, _⟩ := hSU22
                    obtain ⟨_, es, ep, tt, hd, _⟩ := sPA
                    rw [q, hoL] at ePA; cases ePA
                    rw [hd] at hoLd; cases hoLd
                  have hSU23 := hSU22.but hPAL k23
                  clear X22 F22 hlR22 hSU22 kS k21 k22 k23 X20 F20 hlR20 hSU20 rw20 O20
                  show wpAny _ _ (execs _ _) _ _ _
                  -- return len(above) == depths - sum([...])
                  have O23 : Ok w h23 := OG.keeps F23.keep
                  refine wpAny_execs_cons ?_
                  refine wpAny_Return_some ?_
                  refine wpAny_Compare1 ?_
                  refine callB1 O23 (by k_is) boot_len ?_
                  refine ld_local F23.ns (v := .ref PA) (by rfl) ?_
                  refine len_set_c hSU23 fun U hU1 hU2 tU tkU => ?_
                  refine wpAny_BinOp ?_
                  refine ld_local F23.ns (v := .int (((ess.map List.length).sum : Nat) : Int) _) (by rfl) ?_
                  refine callB1 O23 (by k_is) boot_sum ?_
                  have rw23 : h23.IsCell (L + 1 + 1) (some (.ref DR)) := X23.cell (i := 3) rfl dR
                  have hbl := between_len ess
                  refine lc_free (n := 7) (P := fun i v => i < 7 ∧ ∃ t, v = .int (i : Int) t) (fun _ => true) (fun v y => ∀ (k : Nat) (t : Tok), v = Value.int ((k : Nat) : Int) t → k < (between ess).length → ∃ u, y = Value.int (((between ess).getD k 0 : Nat) : Int) u) ?f0 (by rw [sizeLine_eq]; decide) ?f1 ?f2 ?f3
                  case f0 =>
                    refine callT1 O23 (by k_is) boot_range ?_
                    refine wpAny_Constant_int ?_
                    refine call_range_1 ?_
                    exact ⟨keeps_of fun b o e => Heap.get?_push_of_some _ e, src_range8 (by rfl) (IsRange.new ..) (by decide) (by decide)⟩
                  case f1 => intro C i v s₃ m₃ E' hP hns hm hk _; exact wpAny_tests_nil ⟨rfl, Keeps.refl _⟩
                  case f2 =>
                    intro C i v s₃ m₃ E' hP _ hns hm hk hu'
                    obtain ⟨hi7, ti, rfl⟩ := hP
                    have O3 : Ok w s₃.heap := O23.keeps hk
                    have c3 : s₃.heap.IsCell (L + 1 + 1) (some (.ref DR)) := (X23.keep hk).cell (i := 3) rfl dR
                    have l3 := IsList.keeps' hlR23 hk
                    have hget : ∀ j b, (ess.map way)[j]? = some b → j < 8 → b = way (ess.getD j []) ∧ Num (ess.getD j []) := fun j b e hj => by
                      have hj' : j < ess.length := by (first | lia | omega)
                      rw [List.getElem?_map, List.getElem?_eq_getElem hj'] at e
                      rw [List.getD_eq_getElem?_getD, List.getElem?_eq_getElem hj']
                      exact ⟨(Option.some.inj e).symm, hnum _ (List.getElem_mem hj')⟩
                    refine call1 O3 (by k_is) ⟨_, _, _, _, by k_is⟩ ?_
                    refine call1 O3 (by k_is) ⟨_, _, _, _, by k_is⟩ ?_
                    refine list2 ?_
                    refine sub_bytes (k := i) (u := ti) (Rd.cell (c := L + 1 + 1) c3) (Rd.local hns hm) l3 hbR (by (first | lia | omega)) (by (first | lia | omega)) fun b1 t1 e1 => ?_
                    refine Subscript_BinOp ?_
                    refine (Rd.cell (c := L + 1 + 1) c3) _ _ _ (Keep.refl _) ?_
                    refine wpAny_BinOp ?_
                    refine ld_local hns hm ?_
                    refine wpAny_Constant_int ?_
                    refine PyProof.Rows.add_int ?_
                    rw [show (i : Int) + 1 = ((i + 1 : Nat) : Int) by push_cast; rfl]
                    refine item_bytes (k := i + 1) l3 hbR (by (first | lia | omega)) (by (first | lia | omega)) fun b2 t2 e2 => ?_
                    obtain ⟨w1, n1⟩ := hget i _ e1 (by (first | lia | omega))
                    obtain ⟨w2, n2⟩ := hget (i + 1) _ e2 (by (first | lia | omega))
                    have kp : ∀ o : Obj, Keep s₃.heap (s₃.heap.push o) := fun o b z e => Heap.get?_push_of_some _ e
                    refine ⟨kp _, ?_⟩
                    refine cp (vs := [.bytes b1 t1, .bytes b2 t2]) (x := ess.getD i []) (r := [ess.getD (i + 1) []]) (O3.keeps (kp _)) ⟨rfl, by decide, by decide⟩ ⟨_, Heap.get?_push_size _ rfl, rfl, _, rfl⟩ (.cons w1 (.cons w2 .nil)) ?_ (by simp) ?_
                    · intro z hz
                      simp only [List.mem_cons, List.not_mem_nil, or_false] at hz
                      rcases hz with rfl | rfl
                      · exact n1
                      · exact n2
                    intro bc tc h24 tk24 hbc k24
                    have k34 : Keep s₃.heap h24 := Keep.trans (kp _) k24
                    refine ⟨k34, ?_⟩
                    have hbc' : bc.toList = way (lcp (ess.getD i []) (ess.getD (i + 1) [])) := by rw [hbc]; rfl
                    have hnl : Num (lcp (ess.getD i []) (ess.getD (i + 1) [])) := ⟨lcp_dig n1.1, Nat.le_trans (lcp_left _ _).length_le n1.2⟩
                    refine depth_c hbc' hnl (O3.keeps k34) ⟨rfl, by decide, by decide⟩ fun t h' tk k' => ⟨fun k t' e hk' => ?_, keeps_of (Keep.trans k34 k')⟩
                    injection e with e _
                    have : k = i := by (first | lia | omega)
                    subst this
                    rw [between_get ess k (by (first | lia | omega))]
                    exact ⟨_, rfl⟩
                  case f3 =>
                    intro D7 h24 tk24 ys7 vs7 hD7 hl7 hlen7 hP7 hpair7 k24
                    rw [show vs7.filter (fun _ => true) = vs7 from List.filter_eq_self.mpr (fun _ _ => rfl)] at hpair7
                    have hi7 := paired_at (bs := between ess) (j := 0) (fun i v h => by obtain ⟨_, t, e⟩ := hP7 i v h; exact ⟨t, by rw [e, Nat.zero_add]⟩) hpair7 (by (first | lia | omega))
                    rw [List.drop_zero] at hi7
                    refine sum_c rfl hl7 hi7 fun h25 tk25 tS2 k25 => ?_
                    refine sub_int ?_
                    refine PyProof.Rows.eq_int ?_
                    have hcount := count_heads (es := WR) hdlt hWp (by
                      have := hsort; rw [hrow] at this; exact List.pairwise_map.mp this) hU1 hU2
                    rw [← hrow] at hcount
                    have eqf : (((U.length : Nat) : Int) == (((ess.map List.length).sum : Nat) : Int) - (((between ess).sum : Nat) : Int)) = true := by
                      rw [beq_iff_eq]; (first | lia | omega)
                    rw [eqf]
                    have kL : Keep h23 h25 := Keep.trans k24 k25
                    exact hQQ _ _ ⟨rfl, h25, _, rfl, Keep.trans F23.keep kL, ⟨_, kL _ _ (X23.get 5 rfl)⟩, ⟨_, kL _ _ (X23.get 6 rfl)⟩, ⟨_, kL _ _ (X23.get 7 rfl)⟩⟩
end Mine
end
set_option maxRecDepth 100000 in
theorem PySem.Challenge.cw_pd0134_01_holds : PySem.Challenge.rw_pd0134_01.Holds :=
  Mine.lw
