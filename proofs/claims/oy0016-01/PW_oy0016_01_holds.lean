import PyProof.Rows.All
import Wide.All
import OpenK.AllK
import Wide.FinOn
import KE.BitLaws
import KE.KDictIter
import KE.KSortAsk
import KE.KSortKey
import KE.KTurns
import KE.KLcPair
import KE.KRevSl
import PyProof.Rows.SortWalk
import PyProof.Rows.ListMulArg
import PySem.Challenge.RW_oy0016_01
set_option Elab.async false
section -- LFront
open PySem PySem.W PySem.W.X PySem.W.ZRun PyProof.Rows
set_option Elab.async false
set_option maxRecDepth 100000
namespace Mine
local macro_rules | `(tactic| k_head) => `(tactic| z_head)
set_option maxHeartbeats 8000000
open_top hd for PySem.Challenge.rw_oy0016_01
/-- what is left of the claim once the top has run: the call of the law -/
theorem front (LAW : ∀ (w : World) (s : Shared) (vals : List Value) (ns : List Int) (Q E : Value → Shared → Prop), (hd.heap_119 w.params).In s.heap → s.gens = #[] → s.heap.objs.size = 82 → s.heap.IsList 81 vals.toArray → IntsAre vals ns → ns.length ≤ 63 →
      (∀ s', OldK s.heap s'.heap → s'.os = s.os → s'.gens = #[] → Q (.bool true) s') → wpAny (model PySem.Challenge.rw_oy0016_01.row.prog w) callerA (call (.ref 80) [.ref 81]) Q E s) : PySem.Challenge.rw_oy0016_01.Holds := by
  refine hd ?_
  k_fill
  intro w s₀ s₁ mg mb G y fa o pm cd doc dV kV ho hd hcd hD hmg hg args vals as L hpre hlay hrd hwl hlo
  z_open y L KX ZH ZN ZT
  refine Ground.open G ?_
  intro T B D TE TW
  wrow_args hpre hlay hrd hwl hlo
  obtain ⟨hat, hsz⟩ := script_at L
  have htk := script_toks L ZT
  rw [ZN] at hat hsz
  subst hat
  x_fa T KX hmg
  all_lens
  refine LAW w s₁ _ _ _ _ KX hg hsz (by assumption) (by assumption) (by omega) fun s' hO ho hgn => ?_
  refine ⟨.inl ⟨_, _, [], rfl, fun _ => rfl, ReadsW.bool true, ?_, fun _ => ⟨List.nodup_nil, fun _ hm => (nomatch hm)⟩⟩, hO, ho, hgn ▸ AllBare.empty⟩
  wrow_post
end Mine
end
section -- LBase
open PySem PySem.W PySem.W.X PyProof.Rows
set_option Elab.async false
set_option maxRecDepth 100000
namespace Mine
noncomputable def gO (a : Nat) (P : Params) : Obj := ((hd.heap_119 P).lookup a).getD default
noncomputable def Kc (P : Params) : Frag := (nat_lit 0, gO (nat_lit 0) P) :: (nat_lit 1, gO (nat_lit 1) P) :: (nat_lit 2, gO (nat_lit 2) P) :: (nat_lit 3, gO (nat_lit 3) P) :: (nat_lit 4, gO (nat_lit 4) P) :: (nat_lit 5, gO (nat_lit 5) P) :: (nat_lit 6, gO (nat_lit 6) P) :: (nat_lit 7, gO (nat_lit 7) P) :: (nat_lit 8, gO (nat_lit 8) P) :: (nat_lit 9, gO (nat_lit 9) P) :: (nat_lit 10, gO (nat_lit 10) P) :: (nat_lit 11, gO (nat_lit 11) P) :: (nat_lit 12, gO (nat_lit 12) P) :: (nat_lit 13, gO (nat_lit 13) P) :: (nat_lit 14, gO (nat_lit 14) P) :: (nat_lit 15, gO (nat_lit 15) P) :: (nat_lit 16, gO (nat_lit 16) P) :: (nat_lit 17, gO (nat_lit 17) P) :: (nat_lit 18, gO (nat_lit 18) P) :: (nat_lit 19, gO (nat_lit 19) P) :: (nat_lit 20, gO (nat_lit 20) P) :: (nat_lit 21, gO (nat_lit 21) P) :: (nat_lit 22, gO (nat_lit 22) P) :: (nat_lit 23, gO (nat_lit 23) P) :: (nat_lit 24, gO (nat_lit 24) P) :: (nat_lit 25, gO (nat_lit 25) P) :: (nat_lit 26, gO (nat_lit 26) P) :: (nat_lit 27, gO (nat_lit 27) P) :: (nat_lit 28, gO (nat_lit 28) P) :: (nat_lit 29, gO (nat_lit 29) P) :: (nat_lit 30, gO (nat_lit 30) P) :: (nat_lit 31, gO (nat_lit 31) P) :: (nat_lit 32, gO (nat_lit 32) P) :: (nat_lit 33, gO (nat_lit 33) P) :: (nat_lit 34, gO (nat_lit 34) P) :: (nat_lit 35, gO (nat_lit 35) P) :: (nat_lit 36, gO (nat_lit 36) P) :: (nat_lit 37, gO (nat_lit 37) P) :: (nat_lit 38, gO (nat_lit 38) P) :: (nat_lit 39, gO (nat_lit 39) P) :: (nat_lit 40, gO (nat_lit 40) P) :: (nat_lit 41, gO (nat_lit 41) P) :: (nat_lit 42, gO (nat_lit 42) P) :: (nat_lit 43, gO (nat_lit 43) P) :: (nat_lit 44, gO (nat_lit 44) P) :: (nat_lit 45, gO (nat_lit 45) P) :: (nat_lit 47, gO (nat_lit 47) P) :: (nat_lit 48, gO (nat_lit 48) P) :: (nat_lit 49, gO (nat_lit 49) P) :: (nat_lit 50, gO (nat_lit 50) P) :: (nat_lit 51, gO (nat_lit 51) P) :: (nat_lit 52, gO (nat_lit 52) P) :: (nat_lit 53, gO (nat_lit 53) P) :: (nat_lit 54, gO (nat_lit 54) P) :: (nat_lit 55, gO (nat_lit 55) P) :: (nat_lit 56, gO (nat_lit 56) P) :: (nat_lit 57, gO (nat_lit 57) P) :: (nat_lit 58, gO (nat_lit 58) P) :: (nat_lit 59, gO (nat_lit 59) P) :: (nat_lit 60, gO (nat_lit 60) P) :: (nat_lit 61, gO (nat_lit 61) P) :: (nat_lit 62, gO (nat_lit 62) P) :: (nat_lit 63, gO (nat_lit 63) P) :: (nat_lit 64, gO (nat_lit 64) P) :: (nat_lit 65, gO (nat_lit 65) P) :: (nat_lit 66, gO (nat_lit 66) P) :: (nat_lit 67, gO (nat_lit 67) P) :: (nat_lit 68, gO (nat_lit 68) P) :: (nat_lit 69, gO (nat_lit 69) P) :: (nat_lit 70, gO (nat_lit 70) P) :: (nat_lit 71, gO (nat_lit 71) P) :: (nat_lit 72, gO (nat_lit 72) P) :: (nat_lit 73, gO (nat_lit 73) P) :: (nat_lit 74, gO (nat_lit 74) P) :: (nat_lit 75, gO (nat_lit 75) P) :: (nat_lit 76, gO (nat_lit 76) P) :: (nat_lit 78, gO (nat_lit 78) P) :: (nat_lit 79, gO (nat_lit 79) P) :: (nat_lit 80, gO (nat_lit 80) P) :: []
noncomputable def Kb (P : Params) : Frag := (nat_lit 0, gO (nat_lit 0) P) :: (nat_lit 1, gO (nat_lit 1) P) :: (nat_lit 2, gO (nat_lit 2) P) :: (nat_lit 3, gO (nat_lit 3) P) :: (nat_lit 4, gO (nat_lit 4) P) :: (nat_lit 5, gO (nat_lit 5) P) :: (nat_lit 6, gO (nat_lit 6) P) :: (nat_lit 7, gO (nat_lit 7) P) :: (nat_lit 8, gO (nat_lit 8) P) :: (nat_lit 9, gO (nat_lit 9) P) :: (nat_lit 10, gO (nat_lit 10) P) :: (nat_lit 11, gO (nat_lit 11) P) :: (nat_lit 12, gO (nat_lit 12) P) :: (nat_lit 13, gO (nat_lit 13) P) :: (nat_lit 14, gO (nat_lit 14) P) :: (nat_lit 15, gO (nat_lit 15) P) :: (nat_lit 16, gO (nat_lit 16) P) :: (nat_lit 17, gO (nat_lit 17) P) :: (nat_lit 18, gO (nat_lit 18) P) :: (nat_lit 19, gO (nat_lit 19) P) :: (nat_lit 20, gO (nat_lit 20) P) :: (nat_lit 21, gO (nat_lit 21) P) :: (nat_lit 22, gO (nat_lit 22) P) :: (nat_lit 23, gO (nat_lit 23) P) :: (nat_lit 24, gO (nat_lit 24) P) :: (nat_lit 25, gO (nat_lit 25) P) :: (nat_lit 26, gO (nat_lit 26) P) :: (nat_lit 27, gO (nat_lit 27) P) :: (nat_lit 28, gO (nat_lit 28) P) :: (nat_lit 29, gO (nat_lit 29) P) :: (nat_lit 31, gO (nat_lit 31) P) :: (nat_lit 32, gO (nat_lit 32) P) :: (nat_lit 33, gO (nat_lit 33) P) :: (nat_lit 34, gO (nat_lit 34) P) :: (nat_lit 35, gO (nat_lit 35) P) :: (nat_lit 36, gO (nat_lit 36) P) :: (nat_lit 37, gO (nat_lit 37) P) :: (nat_lit 38, gO (nat_lit 38) P) :: (nat_lit 39, gO (nat_lit 39) P) :: (nat_lit 40, gO (nat_lit 40) P) :: (nat_lit 41, gO (nat_lit 41) P) :: (nat_lit 42, gO (nat_lit 42) P) :: (nat_lit 43, gO (nat_lit 43) P) :: (nat_lit 44, gO (nat_lit 44) P) :: (nat_lit 45, gO (nat_lit 45) P) :: (nat_lit 47, gO (nat_lit 47) P) :: (nat_lit 48, gO (nat_lit 48) P) :: (nat_lit 49, gO (nat_lit 49) P) :: (nat_lit 50, gO (nat_lit 50) P) :: (nat_lit 51, gO (nat_lit 51) P) :: (nat_lit 52, gO (nat_lit 52) P) :: (nat_lit 53, gO (nat_lit 53) P) :: (nat_lit 54, gO (nat_lit 54) P) :: (nat_lit 55, gO (nat_lit 55) P) :: (nat_lit 56, gO (nat_lit 56) P) :: (nat_lit 57, gO (nat_lit 57) P) :: (nat_lit 58, gO (nat_lit 58) P) :: (nat_lit 59, gO (nat_lit 59) P) :: (nat_lit 60, gO (nat_lit 60) P) :: (nat_lit 61, gO (nat_lit 61) P) :: (nat_lit 62, gO (nat_lit 62) P) :: (nat_lit 63, gO (nat_lit 63) P) :: (nat_lit 64, gO (nat_lit 64) P) :: (nat_lit 65, gO (nat_lit 65) P) :: (nat_lit 66, gO (nat_lit 66) P) :: (nat_lit 67, gO (nat_lit 67) P) :: (nat_lit 68, gO (nat_lit 68) P) :: (nat_lit 69, gO (nat_lit 69) P) :: (nat_lit 70, gO (nat_lit 70) P) :: (nat_lit 71, gO (nat_lit 71) P) :: (nat_lit 72, gO (nat_lit 72) P) :: (nat_lit 73, gO (nat_lit 73) P) :: (nat_lit 74, gO (nat_lit 74) P) :: (nat_lit 75, gO (nat_lit 75) P) :: (nat_lit 76, gO (nat_lit 76) P) :: (nat_lit 78, gO (nat_lit 78) P) :: (nat_lit 79, gO (nat_lit 79) P) :: (nat_lit 80, gO (nat_lit 80) P) :: []
noncomputable def Kd (P : Params) : Frag := (nat_lit 0, gO (nat_lit 0) P) :: (nat_lit 1, gO (nat_lit 1) P) :: (nat_lit 2, gO (nat_lit 2) P) :: (nat_lit 3, gO (nat_lit 3) P) :: (nat_lit 4, gO (nat_lit 4) P) :: (nat_lit 5, gO (nat_lit 5) P) :: (nat_lit 6, gO (nat_lit 6) P) :: (nat_lit 7, gO (nat_lit 7) P) :: (nat_lit 8, gO (nat_lit 8) P) :: (nat_lit 9, gO (nat_lit 9) P) :: (nat_lit 10, gO (nat_lit 10) P) :: (nat_lit 11, gO (nat_lit 11) P) :: (nat_lit 12, gO (nat_lit 12) P) :: (nat_lit 13, gO (nat_lit 13) P) :: (nat_lit 14, gO (nat_lit 14) P) :: (nat_lit 15, gO (nat_lit 15) P) :: (nat_lit 16, gO (nat_lit 16) P) :: (nat_lit 17, gO (nat_lit 17) P) :: (nat_lit 18, gO (nat_lit 18) P) :: (nat_lit 19, gO (nat_lit 19) P) :: (nat_lit 20, gO (nat_lit 20) P) :: (nat_lit 21, gO (nat_lit 21) P) :: (nat_lit 22, gO (nat_lit 22) P) :: (nat_lit 23, gO (nat_lit 23) P) :: (nat_lit 24, gO (nat_lit 24) P) :: (nat_lit 25, gO (nat_lit 25) P) :: (nat_lit 26, gO (nat_lit 26) P) :: (nat_lit 27, gO (nat_lit 27) P) :: (nat_lit 28, gO (nat_lit 28) P) :: (nat_lit 29, gO (nat_lit 29) P) :: (nat_lit 30, gO (nat_lit 30) P) :: (nat_lit 31, gO (nat_lit 31) P) :: (nat_lit 32, gO (nat_lit 32) P) :: (nat_lit 33, gO (nat_lit 33) P) :: (nat_lit 34, gO (nat_lit 34) P) :: (nat_lit 35, gO (nat_lit 35) P) :: (nat_lit 36, gO (nat_lit 36) P) :: (nat_lit 37, gO (nat_lit 37) P) :: (nat_lit 38, gO (nat_lit 38) P) :: (nat_lit 39, gO (nat_lit 39) P) :: (nat_lit 40, gO (nat_lit 40) P) :: (nat_lit 41, gO (nat_lit 41) P) :: (nat_lit 42, gO (nat_lit 42) P) :: (nat_lit 43, gO (nat_lit 43) P) :: (nat_lit 44, gO (nat_lit 44) P) :: (nat_lit 45, gO (nat_lit 45) P) :: (nat_lit 46, gO (nat_lit 46) P) :: (nat_lit 47, gO (nat_lit 47) P) :: (nat_lit 48, gO (nat_lit 48) P) :: (nat_lit 49, gO (nat_lit 49) P) :: (nat_lit 50, gO (nat_lit 50) P) :: (nat_lit 51, gO (nat_lit 51) P) :: (nat_lit 52, gO (nat_lit 52) P) :: (nat_lit 53, gO (nat_lit 53) P) :: (nat_lit 54, gO (nat_lit 54) P) :: (nat_lit 55, gO (nat_lit 55) P) :: (nat_lit 56, gO (nat_lit 56) P) :: (nat_lit 57, gO (nat_lit 57) P) :: (nat_lit 58, gO (nat_lit 58) P) :: (nat_lit 59, gO (nat_lit 59) P) :: (nat_lit 60, gO (nat_lit 60) P) :: (nat_lit 61, gO (nat_lit 61) P) :: (nat_lit 62, gO (nat_lit 62) P) :: (nat_lit 63, gO (nat_lit 63) P) :: (nat_lit 64, gO (nat_lit 64) P) :: (nat_lit 65, gO (nat_lit 65) P) :: (nat_lit 66, gO (nat_lit 66) P) :: (nat_lit 67, gO (nat_lit 67) P) :: (nat_lit 68, gO (nat_lit 68) P) :: (nat_lit 69, gO (nat_lit 69) P) :: (nat_lit 70, gO (nat_lit 70) P) :: (nat_lit 71, gO (nat_lit 71) P) :: (nat_lit 72, gO (nat_lit 72) P) :: (nat_lit 73, gO (nat_lit 73) P) :: (nat_lit 74, gO (nat_lit 74) P) :: (nat_lit 75, gO (nat_lit 75) P) :: (nat_lit 76, gO (nat_lit 76) P) :: (nat_lit 78, gO (nat_lit 78) P) :: (nat_lit 79, gO (nat_lit 79) P) :: (nat_lit 80, gO (nat_lit 80) P) :: []
noncomputable def Seen (_v : Value) (_s : Shared) : Prop := True
end Mine
end
section -- LFn
open PySem PySem.W PySem.W.X PyProof.Rows
set_option Elab.async false
set_option maxRecDepth 100000
set_option linter.unusedVariables false
namespace Mine
noncomputable abbrev prg : Program := PySem.Challenge.pw_oy0016_01
noncomputable def st (i : Nat) : Stmt := prg.main.body.getD i (.Pass default)
noncomputable def nmS : Stmt → Str | .FunctionDef n .. => n | _ => default
noncomputable def bodyS : Stmt → List Stmt | .FunctionDef _ _ b .. => b | _ => []
noncomputable def argsS : Stmt → Arguments | .FunctionDef _ a .. => a | _ => default
noncomputable def scopeS : Stmt → Scope | .FunctionDef _ _ _ _ _ _ s .. => s | _ => default
noncomputable abbrev fn (i : Nat) (pm cd doc : Value) : FuncData := Calls.docDef (nmS (st i)) (argsS (st i)) (bodyS (st i)) (scopeS (st i)) pm cd doc
/-- the context bound that all contracts are shown for -/
noncomputable abbrev As (n : Nat) : Around := { handled := none, depth := 900 - 10 * n, frames := none, guards := none, units := 8000 - 100 * n }

noncomputable abbrev Base (w : World) (h : Heap) : Prop := (Kb w.params).In h
theorem Base.keeps {w : World} {h h' : Heap} (X : Base w h) (k : ∀ b o, h.get? b = some o → h'.get? b = some o) : Base w h' := fun a o e => k a o (X a o e)

noncomputable def FnOk (h : Heap) (a : Addr) (i : Nat) : Prop := ∃ o pm cd doc, h.get? a = some o ∧ o.data = .func (fn i pm cd doc) ∧ h.CodeRec cd (nmS (st i))
theorem f_single {w : World} {h : Heap} (X : Base w h) : FnOk h 21 1 := ⟨_, _, _, _, X 21 _ rfl, rfl, 20, _, _, _, rfl, X 20 _ rfl, rfl, rfl⟩
theorem f_high {w : World} {h : Heap} (X : Base w h) : FnOk h 28 2 := ⟨_, _, _, _, X 28 _ rfl, rfl, 27, _, _, _, rfl, X 27 _ rfl, rfl, rfl⟩
theorem f_rank {w : World} {h : Heap} (X : Base w h) : FnOk h 58 9 := ⟨_, _, _, _, X 58 _ rfl, rfl, 57, _, _, _, rfl, X 57 _ rfl, rfl, rfl⟩
theorem f_places {w : World} {h : Heap} (X : Base w h) : FnOk h 65 10 := ⟨_, _, _, _, X 65 _ rfl, rfl, 64, _, _, _, rfl, X 64 _ rfl, rfl, rfl⟩
theorem f_sets {w : World} {h : Heap} (X : Base w h) : FnOk h 70 11 := ⟨_, _, _, _, X 70 _ rfl, rfl, 69, _, _, _, rfl, X 69 _ rfl, rfl, rfl⟩
theorem f_walk {w : World} {h : Heap} (X : Base w h) : FnOk h 75 12 := ⟨_, _, _, _, X 75 _ rfl, rfl, 74, _, _, _, rfl, X 74 _ rfl, rfl, rfl⟩
theorem f_law {w : World} {h : Heap} (X : Base w h) : FnOk h 80 13 := ⟨_, _, _, _, X 80 _ rfl, rfl, 79, _, _, _, rfl, X 79 _ rfl, rfl, rfl⟩

theorem strKeys_of {es : Array DictEntry} (h : (es.toList.all fun e => match e.key with | .str _ _ => true | _ => false) = true) : StrKeys es := fun e he => by
  have := List.all_eq_true.mp h e (by simpa using he)
  revert this
  cases e.key <;> intro q <;> first | exact ⟨_, _, rfl⟩ | cases q
noncomputable def esO (a : Nat) (P : Params) : Array DictEntry := match (gO a P).data with | .dict es _ => es | _ => #[]
noncomputable def mgP (P : Params) (x : Str) : Option Value := nsFind (esO 3 P) x
noncomputable def mbP (P : Params) (x : Str) : Option Value := nsFind (esO 0 P) x
theorem glob {w : World} {h : Heap} (X : Base w h) : h.Ns mainGlobals (mgP w.params) := ⟨_, esO 3 w.params, _, X 3 _ rfl, rfl, strKeys_of (by kernel_rfl), fun _ => rfl⟩
theorem blt {w : World} {h : Heap} (X : Base w h) : h.Ns builtinsNs (mbP w.params) := ⟨_, esO 0 w.params, _, X 0 _ rfl, rfl, strKeys_of (by kernel_rfl), fun _ => rfl⟩
theorem nolim {w : World} {h : Heap} (X : Base w h) : h.NoLimit := ⟨fun x => nsFind (esO 2 w.params) x, ⟨_, esO 2 w.params, _, X 2 _ rfl, rfl, strKeys_of (by kernel_rfl), fun _ => rfl⟩, by kernel_rfl⟩
section
variable {M : Model} {A : Around} {E : Value → Shared → Prop} {s : Shared} {w : World} {env : Env} {x : Str} {pos : Pos} {v : Value} {Q : Value → Shared → Prop}
theorem gname (X : Base w s.heap) (hv : mgP w.params x = some v) (h : Q v s) (hk : env.scope.kind = .function := by rfl) (hx : env.kindOf x = some .globalImplicit := by rfl) (hg : env.globals = mainGlobals := by rfl)
    (hd : (x == ("__debug__" : Str)) = false := by decide) : wpAny M A (eval (.Name x pos) env) Q E s :=
  Calls.Name_function_global hk hx (Calls.loadGlobal_global (env := env) (hg ▸ glob X) hv h) hd
theorem bname (X : Base w s.heap) (hm : mgP w.params x = none) (hv : mbP w.params x = some v) (h : Q v s) (hk : env.scope.kind = .function := by rfl) (hx : env.kindOf x = some .globalImplicit := by rfl)
    (hg : env.globals = mainGlobals := by rfl) (hb : env.builtins = builtinsNs := by rfl) (hd : (x == ("__debug__" : Str)) = false := by decide) : wpAny M A (eval (.Name x pos) env) Q E s :=
  Calls.Name_function_global hk hx (Calls.loadGlobal_builtin (env := env) (hg ▸ glob X) hm (hb ▸ blt X) hv h) hd
end
theorem g_high (P : Params) : mgP P (Str.ofString "_high_bit") = some (.ref 28) := by kernel_rfl
theorem g_single (P : Params) : mgP P (Str.ofString "_is_single_bit") = some (.ref 21) := by kernel_rfl
theorem g_reduce (P : Params) : mgP P (Str.ofString "reduce") = some (.ref 44) := by kernel_rfl
theorem g_miss (P : Params) : mgP P (Str.ofString "_initial_missing") = some (.ref 36) := by kernel_rfl
theorem g_turn (P : Params) : mgP P (Str.ofString "_law_turn") = some (.ref 51) := by kernel_rfl
theorem g_rank (P : Params) : mgP P (Str.ofString "_law_rank") = some (.ref 58) := by kernel_rfl
theorem g_places (P : Params) : mgP P (Str.ofString "_law_places") = some (.ref 65) := by kernel_rfl
theorem g_sets (P : Params) : mgP P (Str.ofString "_law_sets") = some (.ref 70) := by kernel_rfl
theorem g_walk (P : Params) : mgP P (Str.ofString "_law_walk") = some (.ref 75) := by kernel_rfl
theorem g_cmp (P : Params) : mgP P (Str.ofString "cmp_to_key") = some (.ref 35) := by kernel_rfl
theorem n_len (P : Params) : mgP P (Str.ofString "len") = none := by kernel_rfl
theorem n_range (P : Params) : mgP P (Str.ofString "range") = none := by kernel_rfl
theorem n_iter (P : Params) : mgP P (Str.ofString "iter") = none := by kernel_rfl
theorem n_str (P : Params) : mgP P (Str.ofString "str") = none := by kernel_rfl
theorem n_sum (P : Params) : mgP P (Str.ofString "sum") = none := by kernel_rfl
theorem n_sorted (P : Params) : mgP P (Str.ofString "sorted") = none := by kernel_rfl
theorem n_enum (P : Params) : mgP P (Str.ofString "enumerate") = none := by kernel_rfl
theorem b_len (P : Params) : mbP P (Str.ofString "len") = some (.builtin "len") := by kernel_rfl
theorem b_range (P : Params) : mbP P (Str.ofString "range") = some (.type "range") := by kernel_rfl
theorem b_iter (P : Params) : mbP P (Str.ofString "iter") = some (.builtin "iter") := by kernel_rfl
theorem b_str (P : Params) : mbP P (Str.ofString "str") = some (.type "str") := by kernel_rfl
theorem b_sum (P : Params) : mbP P (Str.ofString "sum") = some (.builtin "sum") := by kernel_rfl
theorem b_sorted (P : Params) : mbP P (Str.ofString "sorted") = some (.builtin "sorted") := by kernel_rfl
theorem b_enum (P : Params) : mbP P (Str.ofString "enumerate") = some (.type "enumerate") := by kernel_rfl
end Mine
end
section -- LCon1
open PySem PySem.W PySem.W.X PyProof.Rows
set_option Elab.async false
set_option maxRecDepth 100000
set_option linter.unusedVariables false
namespace Mine
structure Ok (n : Nat) (A : Around) : Prop where
  hd : A.handled = none
  dp : A.depth + 10 * n ≤ 900
  un : A.units + 100 * n ≤ 8000
theorem Ok.mono {n n' : Nat} {A : Around} (h : Ok n A) (hk : n' ≤ n) : Ok n' A := ⟨h.hd, by have := h.dp; omega, by have := h.un; omega⟩
theorem Ok.deeper {n : Nat} {A : Around} (h : Ok (n + 1) A) (env : Env) : Ok n (A.deeper env) := ⟨h.hd, by show A.depth + 1 + _ ≤ _; have := h.dp; omega, by show A.units + 3 + _ ≤ _; have := h.un; omega⟩
theorem Ok.in1 {n : Nat} {A : Around} (h : Ok (n + 1) A) : Ok n A.in1 := ⟨h.hd, by show A.depth + _ ≤ _; have := h.dp; omega, by show A.units + 1 + _ ≤ _; have := h.un; omega⟩
theorem Ok.run {α : Type} {M : Model} {n : Nat} {A : Around} {t : Sem α} {Q : α → Shared → Prop} {E : Value → Shared → Prop} {s : Shared} (hA : Ok n A) (h : wpAny M (As n) t Q E s) : wpAny M A t Q E s :=
  fun Γ p hΓ => h Γ p ⟨hΓ.1.trans hA.hd, Nat.le_trans hΓ.2.1 (by show A.depth ≤ 900 - 10 * n; have := hA.dp; omega), fun l hl => (nomatch hl), fun g hg => (nomatch hg), Nat.le_trans hΓ.2.2.2.2 (by show A.units ≤ 8000 - 100 * n; have := hA.un; omega)⟩

theorem keeps_refl (s : Shared) : Keeps s s := ⟨s.heap, s.toks, rfl, fun _ _ e => e⟩
theorem keeps_trans {s s' s'' : Shared} (h : Keeps s s') (h' : Keeps s' s'') : Keeps s s'' := by
  obtain ⟨g, tk, rfl, k⟩ := h
  obtain ⟨g', tk', rfl, k'⟩ := h'
  exact ⟨g', tk', rfl, fun b o e => k' b o (k b o e)⟩
theorem keeps_of {s : Shared} {L : Addr} {h : Heap} {m : Str → Option Value} {tk : Nat} (F : Fr s.heap L h m) : Keeps s { s with heap := h, toks := tk } := ⟨h, tk, rfl, F.keep⟩
theorem base_fr {w : World} {s : Shared} {L : Addr} {h : Heap} {m : Str → Option Value} (X : Base w s.heap) (F : Fr s.heap L h m) : Base w h := X.keeps F.keep

noncomputable def isSingle (n : Int) : Bool := if n = 0 then false else decide (Builtin.bitAnd n (n - 1) = 0)
/-- an int comes back, all that stood stands -/
noncomputable def RetI (s : Shared) (n : Int) (v : Value) (s' : Shared) : Prop := (∃ u, v = .int n u) ∧ Keeps s s'
noncomputable def RetB (s : Shared) (b : Bool) (v : Value) (s' : Shared) : Prop := v = .bool b ∧ Keeps s s'

theorem single_ok {w : World} {A : Around} {E : Value → Shared → Prop} {s : Shared} {n : Int} {t : Tok} (hA : Ok 0 A) (X : Base w s.heap) :
    wpAny (model prg w) A (call (.ref 21) [.int n t]) (RetB s (isSingle n)) E s := by
  refine hA.run ?_
  obtain ⟨o, pm, cd, doc, ho, hd, hcd⟩ := f_single X
  refine wpAny_call (call_plain_ret (binds := [(Str.ofString "num", .int n t)]) (by decide) ho hd (nolim X) hcd rfl (locs rfl) (fun h₁ F => ?_))
  change wpAny _ _ (execs [_, _, _] _) _ _ _
  iterate 7 walk1
  by_cases hn : n = 0
  · rw [if_pos (by simp [hn])]
    iterate 3 walk1
    exact ⟨by simp [isSingle, hn], keeps_of F⟩
  · rw [if_neg (by simp [hn])]
    repeat walk1
    exact ⟨by simp only [isSingle, hn, if_false]; rfl, keeps_of (by assumption)⟩

theorem high_ok {w : World} {A : Around} {E : Value → Shared → Prop} {s : Shared} {n : Int} {t : Tok} (hA : Ok 0 A) (X : Base w s.heap) :
    wpAny (model prg w) A (call (.ref 28) [.int n t]) (RetI s (Builtin.Int.intBits n - 1)) E s := by
  refine hA.run ?_
  obtain ⟨o, pm, cd, doc, ho, hd, hcd⟩ := f_high X
  refine wpAny_call (call_plain_ret (binds := [(Str.ofString "value", .int n t)]) (by decide) ho hd (nolim X) hcd rfl (locs rfl) (fun h₁ F => ?_))
  change wpAny _ _ (execs [_] _) _ _ _
  repeat walk1
  exact ⟨⟨_, rfl⟩, keeps_of F⟩
end Mine
end
section -- LMath
open PySem PySem.W PySem.W.X PyProof.Rows
set_option Elab.async false
set_option maxRecDepth 100000
set_option linter.unusedVariables false
namespace Mine
theorem xor_add_and : ∀ a b : Nat, (a ^^^ b) + 2 * (a &&& b) = a + b := by
  intro a
  induction a using Nat.strongRecOn with
  | ind a ih =>
    intro b
    by_cases ha : a = 0
    · subst ha; simp
    · have h := ih (a / 2) (by omega) (b / 2)
      have e1 : (a ^^^ b) / 2 = a / 2 ^^^ b / 2 := Nat.xor_div_two
      have e2 : (a &&& b) / 2 = a / 2 &&& b / 2 := Nat.and_div_two
      have e3 : (a ^^^ b) % 2 = 1 ↔ ¬ (a % 2 = 1 ↔ b % 2 = 1) := Nat.xor_mod_two_eq_one
      have e4 : (a &&& b) % 2 = 1 ↔ a % 2 = 1 ∧ b % 2 = 1 := Nat.and_mod_two_eq_one
      rw [← e1, ← e2] at h
      generalize a ^^^ b = x at *
      generalize a &&& b = y at *
      by_cases p : a % 2 = 1 <;> by_cases q : b % 2 = 1 <;> simp [p, q] at e3 e4 <;> omega
theorem bitAnd_nat (a b : Nat) : Builtin.bitAnd (a : Int) (b : Int) = ((a &&& b : Nat) : Int) := by
  unfold Builtin.bitAnd
  simp
theorem bitXor_nat (a b : Nat) : Builtin.bitXor (a : Int) (b : Int) = ((a ^^^ b : Nat) : Int) := by
  rw [bitXor_and, bitAnd_nat]
  have := xor_add_and a b
  omega
theorem fdiv_two (a : Nat) : Int.fdiv (a : Int) 2 = ((a / 2 : Nat) : Int) := by
  rw [Int.fdiv_eq_ediv_of_nonneg _ (by omega)]; omega
theorem fdiv_pow (a k : Nat) : Int.fdiv (a : Int) (2 ^ k) = ((a / 2 ^ k : Nat) : Int) := by
  rw [Int.fdiv_eq_ediv_of_nonneg _ (Int.le_of_lt (Int.pow_pos (by decide)))]
  simp
theorem intBits_nat (a : Nat) : Builtin.Int.intBits (a : Int) = if a = 0 then 0 else a.log2 + 1 := by
  unfold Builtin.Int.intBits
  simp
noncomputable def rankN (n : Nat) : Nat := if h : n = 0 then 0 else n ^^^ rankN (n / 2)
termination_by n
decreasing_by omega
theorem rankN_pos {n : Nat} (h : n ≠ 0) : rankN n = n ^^^ rankN (n / 2) := by rw [rankN]; simp [h]
theorem rankN_zero : rankN 0 = 0 := by rw [rankN]; simp
end Mine
end
section -- LRank
open PySem PySem.W PySem.W.X PyProof.Rows
set_option Elab.async false
set_option maxRecDepth 100000
set_option linter.unusedVariables false
namespace Mine
theorem look_eq {m : Str → Option Value} {x : Str} {v : Option Value} : (fun y => if y = x then v else m y) x = v := if_pos rfl
theorem look_ne {m : Str → Option Value} {x y : Str} {v u : Option Value} (h : m y = u) (hn : y ≠ x := by decide) : (fun z => if z = x then v else m z) y = u := (if_neg hn).trans h
local macro_rules | `(tactic| kn_hit) => `(tactic| first | assumption | exact look_eq | (refine look_ne ?_; kn_hit) | rfl)
local macro_rules | `(tactic| walk_at "eval Name") => `(tactic| (refine ld (by assumption) (by kn_hit) ?_))
theorem rank_ok {w : World} {A : Around} {E : Value → Shared → Prop} {s : Shared} {n : Nat} {t : Tok} (hA : Ok 0 A) (X : Base w s.heap) :
    wpAny (model prg w) A (call (.ref 58) [.int n t]) (RetI s (rankN n)) E s := by
  refine hA.run ?_
  obtain ⟨o, pm, cd, doc, ho, hd, hcd⟩ := f_rank X
  refine wpAny_call (call_plain_ret (binds := [(Str.ofString "number", .int n t)]) (by decide) ho hd (nolim X) hcd rfl (locs rfl) (fun h₁ F => ?_))
  change wpAny _ _ (execs [_, _, _] _) _ _ _
  iterate 4 walk1
  rename_i h₂ F₂
  clear F
  refine wpAny_execs_cons (wpAny_While ?_)
  refine codeAny_whileLoop (fun j s' => ∃ h tk m, ∃ r v : Nat, ∃ u t', s' = { s with heap := h, toks := tk } ∧ Fr s.heap s.heap.objs.size h m ∧ m (Str.ofString "rank") = some (.int r u) ∧ m (Str.ofString "number") = some (.int v t') ∧ r ^^^ rankN v = rankN n ∧ j = v) ?_ n
    ⟨h₂, _, _, 0, n, _, t, rfl, F₂, by kn_hit, by kn_hit, by simp, rfl⟩
  rintro j s' ⟨h, tk, m, r, v, u, t', rfl, F', hm1, hm2, hr, rfl⟩
  clear F₂
  iterate 5 walk1
  by_cases hv : j = 0
  · rw [if_neg (by simp [hv])]
    subst hv
    walk1
    walk1
    walk1
    walk1
    rw [rankN_zero, Nat.xor_zero] at hr
    exact ⟨⟨u, by rw [← hr]⟩, keeps_of F'⟩
  · rw [if_pos (by simp; omega)]
    have N := (News.nil : News s.heap s.heap.objs.size h [])
    iterate 24 walk1
    rename_i F₉
    refine ⟨j / 2, by omega, _, _, _, r ^^^ j, j / 2, _, _, rfl, F₉, by rw [← bitXor_nat]; kn_hit, by rw [← fdiv_two]; kn_hit, ?_, rfl⟩
    rw [← hr, rankN_pos hv, Nat.xor_assoc]
end Mine
end
section -- LRed
open PySem PySem.Calls PySem.W PySem.W.X PyProof.Rows
set_option Elab.async false
set_option maxRecDepth 100000
set_option linter.unusedVariables false
namespace Mine
noncomputable def FnOkD (h : Heap) (a : Addr) (i : Nat) (d : Value) : Prop := ∃ o pm cd doc, h.get? a = some o ∧ o.data = .func { fn i pm cd doc with defaults := d } ∧ h.CodeRec cd (nmS (st i))
theorem f_reduce {w : World} {h : Heap} (X : Base w h) : FnOkD h 44 6 (.ref 37) := ⟨_, _, _, _, X 44 _ rfl, rfl, 43, _, _, _, rfl, X 43 _ rfl, rfl, rfl⟩
theorem iter_range {w : World} {A : Around} {E : Value → Shared → Prop} {Q : Value → Shared → Prop} {s : Shared} {r : Addr} {a b c : Int} {t u v : Tok} (hr : IsRange s.heap r a b c t u v) (hs : Builtin.Range.small a b c = true)
    (hQ : ∀ h', IsRangeIter h' s.heap.objs.size a (Builtin.Range.rangeSize a b c) c → (∀ b o, s.heap.get? b = some o → h'.get? b = some o) → Q (.ref s.heap.objs.size) { s with heap := h' }) :
    wpAny (model prg w) A (call (.builtin "iter") [.ref r]) Q E s := by
  refine call_function_entry (by decide +kernel) (by decide +kernel) kdk_entry_iter (kdk_args_iter _) ?_
  unfold Builtin.«iter»
  refine wpAny_bind (m := someArgs "iter" 1 2 _) (wpAny_of_eq (a := [Value.ref r]) rfl ?_)
  show wpAny _ _ (pyIter (.ref r) >>= _) _ _ _
  refine wpAny_bind (wpAny_pyIter_range hr hs ?_)
  exact wpAny_pure ⟨_, rfl, hQ _ (Heap.get?_push_size _ rfl) fun b o e => Heap.get?_push_of_some _ e⟩
theorem call_d {w : World} {A : Around} {E : Value → Shared → Prop} {Q : Value → Shared → Prop} {s : Shared} {nm : Str} {params : Arguments} {body : List Stmt} {scope : Scope} {pm cd doc d : Value} {a : Addr} {o : Obj} {args : List Value} {binds : List (Str × Value)}
    (hroom : A.depth < recursionLimit) (ho : s.heap.get? a = some o) (hdata : o.data = .func { Calls.docDef nm params body scope pm cd doc with defaults := d }) (hlim : s.heap.NoLimit) (hcd : s.heap.CodeRec cd nm)
    (hbind : BindsTo s { Calls.docDef nm params body scope pm cd doc with defaults := d } ⟨args, []⟩ binds) (hloc : ∀ x ∈ binds, scope.names.lookup x.1 = some .local)
    (h : ∀ h₁, Fr s.heap s.heap.objs.size h₁ (fun x => binds.reverse.lookup x) →
      wpAny (model prg w) (A.deeper (envOf nm scope s.heap.objs.size a cd)) (execs body (envOf nm scope s.heap.objs.size a cd))
        (fun f s' => Q (match f with | .ret v => v | _ => .none) s') (fun _ _ => False) { s with heap := h₁, toks := s.toks + binds.length })
    (hco : scope.isCoroutine = false := by rfl) (hgen : scope.isGenerator = false := by rfl) (hk : scope.kind = .function := by rfl) (hcell : ∀ x ∈ scope.names, x.2 ≠ .cell := by decide) :
    wpAny (model prg w) A (call (.ref a) args) Q E s :=
  wpAny_call (codeAny_call_def hroom ho hdata hlim hcd rfl hbind hcell hloc (fun h₁ Ns K => wpAny_mono (h h₁ ⟨Ns, K, Nat.le_refl _⟩) (fun _ _ x => x) (fun _ _ x => x.elim)) hco hgen hk)
theorem ok_deep {n k : Nat} {env : Env} (h : k < n) (hn : n ≤ 50) : Ok k ((As n).deeper env) := ⟨rfl, by show 900 - 10 * n + 1 + 10 * k ≤ 900; omega, by show 8000 - 100 * n + 3 + 100 * k ≤ 8000; omega⟩
theorem fnAt_keeps {h h' : Heap} {q : Addr} (x : FnAt q h) (k : ∀ b o, h.get? b = some o → h'.get? b = some o) : FnAt q h' := let ⟨a, b, c, d, e⟩ := x; ⟨a, b, c, d, k _ _ e⟩
theorem useI {M : Model} {A : Around} {t : Sem Value} {n : Int} {Q E : Value → Shared → Prop} {s : Shared} (hc : wpAny M A t (RetI s n) E s)
    (h : ∀ u h' tk, (∀ b o, s.heap.get? b = some o → h'.get? b = some o) → Q (.int n u) { s with heap := h', toks := tk }) : wpAny M A t Q E s :=
  wpAny_mono hc (fun v s' hv => by obtain ⟨⟨u, rfl⟩, h', tk, rfl, k⟩ := hv; exact h u h' tk k) fun _ _ e => e
theorem useB {M : Model} {A : Around} {t : Sem Value} {b : Bool} {Q E : Value → Shared → Prop} {s : Shared} (hc : wpAny M A t (RetB s b) E s)
    (h : ∀ h' tk, (∀ b o, s.heap.get? b = some o → h'.get? b = some o) → Q (.bool b) { s with heap := h', toks := tk }) : wpAny M A t Q E s :=
  wpAny_mono hc (fun v s' hv => by obtain ⟨rfl, h', tk, rfl, k⟩ := hv; exact h h' tk k) fun _ _ e => e
local macro_rules | `(tactic| kn_hit) => `(tactic| first | assumption | exact look_eq | (refine look_ne ?_; kn_hit) | rfl)
local macro_rules | `(tactic| walk_at "eval Name") => `(tactic| (refine ld (by assumption) (by kn_hit) ?_))
theorem reduce_ok {w : World} {A : Around} {E : Value → Shared → Prop} {s : Shared} {f r : Addr} {a b : Int} {t u v t0 : Tok} {n : Nat} (g : Int → Int → Int) (hA : Ok 1 A) (X : Base w s.heap)
    (hr : IsRange s.heap r a b 1 t u v) (hs : Builtin.Range.small a b 1 = true) (hn : Builtin.Range.rangeSize a b 1 = (n : Int))
    (hfo : FnAt f s.heap) (hf : ∀ s' (x k : Int) t1 t2 E', a ≤ k → Keeps s s' → wpAny (model prg w) (As 0) (call (.ref f) [.int x t1, .int k t2]) (RetI s' (g x k)) E' s') :
    wpAny (model prg w) A (call (.ref 44) [.ref f, .ref r, .int 0 t0]) (RetI s ((List.range n).foldl (fun x (i : Nat) => g x (a + i)) 0)) E s := by
  refine hA.run ?_
  obtain ⟨o, pm, cd, doc, ho, hd, hcd⟩ := f_reduce X
  refine call_d (binds := [(Str.ofString "function", .ref f), (Str.ofString "sequence", .ref r), (Str.ofString "initial", .int 0 t0)]) (by decide) ho hd (nolim X) hcd (BindsTo.of_defaults rfl (X 37 _ rfl) rfl rfl rfl) (locs rfl) (fun h₁ F => ?_)
  change wpAny _ _ (execs [_, _, _, _] _) _ _ _
  iterate 3 walk1
  refine bname (base_fr X F) (n_iter _) (b_iter _) ?_
  iterate 4 walk1
  refine iter_range (F.keep _ _ hr) hs fun h₂ hI K₂ => ?_
  rw [hn] at hI
  have F₂ := F.after K₂
  have N₂ : News s.heap s.heap.objs.size h₂ [(h₁.objs.size, _)] := fun p hp => by
    rw [List.mem_singleton.mp hp]
    exact ⟨hI, Nat.ne_of_gt F.ns.lt, F.fresh⟩
  have hI' : s.heap.objs.size < h₁.objs.size := F.ns.lt
  clear F hI K₂
  change News s.heap s.heap.objs.size h₂ [(h₁.objs.size, _)] at N₂
  revert N₂ hI'
  generalize h₁.objs.size = I
  intro hI' N₂
  iterate 5 walk1
  rename_i h₃ F₃ N₃
  refine gname (base_fr X F₃) (g_miss _) ?_
  refine wpAny_is_other (by rfl) (by intro x; cases x) ?_
  walk1
  rw [if_neg (by decide)]
  iterate 3 walk1
  dsimp only
  refine stN F₃ N₃ (fun h₄ F₄ N₄ => ?_)
  walk1
  have hI₄ : IsRangeIter h₄ I a n 1 := (N₄ _ (List.mem_singleton.mpr rfl)).1
  clear F₂ N₂ F₃ N₃ N₄
  refine wpAny_execs_cons (wpAny_For ?_)
  walk1
  refine wpAny_pyIter_rangeiter hI₄ ?_
  refine codeAny_forLoop_any (fun j s' => ∃ h tk m i x u', s' = { s with heap := h, toks := tk } ∧ Fr s.heap s.heap.objs.size h m ∧ IsRangeIter h I (a + (i : Nat) * 1) ((n : Int) - (i : Nat)) 1 ∧ i ≤ n ∧ j = n - i ∧
    m (Str.ofString "function") = some (.ref f) ∧ m (Str.ofString "value") = some (.int x u') ∧ x = (List.range i).foldl (fun x (i : Nat) => g x (a + i)) 0) ?_ n
    ⟨h₄, _, _, 0, 0, _, rfl, F₄, by simpa using hI₄, Nat.zero_le _, rfl, by kn_hit, by kn_hit, rfl⟩
  rintro j s' ⟨h, tk, m, i, x, u', rfl, F', hit, hi, rfl, hm1, hm2, hx⟩
  clear F₄ hI₄
  by_cases hlt : i < n
  · refine (Walks.range rfl I a 1 n).item i _ _ _ hlt hit fun y h' tk' hP hst hk => ?_
    obtain ⟨ty, rfl⟩ := hP
    have F₅ : Fr s.heap s.heap.objs.size h' m := ⟨F'.ns.at' fun o e => hk _ o (by simp; exact Nat.ne_of_lt hI') e, fun b o e => hk b o (by simp; exact Nat.ne_of_lt (Nat.lt_of_lt_of_le (Heap.lt_size e) (Nat.le_trans F'.above (Nat.le_of_lt hI')))) (F'.keep b o e), F'.above⟩
    have N₅ : News s.heap s.heap.objs.size h' [(I, _)] := fun p hp => by
      rw [List.mem_singleton.mp hp]
      exact ⟨hst, Nat.ne_of_gt hI', Heap.get?_none_of_le (Nat.le_of_lt hI')⟩
    clear F' hit hk hst
    refine wpAny_pure ?_
    iterate 1 walk1
    dsimp only
    refine stN F₅ N₅ (fun h₆ F₆ N₆ => ?_)
    iterate 4 walk1
    have K₆ : ∀ b o, s.heap.get? b = some o → h₆.get? b = some o := F₆.keep
    refine callWith_F (fnAt_keeps hfo K₆) ?_
    iterate 5 walk1
    refine ⟨fnAt_keeps hfo K₆, ?_⟩
    refine useI ((ok_deep (by decide) (by decide) : Ok 0 _).run (hf _ x _ u' ty _ (by omega) ⟨_, _, rfl, K₆⟩)) fun u₇ h₇ tk₇ K₇ => ?_
    have F₇ := F₆.after K₇
    have N₇ := N₆.keepsAll K₇
    clear F₅ N₅ F₆ N₆
    dsimp only
    refine stN F₇ N₇ (fun h₈ F₈ N₈ => ?_)
    iterate 1 walk1
    refine ⟨n - (i + 1), by omega, h₈, _, _, i + 1, g x (a + (i : Nat) * 1), _, rfl, F₈, (N₈ _ (List.mem_singleton.mpr rfl)).1, hlt, rfl, by kn_hit, by kn_hit, ?_⟩
    rw [List.range_succ, List.foldl_append, List.foldl_cons, List.foldl_nil, ← hx, Int.mul_one]
  · have hin : i = n := by omega
    subst hin
    refine (Walks.range rfl I a 1 i).done _ _ _ hit fun h' tk' hk => ?_
    have F₅ : Fr s.heap s.heap.objs.size h' m := ⟨F'.ns.at' fun o e => hk _ o (by simp; exact Nat.ne_of_lt hI') e, fun b o e => hk b o (by simp; exact Nat.ne_of_lt (Nat.lt_of_lt_of_le (Heap.lt_size e) (Nat.le_trans F'.above (Nat.le_of_lt hI')))) (F'.keep b o e), F'.above⟩
    clear F' hk
    walk1
    walk1
    walk1
    walk1
    rw [hx]
    exact ⟨⟨_, rfl⟩, keeps_of F₅⟩
end Mine
end
section -- LTurn
open PySem PySem.Calls PySem.W PySem.W.X PyProof.Rows
set_option Elab.async false
set_option maxRecDepth 100000
set_option linter.unusedVariables false
namespace Mine
section
variable {M : Model} {A : Around} {E : Value → Shared → Prop} {s : Shared} {env : Env} {x : Str} {pos : Pos} {v : Value} {Q : Value → Shared → Prop} {h₀ : Heap} {m : Str → Option Value} {c : Addr} {o : Obj} {news : List (Addr × Obj)} {L : Addr}
theorem nLoc (F : Fr h₀ env.locals s.heap m) (hv : m x = some v) (h : Q v s) (hk : env.scope.kind = .function := by rfl) (hl : env.kindOf x = some .local := by rfl) (hd : (x == ("__debug__" : Str)) = false := by decide) :
    wpAny M A (eval (.Name x pos) env) Q E s := wpAny_Name (wpAny_loadName_local hk hl F.ns hv h) hd
theorem nCell (N : News h₀ L s.heap news) (hl : env.kindOf x = some .cell) (hc : env.cells.lookup x = some c) (hm : (c, o) ∈ news) (ho : o.data = .cell (some v)) (h : Q v s) (hk : env.scope.kind = .function := by rfl) (hd : (x == ("__debug__" : Str)) = false := by decide) :
    wpAny M A (eval (.Name x pos) env) Q E s := wpAny_Name (wpAny_loadName_cell hk hl hc ⟨o, N.get hm, ho⟩ h) hd
theorem nFree (hl : env.kindOf x = some .free) (hc : env.cells.lookup x = some c) (hm : s.heap.get? c = some o) (ho : o.data = .cell (some v)) (h : Q v s) (hk : env.scope.kind = .function := by rfl) (hd : (x == ("__debug__" : Str)) = false := by decide)
    (hn : (x == ("__classdict__" : Str)) = false := by decide) : wpAny M A (eval (.Name x pos) env) Q E s := wpAny_Name (wpAny_loadName_free hk hl hc ⟨o, hm, ho⟩ h hn) hd
theorem sLoc {Q : Unit → Shared → Prop} (F : Fr h₀ env.locals s.heap m) (N : News h₀ env.locals s.heap news)
    (h : ∀ h', Fr h₀ env.locals h' (fun y => if y = x then some v else m y) → News h₀ env.locals h' news → Heap.SameBut env.locals s.heap h' → Q () { s with heap := h', toks := s.toks + 1 })
    (hk : env.scope.kind = .function := by rfl) (hl : env.kindOf x = some .local := by rfl) :
    wpAny M A (storeName env x v) Q E s :=
  wpAny_storeName_local hl F.ns (fun h' hn hs => h h' (F.set hn hs) (N.set hs) hs) (by rw [hk]; rfl)
end
theorem f_turn {w : World} {h : Heap} (X : Base w h) : ∃ o pm doc, h.get? 51 = some o ∧ o.data = .func (fn 8 pm (.ref 50) doc) ∧ h.CodeRec (.ref 50) (nmS (st 8)) := ⟨_, _, _, X 51 _ rfl, rfl, 50, _, _, _, rfl, X 50 _ rfl, rfl, rfl⟩
theorem code_50 {w : World} {h : Heap} (X : Base w h) : CodeHd h 50 46 := ⟨_, _, _, _, _, _, _, _, _, X 50 _ rfl, rfl, rfl, rfl, rfl, rfl, rfl, rfl, rfl, by decide⟩
theorem bm_at {w : World} {h : Heap} {P : Addr} (X : Base w h) (hP : 4 ≠ P) : h.BuiltinsAt (mgP w.params) P := ⟨4, _, rfl, by decide, by decide, hP, X 4 _ rfl, rfl, rfl, rfl⟩
/-- the table of a code object: empty, or with the code at one place -/
noncomputable def Tp (pos : Pos) (q : Str) (h : Heap) (ps : Array Value) : Prop := ps = #[] ∨ ∃ c', ps = #[rawInt pos.line, rawInt pos.col, .ref c'] ∧ h.CodeRec (.ref c') q
theorem Tp.keeps {pos : Pos} {q : Str} {h h' : Heap} {ps : Array Value} (x : Tp pos q h ps) (k : ∀ b o, b ≠ 46 → h.get? b = some o → h'.get? b = some o) (hne : h.get? 46 = some (tabObj ps)) : Tp pos q h' ps := by
  rcases x with rfl | ⟨c', rfl, c, o, vs, t, e, ho, r⟩
  · exact .inl rfl
  · refine .inr ⟨c', rfl, c, o, vs, t, e, k _ _ ?_ ho, r⟩
    rintro rfl
    rw [hne] at ho
    cases ho
    obtain ⟨r1, r2⟩ := r
    cases r1
    cases r2
theorem Tp.keepsAll {pos : Pos} {q : Str} {h h' : Heap} {ps : Array Value} (x : Tp pos q h ps) (k : ∀ b o, h.get? b = some o → h'.get? b = some o) : Tp pos q h' ps := by
  rcases x with rfl | ⟨c', rfl, c, o, vs, t, e, ho, r⟩
  · exact .inl rfl
  · exact .inr ⟨c', rfl, c, o, vs, t, e, k _ _ ho, r⟩
theorem Tp.set {pos : Pos} {q : Str} {h h' : Heap} {ps : Array Value} {L : Addr} {m : Str → Option Value} (x : Tp pos q h ps) (hn : h.Ns L m) (hs : Heap.SameBut L h h') : Tp pos q h' ps := by
  rcases x with rfl | ⟨c', rfl, c, o, vs, t, e, ho, r⟩
  · exact .inl rfl
  · refine .inr ⟨c', rfl, c, o, vs, t, e, (hs.2 c ?_).trans ho, r⟩
    rintro rfl
    obtain ⟨o', es, ep, ho', hd', _⟩ := hn
    rw [ho'] at ho
    cases ho
    rw [hd'] at r
    exact nomatch r.1
theorem lam2_make {w : World} {A : Around} {E : Value → Shared → Prop} {s : Shared} {g : Heap} {L : Addr} {m : Str → Option Value} {oc : Obj} {ps : Array Value} {params : Arguments} {body : Expr} {scope : Scope} {pos : Pos} {env : Env} {clos : List (Str × Addr)} {Q : Value → Shared → Prop}
    (hdef : defaultsOf params env = ([], [])) (hcl : closureFor scope env = pure clos) (hge0 : env.globals = mainGlobals) (hcode : env.code = .ref 50)
    (hL46 : 46 < L) (Xg : Base w g) (F : Fr g L s.heap m) (N : News g L s.heap [(L + 1, oc), (46, tabObj ps)]) (T : Tp pos (env.qual ++ "<lambda>") s.heap ps)
    (h : ∀ f c' pm ctv h' tk ps', Fr g L h' m → News g L h' [(f, kla_obj "<lambda>" (env.qual ++ "<lambda>") params body scope clos pm c' ctv), (L + 1, oc), (46, tabObj ps')] → h'.CodeRec (.ref c') (env.qual ++ "<lambda>") → Tp pos (env.qual ++ "<lambda>") h' ps' →
      Q (.ref f) { s with heap := h', toks := tk }) :
    wpAny (model prg w) A (eval (.Lambda params body scope pos) env) Q E s := by
  have X : Base w s.heap := Xg.keeps F.keep
  have n1 := N (L + 1, oc) (.head _)
  have n2 := N (46, tabObj ps) (.tail _ (.head _))
  have hLs : L < s.heap.objs.size := F.ns.lt
  refine kla_eval hdef ?_
  rcases T with rfl | ⟨c', rfl, hc'⟩
  · refine kla_makeFunction (mg := mgP w.params) hcl hge0 (glob X) hcode (code_50 X) n2.1 trivial rfl (by decide) (bm_at X (by decide)) fun c' ctv h' tk hx hge hlt hrec htb => ?_
    have k' : ∀ b o, g.get? b = some o → h'.get? b = some o := fun b o e => hx b o (fun q => by rw [q, n2.2.2] at e; cases e) (F.keep b o e)
    refine h h'.objs.size c' (((mgP w.params) "__name__").getD .none) ctv _ tk _ ⟨(F.ns.extBut hx n2.2.1.symm).push _, fun b o e => Heap.get?_push_of_some _ (k' b o e), F.above⟩ (fun q hq => ?_) ?_ (.inr ⟨c', rfl, ?_⟩)
    · rcases List.mem_cons.mp hq with rfl | hq
      · have : L < h'.objs.size := Nat.lt_of_lt_of_le hLs (Nat.le_trans hge (Nat.le_of_lt hlt))
        exact ⟨Heap.get?_push_size _ rfl, Nat.ne_of_gt this, Heap.get?_none_of_le (Nat.le_trans F.above (Nat.le_of_lt this))⟩
      · rcases List.mem_cons.mp hq with rfl | hq
        · exact ⟨Heap.get?_push_of_some _ (hx _ _ (Nat.ne_of_gt (Nat.lt_succ_of_lt hL46)) n1.1), n1.2⟩
        · rw [List.mem_singleton.mp hq]
          exact ⟨Heap.get?_push_of_some _ htb, n2.2⟩
    · obtain ⟨c, o, vs, t, e, ho, r⟩ := hrec
      exact ⟨c, o, vs, t, e, Heap.get?_push_of_some _ ho, r⟩
    · obtain ⟨c, o, vs, t, e, ho, r⟩ := hrec
      exact ⟨c, o, vs, t, e, Heap.get?_push_of_some _ ho, r⟩
  · refine kla_makeFunctionHit (mg := mgP w.params) (cv := .ref c') hcl hge0 (glob X) hcode (code_50 X) n2.1 trivial (by simp [codeAmong, rawInt]) (bm_at X (by decide)) fun ctv h' tk hk hsz => ?_
    have hrec : ∀ ob, (h'.push ob).CodeRec (.ref c') (env.qual ++ "<lambda>") := fun ob => by
      obtain ⟨c, o, vs, t, e, ho, r⟩ := hc'
      exact ⟨c, o, vs, t, e, Heap.get?_push_of_some _ (hk _ _ ho), r⟩
    refine h h'.objs.size c' (((mgP w.params) "__name__").getD .none) ctv _ tk _ ⟨(F.ns.keeps hk).push _, fun b o e => Heap.get?_push_of_some _ (hk b o (F.keep b o e)), F.above⟩ (fun q hq => ?_) (hrec _) (.inr ⟨c', rfl, hrec _⟩)
    rcases List.mem_cons.mp hq with rfl | hq
    · have : L < h'.objs.size := Nat.lt_of_lt_of_le hLs hsz
      exact ⟨Heap.get?_push_size _ rfl, Nat.ne_of_gt this, Heap.get?_none_of_le (Nat.le_trans F.above (Nat.le_of_lt this))⟩
    · exact ⟨Heap.get?_push_of_some _ (hk _ _ (N q hq).1), (N q hq).2⟩
theorem call_lam {w : World} {A : Around} {E : Value → Shared → Prop} {Q : Value → Shared → Prop} {s : Shared} {nm q : Str} {params : Arguments} {body : Expr} {scope : Scope} {pm ctv : Value} {cl : List (Str × Addr)} {f c' : Addr} {args : List Value} {binds : List (Str × Value)}
    (hroom : A.depth < recursionLimit) (ho : s.heap.get? f = some (kla_obj nm q params body scope cl pm c' ctv)) (hlim : s.heap.NoLimit) (hcd : s.heap.CodeRec (.ref c') q)
    (hbind : bindArgs (kla_fn nm q params body scope cl pm (.ref c') ctv) ⟨args, []⟩ = pure binds) (hloc : ∀ x ∈ binds, scope.names.lookup x.1 = some .local)
    (h : ∀ h₁, Fr s.heap s.heap.objs.size h₁ (fun x => binds.reverse.lookup x) →
      wpAny (model prg w) (A.deeper (envX q scope s.heap.objs.size f (.ref c') cl)) (eval body (envX q scope s.heap.objs.size f (.ref c') cl)) Q (fun _ _ => False) { s with heap := h₁, toks := s.toks + binds.length })
    (hco : scope.isCoroutine = false := by rfl) (hgen : scope.isGenerator = false := by rfl) (hk : scope.kind = .function := by rfl) (hcell : ∀ x ∈ scope.names, x.2 ≠ .cell := by decide) :
    wpAny (model prg w) A (call (.ref f) args) Q E s := by
  refine wpAny_call (kla_callFunE hroom ho rfl hco hgen rfl hcd ?_)
  rw [hbind]
  refine wpAny_pure (wpAny_newFunctionEnv hcell hloc (fun h₁ hns hsb => ⟨hlim.fresh _ hsb, ?_⟩) hk)
  show codeAny _ _ (.expr body (envX q scope s.heap.objs.size f (.ref c') cl)) _ _
  have hk₁ : ∀ b o, s.heap.get? b = some o → h₁.get? b = some o := fun b o e => hsb.extBut b o (Nat.ne_of_lt (Heap.lt_size e)) (Heap.get?_push_of_some _ e)
  exact kla_codeExpr (wpAny_mono (h _ ⟨hns, hk₁, Nat.le_refl _⟩) (fun _ _ x => x) fun _ _ x => x.elim)
theorem fn_28 {w : World} {h : Heap} (X : Base w h) : FnAt 28 h := ⟨_, _, _, _, X 28 _ rfl⟩
theorem fn_44 {w : World} {h : Heap} (X : Base w h) : FnAt 44 h := ⟨_, _, _, _, X 44 _ rfl⟩
theorem base_hide {w : World} {h : Heap} (X : Base w h) : Base w (hideAll h [46]) := fun a o e => hideAll_get _ (X a o e) fun hm => by
  rw [List.mem_singleton.mp hm] at e
  exact absurd e (by rw [show (Kb w.params).lookup 46 = none from rfl]; exact fun q => nomatch q)
local macro_rules | `(tactic| walk_at "no such tree") => `(tactic| skip)
local macro_rules | `(tactic| kn_hit) => `(tactic| first | assumption | exact look_eq | (refine look_ne ?_; kn_hit) | rfl)
local macro_rules | `(tactic| walk_at "eval Name") => `(tactic| first | refine nLoc (by assumption) (by kn_hit) ?_ | refine nCell (by assumption) rfl rfl (by news_mem) (by assumption) ?_)
/-- one step of the lambda of _law_turn -/
noncomputable def g2 (a x k : Int) : Int := Builtin.bitXor x (Builtin.bitAnd (Int.fdiv a (2 ^ k.toNat)) 1)
noncomputable def lamS : Stmt → Expr | .Assign _ (.Call _ (e :: _) _ _) _ => e | _ => default
noncomputable def lam2 : Expr := lamS ((bodyS (st 8)).getD 2 default)
noncomputable def lamArgs : Expr → Arguments | .Lambda a _ _ _ => a | _ => default
noncomputable def lamBody : Expr → Expr | .Lambda _ b _ _ => b | _ => default
noncomputable def lamScope : Expr → Scope | .Lambda _ _ s _ => s | _ => default
theorem lam2_ok {w : World} {A : Around} {E : Value → Shared → Prop} {s : Shared} {f c c' : Addr} {q : Str} {pm ctv : Value} {oc : Obj} {a : Nat} {x : Int} {k : Nat} {t t1 t2 : Tok} (hA : Ok 0 A) (X : Base w s.heap)
    (ho : s.heap.get? f = some (kla_obj (Str.ofString "<lambda>") q (lamArgs lam2) (lamBody lam2) (lamScope lam2) [(Str.ofString "one", c)] pm c' ctv)) (hcd : s.heap.CodeRec (.ref c') q) (hc : s.heap.get? c = some oc) (hoc : oc.data = .cell (some (.int a t))) :
    wpAny (model prg w) A (call (.ref f) [.int x t1, .int k t2]) (RetI s (g2 a x k)) E s := by
  refine hA.run ?_
  refine call_lam (binds := [(Str.ofString "told", .int x t1), (Str.ofString "k", .int k t2)]) (by decide) ho (nolim X) hcd rfl (locs rfl) fun h₁ F => ?_
  change wpAny _ _ (eval (.BinOp _ _ _ _) _) _ _ _
  iterate 4 walk1
  refine nFree rfl rfl (F.keep _ _ hc) hoc ?_
  repeat walk1
  exact ⟨⟨_, rfl⟩, keeps_of F⟩
noncomputable def posL2 : Pos := lam2.pos
noncomputable def qL2 : Str := nmS (st 8) ++ ".<locals>." ++ "<lambda>"
noncomputable def T46 (h : Heap) : Prop := ∃ ps, h.get? 46 = some (tabObj ps) ∧ Tp posL2 qL2 h ps
/-- all but the table 46 stands -/
noncomputable def Kp (s s' : Shared) : Prop := ∃ h' tk, s' = { s with heap := h', toks := tk } ∧ (∀ b o, b ≠ 46 → s.heap.get? b = some o → h'.get? b = some o) ∧ T46 h'
noncomputable def RetJ (s : Shared) (n : Int) (v : Value) (s' : Shared) : Prop := (∃ u, v = .int n u) ∧ Kp s s'
noncomputable def hb (a : Int) : Int := Builtin.Int.intBits a - 1
noncomputable def oddV (a p : Int) : Int := (List.range (Builtin.Range.rangeSize (p + 1) (hb a + 1) 1).toNat).foldl (fun x (i : Nat) => g2 a x (p + 1 + i)) 0
noncomputable def turnV (a b : Int) : Int := if hb (Builtin.bitXor a b) < 0 then 0 else
  Builtin.bitXor (Builtin.bitAnd (Int.fdiv a (2 ^ (hb (Builtin.bitXor a b)).toNat)) 1) (oddV a (hb (Builtin.bitXor a b))) * 2 - 1
theorem kp_of {s : Shared} {L : Addr} {h : Heap} {m : Str → Option Value} {tk : Nat} {ps : Array Value} (F : Fr (hideAll s.heap [46]) L h m) (e : h.get? 46 = some (tabObj ps)) (T : Tp posL2 qL2 h ps) : Kp s { s with heap := h, toks := tk } :=
  ⟨h, tk, rfl, fun b o hb e => F.keep b o (hideAll_get _ e fun q => hb (List.mem_singleton.mp q)), ps, e, T⟩
theorem mk_range {w : World} {A : Around} {E : Value → Shared → Prop} {s : Shared} {a b : Int} {t u : Tok} {Q : Value → Shared → Prop}
    (h : ∀ h', IsRange h' s.heap.objs.size a b 1 t u s.toks → (∀ b o, s.heap.get? b = some o → h'.get? b = some o) → Q (.ref s.heap.objs.size) { s with heap := h', toks := s.toks + 1 }) :
    wpAny (model prg w) A (call (.type "range") [.int a t, .int b u]) Q E s :=
  call_range_2 (h _ (IsRange.new _ _ _ _ _ _ _) fun b o e => Heap.get?_push_of_some _ e)
theorem small_of {x y : Int} (h0 : 0 ≤ x) (h1 : x ≤ 4096) (h2 : 0 ≤ y) (h3 : y ≤ 4096) : Builtin.Range.small x y 1 = true := by
  unfold Builtin.Range.small Builtin.Range.rangeFitsLong
  rw [rangeSize_one]
  simp
  split <;> omega
theorem size_nat (x y : Int) : Builtin.Range.rangeSize x y 1 = ((Builtin.Range.rangeSize x y 1).toNat : Int) := by
  rw [rangeSize_one]
  split <;> omega
theorem bits_le {a : Nat} (h : a < 2 ^ 64) : Builtin.Int.intBits (a : Int) ≤ 64 := by
  rw [intBits_nat]
  split
  · omega
  · have := (Nat.log2_lt (by assumption)).mpr h
    omega
theorem turn_ok {w : World} {A : Around} {E : Value → Shared → Prop} {s : Shared} {a b : Nat} {t u : Tok} (hA : Ok 2 A) (X : Base w s.heap) (h46 : T46 s.heap) (ha : a < 2 ^ 64) (hb' : b < 2 ^ 64) :
    wpAny (model prg w) A (call (.ref 51) [.int a t, .int b u]) (RetJ s (turnV a b)) E s := by
  refine hA.run ?_
  obtain ⟨ps, h46, T⟩ := h46
  obtain ⟨o, pm, doc, ho, hd, hcd⟩ := f_turn X
  refine wpAny_call (call_cellsN_ret (binds := [(Str.ofString "one", .int a t), (Str.ofString "two", .int b u)]) (by decide) ho hd (nolim X) hcd rfl ?_ (by decide) (fun h₁ tk cells F N C => ?_))
  · intro x hx
    rcases List.mem_cons.mp hx with rfl | hx
    · exact .inr ⟨rfl, rfl⟩
    · rw [List.mem_singleton.mp hx]
      exact .inl rfl
  change wpAny _ _ (execs [_, _, _, _] _) _ _ _
  obtain ⟨oc, rfl, hoc⟩ := CellsAre.one C
  change oc.data = .cell (some (.int a t)) at hoc
  change Fr _ _ _ (fun y => if y = Str.ofString "two" then some (.int b u) else none) at F
  clear C
  have hlt46 : 46 < s.heap.objs.size := Heap.lt_size h46
  generalize hL : s.heap.objs.size = L at *
  have Xg := base_hide X
  replace N : News (hideAll s.heap [46]) L h₁ [(L + 1, oc), (46, tabObj ps)] := fun p hp => by
    rcases List.mem_cons.mp hp with rfl | hp
    · exact ⟨(N _ (List.mem_singleton.mpr rfl)).1, (N _ (List.mem_singleton.mpr rfl)).2.1, Heap.get?_none_of_le (by rw [hideAll_size, hL]; exact Nat.le_succ _)⟩
    · rw [List.mem_singleton.mp hp]
      exact ⟨F.keep _ _ h46, Nat.ne_of_lt hlt46, hideAll_none _ (List.mem_singleton.mpr rfl)⟩
  have Tg : Tp posL2 qL2 (hideAll s.heap [46]) ps := T.keeps (fun b o hb e => hideAll_get _ e fun q => hb (List.mem_singleton.mp q)) h46
  replace F : Fr (hideAll s.heap [46]) L h₁ _ := ⟨F.ns, fun b o e => F.keep b o (of_hideAll _ e), by rw [hideAll_size, hL]; exact Nat.le_refl _⟩
  iterate 3 walk1
  refine gname (base_fr (s := { s with heap := _ }) Xg F) (g_high _) ?_
  refine callWith_F (fn_28 (base_fr (s := { s with heap := _ }) Xg F)) ?_
  iterate 6 walk1
  rename_i N
  refine ⟨fn_28 (base_fr (s := { s with heap := _ }) Xg F), ?_⟩
  refine useI (high_ok (ok_deep (by decide) (by decide)) (base_fr (s := { s with heap := _ }) Xg F)) fun u₂ h₂ tk₂ K₂ => ?_
  have F₂ := F.after K₂
  have N₂ := N.keepsAll K₂
  clear F N K₂
  iterate 8 walk1
  rename_i F' N' h₃ F₃ N₃ _ _
  clear F' N'
  by_cases hpl : hb (Builtin.bitXor a b) < 0
  · rw [if_pos (by unfold hb at hpl; simpa using hpl)]
    iterate 3 walk1
    refine ⟨⟨_, by rw [turnV, if_pos hpl]⟩, kp_of F₃ (N₃ _ (.tail _ (.head _))).1 (Tg.keepsAll F₃.keep)⟩
  rw [if_neg (by unfold hb at hpl; simpa using hpl)]
  iterate 4 walk1
  refine gname (base_fr (s := { s with heap := _ }) Xg F₃) (g_reduce _) ?_
  refine callWith_F (fn_44 (base_fr (s := { s with heap := _ }) Xg F₃)) ?_
  walk1
  refine lam2_make rfl rfl rfl rfl hlt46 Xg F₃ N₃ (Tg.keepsAll F₃.keep) fun f c' pm' ctv h₄ tk₄ ps' F₄ N₄ hc₄ T₄ => ?_
  clear F₃ N₃
  iterate 2 walk1
  refine bname (base_fr (s := { s with heap := _ }) Xg F₄) (n_range _) (b_range _) ?_
  iterate 6 walk1
  iterate 3 walk1
  rename_i N₄
  refine gname (base_fr (s := { s with heap := _ }) Xg F₄) (g_high _) ?_
  refine callWith_F (fn_28 (base_fr (s := { s with heap := _ }) Xg F₄)) ?_
  iterate 3 walk1
  rename_i N₄
  refine ⟨fn_28 (base_fr (s := { s with heap := _ }) Xg F₄), ?_⟩
  refine useI (high_ok (ok_deep (by decide) (by decide)) (base_fr (s := { s with heap := _ }) Xg F₄)) fun u₅ h₅ tk₅ K₅ => ?_
  have F₅ := F₄.after K₅
  have N₅ := N₄.keepsAll K₅
  have T₅ := T₄.keepsAll K₅
  have hc₅ : h₅.CodeRec (.ref c') qL2 := by
    obtain ⟨c, o, vs, t, e, ho, r⟩ := hc₄
    exact ⟨c, o, vs, t, e, K₅ _ _ ho, r⟩
  clear F₄ N₄ T₄ hc₄ K₅
  iterate 3 walk1
  refine mk_range fun h₆ hr K₆ => ?_
  change IsRange h₆ h₅.objs.size (hb (Builtin.bitXor a b) + 1) (hb a + 1) 1 _ _ _ at hr
  have F₆ := F₅.after K₆
  have N₆ := N₅.keepsAll K₆
  have T₆ := T₅.keepsAll K₆
  have hc₆ : h₆.CodeRec (.ref c') qL2 := by
    obtain ⟨c, o, vs, t, e, ho, r⟩ := hc₅
    exact ⟨c, o, vs, t, e, K₆ _ _ ho, r⟩
  clear N₄ F₅ N₅ T₅ hc₅ K₆
  iterate 3 walk1
  refine ⟨fn_44 (base_fr (s := { s with heap := _ }) Xg F₆), ?_⟩
  have hx : ((a ^^^ b : Nat)) < 2 ^ 64 := Nat.xor_lt_two_pow ha hb'
  have b1 := bits_le ha
  have b2 := bits_le hx
  have hpl' : 0 ≤ hb (Builtin.bitXor a b) := by omega
  have hpl2 : hb (Builtin.bitXor a b) + 1 ≤ 64 := by unfold hb; rw [bitXor_nat]; omega
  refine useI (reduce_ok (n := (Builtin.Range.rangeSize (hb (Builtin.bitXor a b) + 1) (hb a + 1) 1).toNat) (g2 a) (ok_deep (by decide) (by decide)) (base_fr (s := { s with heap := _ }) Xg F₆) hr
    (small_of (by omega) (by omega) (by unfold hb; omega) (by unfold hb; omega)) (size_nat _ _) ⟨_, _, _, _, (N₆ _ (.head _)).1⟩ ?_) ?_
  · intro s' x k t1 t2 E' hk hks
    obtain ⟨h', tk', rfl, K⟩ := hks
    obtain ⟨kn, rfl⟩ := Int.eq_ofNat_of_zero_le (a := k) (by omega)
    refine lam2_ok (c := L + 1) ⟨rfl, by decide, by decide⟩ ((base_fr (s := { s with heap := _ }) Xg F₆).keeps K) (K _ _ (N₆ _ (.head _)).1) ?_ (K _ _ (N₆ _ (.tail _ (.head _))).1) hoc
    obtain ⟨c, o, vs, t, e, ho, r⟩ := hc₆
    exact ⟨c, o, vs, t, e, K _ _ ho, r⟩
  intro u₇ h₇ tk₇ K₇
  have F₇ := F₆.after K₇
  have N₇ := N₆.keepsAll K₇
  have T₇ := T₆.keepsAll K₇
  clear F₆ N₆ T₆ hc₆ K₇
  refine sLoc F₇ N₇ fun h₈ F₈ N₈ S₈ => ?_
  have T₈ := T₇.set F₇.ns S₈
  clear F₇ N₇ T₇ S₈
  change Fr (hideAll s.heap [46]) L h₈ _ at F₈
  change News (hideAll s.heap [46]) L h₈ _ at N₈
  have e8 := (N₈ _ (.tail _ (.tail _ (.head _)))).1
  have hpl3 : 0 ≤ (Builtin.Int.intBits (Builtin.bitXor a b) : Int) - 1 := hpl'
  repeat walk1
  have ev : turnV a b = _ := if_neg hpl
  rw [ev]
  exact ⟨⟨_, rfl⟩, kp_of F₈ e8 T₈⟩
end Mine
end
section -- LTree
open PySem PySem.Calls PySem.W PySem.W.X PyProof.Rows
set_option Elab.async false
set_option maxRecDepth 100000
set_option linter.unusedVariables false
namespace Mine
/-- the sort's tree with an oracle -/
noncomputable def evT {α : Type} (lt : Nat → Nat → Bool) : KasT α → α
  | .ret a => a
  | .ask i j k => evT lt (k (lt i j))
noncomputable def InTP {α : Type} (n : Nat) (P : α → Prop) : KasT α → Prop
  | .ret a => P a
  | .ask i j k => i < n ∧ j < n ∧ ∀ b, InTP n P (k b)
theorem InTP.ev {α : Type} {n : Nat} {P : α → Prop} {lt : Nat → Nat → Bool} : ∀ {t : KasT α}, InTP n P t → P (evT lt t)
  | .ret _, h => h
  | .ask i j k, h => InTP.ev (t := k (lt i j)) (h.2.2 (lt i j))
theorem InTP.bind {α β : Type} {n : Nat} {P : α → Prop} {P' : β → Prop} {f : α → KasT β} : ∀ {t : KasT α}, InTP n P t → (∀ a, P a → InTP n P' (f a)) → InTP n P' (t.bind f)
  | .ret a, h, hf => hf a h
  | .ask _ _ _, h, hf => ⟨h.1, h.2.1, fun b => InTP.bind (h.2.2 b) hf⟩
theorem InTP.ite {α : Type} {n : Nat} {P : α → Prop} {c : Prop} [Decidable c] {t t' : KasT α} (h : InTP n P t) (h' : InTP n P t') : InTP n P (if c then t else t') := by split <;> assumption
theorem evT_congr {α : Type} {n : Nat} {P : α → Prop} {lt lt' : Nat → Nat → Bool} (hl : ∀ i j, i < n → j < n → lt i j = lt' i j) : ∀ {t : KasT α}, InTP n P t → evT lt t = evT lt' t
  | .ret _, _ => rfl
  | .ask i j k, h => by
    show evT lt (k (lt i j)) = evT lt' (k (lt' i j))
    rw [hl i j h.1 h.2.1]
    exact evT_congr hl (h.2.2 _)
theorem wp_ev {α : Type} {n : Nat} {P : α → Prop} {cmp : Nat → Nat → (Bool → Shared → Prop) → Shared → Prop} {lt : Nat → Nat → Bool} {I : Shared → Prop}
    (hc : ∀ i j C s, i < n → j < n → I s → (∀ s', I s' → C (lt i j) s') → cmp i j C s) {Q : α → Shared → Prop} : ∀ {t : KasT α} {s : Shared}, InTP n P t → I s → (∀ s', I s' → Q (evT lt t) s') → t.kasWp cmp Q s
  | .ret _, s, _, hI, hQ => hQ s hI
  | .ask i j k, s, h, hI, hQ => hc i j _ s h.1 h.2.1 hI fun s' hI' => wp_ev hc (h.2.2 _) hI' hQ

noncomputable def Bd (n : Nat) (p : Array Nat) : Prop := p.size = n ∧ ∀ x ∈ p.toList, x < n
theorem Bd.get {n : Nat} {p : Array Nat} (h : Bd n p) (hn : 0 < n) (i : Nat) : p.getD i 0 < n := by
  by_cases hi : i < p.size
  · rw [Array.getD, dif_pos hi]
    exact h.2 _ (by simp)
  · rw [Array.getD, dif_neg hi]
    exact hn
theorem Bd.perm {n : Nat} {p q : Array Nat} (h : Bd n p) (hq : q.Perm p) : Bd n q :=
  ⟨hq.size_eq.trans h.1, fun x hx => h.2 x ((Array.perm_iff_toList_perm.mp hq).mem_iff.mp hx)⟩
theorem in_asc {n : Nat} (hn : 0 < n) {p : Array Nat} (h : Bd n p) : ∀ f m, InTP n (fun _ => True) (kas_asc p f m)
  | 0, _ => trivial
  | f + 1, m => ⟨h.get hn _, h.get hn _, fun b => InTP.ite trivial (in_asc hn h f _)⟩
theorem in_desc {n : Nat} (hn : 0 < n) : ∀ f {p : Array Nat} m q, Bd n p → InTP n (fun r : Array Nat × Nat × Nat => Bd n r.1) (kas_desc f p m q)
  | 0, _, _, _, h => h
  | f + 1, p, m, q, h => ⟨h.get hn _, h.get hn _, fun b => InTP.ite (InTP.ite (in_desc hn f _ _ (h.perm (mirror_perm _ _ _ _))) (in_desc hn f _ _ h))
      ⟨h.get hn _, h.get hn _, fun b => InTP.ite h (in_desc hn f _ _ h)⟩⟩
theorem in_tail3 {n : Nat} (hn : 0 < n) {p : Array Nat} (h : Bd n p) (a b : Nat) : InTP n (fun r : Nat × Array Nat => Bd n r.2) (kas_tail3 a b p) :=
  InTP.bind (in_asc hn (h.perm (mirror_perm _ _ _ _)) _ _) fun _ _ => (h.perm (mirror_perm _ _ _ _))
theorem in_descPart {n : Nat} (hn : 0 < n) {p : Array Nat} (h : Bd n p) (a b : Nat) : InTP n (fun r : Nat × Array Nat => Bd n r.2) (kas_descPart a b p) :=
  InTP.bind (in_desc hn _ _ _ h) fun r hr => InTP.ite (in_tail3 hn (hr.perm (mirror_perm _ _ _ _)) _ _) (in_tail3 hn hr _ _)
theorem in_count {n : Nat} (hn : 0 < n) {p : Array Nat} (h : Bd n p) (a : Nat) : InTP n (fun r : Nat × Array Nat => Bd n r.2) (kas_count a p) :=
  InTP.bind (in_asc hn h _ _) fun m _ => InTP.ite h (InTP.ite ⟨h.get hn _, h.get hn _, fun b => InTP.ite h (in_descPart hn (h.perm (mirror_perm _ _ _ _)) _ _)⟩ (in_descPart hn h _ _))
theorem in_place {n : Nat} (hn : 0 < n) {p : Array Nat} (h : Bd n p) (k : Nat) : ∀ f l r, InTP n (fun _ => True) (kas_place p k f l r)
  | 0, _, _ => trivial
  | f + 1, l, r => InTP.ite trivial ⟨h.get hn _, h.get hn _, fun b => InTP.ite (in_place hn h k f _ _) (in_place hn h k f _ _)⟩
theorem in_bin {n : Nat} (hn : 0 < n) : ∀ f {p : Array Nat} k, Bd n p → InTP n (Bd n) (kas_bin f p k)
  | 0, _, _, h => h
  | f + 1, p, k, h => InTP.bind (in_place hn h _ _ _ _) fun l _ => in_bin hn f _ (h.perm (bubble_perm _ _ _))
theorem in_sort {n : Nat} (hn : 0 < n) : InTP n (Bd n) (kas_sort n) :=
  InTP.bind (in_count hn ⟨by simp, fun x hx => by simpa using hx⟩ _) fun r hr => InTP.ite (in_bin hn _ _ hr) hr
/-- the order in which the sort leaves n items -/
noncomputable def srt (n : Nat) (lt : Nat → Nat → Bool) : List Nat := (evT lt (kas_sort n)).toList
theorem srt_bd {n : Nat} (hn : 0 < n) (lt : Nat → Nat → Bool) : (srt n lt).length = n ∧ ∀ x ∈ srt n lt, x < n := by
  have h : Bd n (evT lt (kas_sort n)) := (in_sort hn).ev
  exact ⟨by rw [srt, Array.length_toList]; exact h.1, h.2⟩
theorem srt_congr {n : Nat} (hn : 0 < n) {lt lt' : Nat → Nat → Bool} (h : ∀ i j, i < n → j < n → lt i j = lt' i j) : srt n lt = srt n lt' := by
  rw [srt, evT_congr h (in_sort hn)]; rfl
end Mine
end
section -- LSort
open PySem PySem.Calls PySem.W PySem.W.X PyProof.Rows
set_option Elab.async false
set_option maxRecDepth 100000
set_option maxHeartbeats 1000000
set_option linter.unusedVariables false
namespace Mine
theorem T46.keeps {h h' : Heap} (x : T46 h) (k : ∀ b o, h.get? b = some o → h'.get? b = some o) : T46 h' :=
  let ⟨ps, e, t⟩ := x; ⟨ps, k _ _ e, t.keepsAll k⟩
theorem T46.upd {h h' : Heap} {d : Addr} {o : Obj} (x : T46 h) (hd : h.get? d = some o) (hnf : ∀ vs, o.data ≠ .fields vs) (hs : Heap.SameBut d h h') : T46 h' := by
  obtain ⟨ps, e, t⟩ := x
  refine ⟨ps, (hs.2 46 ?_).trans e, ?_⟩
  · rintro rfl
    rw [hd] at e
    cases e
    exact hnf _ rfl
  · rcases t with rfl | ⟨c', rfl, c, oc, vs, t, ec, ho, hdat, r⟩
    · exact .inl rfl
    · refine .inr ⟨c', rfl, c, oc, vs, t, ec, (hs.2 c ?_).trans ho, hdat, r⟩
      rintro rfl
      rw [hd] at ho
      cases ho
      exact hnf _ hdat
theorem Kp.refl {s : Shared} (h : T46 s.heap) : Kp s s := ⟨s.heap, s.toks, rfl, fun _ _ _ e => e, h⟩
theorem Kp.trans {s s' s'' : Shared} (h : Kp s s') (h' : Kp s' s'') : Kp s s'' := by
  obtain ⟨g, tk, rfl, k, t⟩ := h
  obtain ⟨g', tk', rfl, k', t'⟩ := h'
  exact ⟨g', tk', rfl, fun b o hb e => k' b o hb (k b o hb e), t'⟩
theorem Kp.of_keeps {s s' : Shared} (h : Keeps s s') (t : T46 s.heap) : Kp s s' := by
  obtain ⟨g, tk, rfl, k⟩ := h
  exact ⟨g, tk, rfl, fun b o _ e => k b o e, t.keeps k⟩
theorem Kp.t46 {s s' : Shared} (h : Kp s s') : T46 s'.heap := by
  obtain ⟨g, tk, rfl, k, t⟩ := h
  exact t
/-- a fresh object (not the table) turned -/
theorem Kp.upd {s s' : Shared} {h : Heap} {d : Addr} {o : Obj} {tk : Nat} (x : Kp s s') (hd : s'.heap.get? d = some o) (hnf : ∀ vs, o.data ≠ .fields vs) (h0 : s.heap.get? d = none) (hs : Heap.SameBut d s'.heap h) : Kp s { s' with heap := h, toks := tk } := by
  have t := x.t46.upd hd hnf hs
  obtain ⟨g, tk', rfl, k, _⟩ := x
  exact ⟨h, tk, rfl, fun b ob hb e => (hs.2 b (fun q => by rw [q, h0] at e; cases e)).trans (k b ob hb e), t⟩

section
variable {w : World} {A : Around} {E : Value → Shared → Prop} {s : Shared} {a kS q : Addr} {vs : List Value} {n e e1 : Nat} {KeyAt : Nat → Value → Heap → Prop} {lt : Nat → Nat → Bool} {keys : Array Value} {P : PySem.Fin → Shared → Prop}
/-- what stands while the sort runs -/
structure Srt (s : Shared) (a kS : Addr) (e1 : Nat) (keys : Array Value) (KeyAt : Nat → Value → Heap → Prop) (s' : Shared) : Prop where
  kp : Kp s s'
  fa : s.heap.get? a = none
  fk : s.heap.get? kS = none
  oa : s'.heap.get? a = some (seqObj "list" #[] e1)
  ok : ∃ e, s'.heap.get? kS = some (seqObj "list" keys e)
  ke : ∀ i k, keys.toList[i]? = some k → KeyAt i k s'.heap
theorem ne46 {s : Shared} {a : Addr} {its : Array Value} {e : Nat} (h : T46 s.heap) (ha : s.heap.get? a = some (seqObj "list" its e)) : a ≠ 46 := by
  rintro rfl
  obtain ⟨ps, e', _⟩ := h
  rw [ha] at e'
  cases e'
theorem Srt.step {s' s'' : Shared} (kmono : ∀ i k h h', KeyAt i k h → (∀ b o, b ≠ 46 → h.get? b = some o → h'.get? b = some o) → KeyAt i k h') (x : Srt s a kS e1 keys KeyAt s') (y : Kp s' s'') : Srt s a kS e1 keys KeyAt s'' := by
  have na := ne46 x.kp.t46 x.oa
  obtain ⟨e, ok⟩ := x.ok
  have nk := ne46 x.kp.t46 ok
  have kp := x.kp.trans y
  obtain ⟨g, tk, rfl, k, t⟩ := y
  exact ⟨kp, x.fa, x.fk, k _ _ na x.oa, ⟨e, k _ _ nk ok⟩, fun i v hv => kmono i v _ _ (x.ke i v hv) k⟩
theorem sort_tail {st : SortSt} {out : Array Value} (kupd : ∀ i k h h' d its e, KeyAt i k h → h.get? d = some (seqObj "list" its e) → Heap.SameBut d h h' → KeyAt i k h') {s' : Shared} (x : Srt s a kS e1 keys KeyAt s') (hka : kS ≠ a) (hks : keys.size ≤ 64) (hout : (arrOf st).map (·.2) = out) (hos : out.size ≤ 64) (hfl : failedOf st = none)
    (h : ∀ h' tk c, Kp s { s with heap := h', toks := tk } → h'.get? a = some (seqObj "list" out c) → P (.done (.ret .none)) { s with heap := h', toks := tk }) :
    wpAny (model prg w) A (ksk_tail a false e1 (.ref kS) st) P E s' := by
  obtain ⟨e, ok⟩ := x.ok
  have s1 := Heap.SameBut.update s'.heap kS (Obj.mapSeq fun _ => (#[] : Array Value))
  have oa1 : (s'.heap.update kS (Obj.mapSeq fun _ => (#[] : Array Value))).get? a = some (seqObj "list" #[] e1) := (s1.2 a hka.symm).trans x.oa
  have s2 := Heap.SameBut.update (s'.heap.update kS (Obj.mapSeq fun _ => (#[] : Array Value))) a (Obj.mapSeq fun _ => out)
  obtain ⟨c2, hc2⟩ : ∃ c2, ((s'.heap.update kS (Obj.mapSeq fun _ => (#[] : Array Value))).update a (Obj.mapSeq fun _ => out)).get? a = some (seqObj "list" out c2) := ⟨_, get?_update_seq oa1 fun _ => out⟩
  have k1 : Kp s { s' with heap := s'.heap.update kS (Obj.mapSeq fun _ => (#[] : Array Value)), toks := s'.toks } := x.kp.upd ok (by intro vs q; cases q) x.fk s1
  have k2 : Kp s { s' with heap := (s'.heap.update kS (Obj.mapSeq fun _ => (#[] : Array Value))).update a (Obj.mapSeq fun _ => out), toks := s'.toks } := k1.upd oa1 (by intro vs q; cases q) x.fa s2
  unfold ksk_tail
  try dsimp only
  refine wpAny_bind (listUpdate_at ok rfl ?_ (by rw [sizeLine_eq]; omega) (Nat.zero_le _))
  refine wpAny_bind (wpAny_letGo ?_)
  refine wpAny_bind (seqEpoch_at oa1 rfl ?_)
  simp only [Bool.false_eq_true, if_false]
  rw [hout]
  refine wpAny_bind (listUpdate_at oa1 rfl ?_ (Nat.zero_le _) (Nat.le_trans hos (by rw [sizeLine_eq]; omega)))
  rw [hfl]
  simp only [bne_self_eq_false, Bool.false_eq_true, if_false]
  refine wpAny_pure ?_
  obtain ⟨g, tk, e3, k, t⟩ := id k2
  obtain ⟨g', tk', rfl, k', t'⟩ := x.kp
  exact h _ _ c2 k2 hc2
theorem zip_item {keys : Array Value} {vs : List Value} (h : keys.size = vs.length) {i : Nat} (hi : i < vs.length) : kas_item (keys.zip vs.toArray) i = (keys.getD i .none, vs.getD i .none) := by
  have h1 : i < keys.size := by omega
  have h2 : i < (keys.zip vs.toArray).size := by simp; omega
  unfold kas_item
  simp [Array.getD, h1, hi]
  rw [dif_pos (by omega)]
theorem sort_end {s' : Shared} (hn : vs.length = n) (h2 : 2 ≤ n) (h64 : n < 64) (hks : keys.size = n) (hka : kS ≠ a)
    (kmono : ∀ i k h h', KeyAt i k h → (∀ b o, b ≠ 46 → h.get? b = some o → h'.get? b = some o) → KeyAt i k h')
    (kupd : ∀ i k h h' d its e, KeyAt i k h → h.get? d = some (seqObj "list" its e) → Heap.SameBut d h h' → KeyAt i k h')
    (hkind : ∀ s' (keys : List Value), keys.length = n → (∀ i k, keys[i]? = some k → KeyAt i k s'.heap) → ∀ Q, Q oneType' s' → wpAny (model prg w) A (keyKind' keys.toArray) Q (fun _ _ => False) s')
    (hlt : ∀ i j k k' s', i < n → j < n → Kp s s' → KeyAt i k s'.heap → KeyAt j k' s'.heap → wpAny (model prg w) A (keyLt' oneType' k k') (fun b s'' => b = lt i j ∧ Kp s' s'') (fun _ _ => False) s')
    (x : Srt s a kS e1 keys KeyAt s')
    (h : ∀ h' tk c, Kp s { s with heap := h', toks := tk } → h'.get? a = some (seqObj "list" ((srt n lt).map fun i => vs.getD i .none).toArray c) → P (.done (.ret .none)) { s with heap := h', toks := tk }) :
    wpAny (model prg w) A (ksk_end a false vs.toArray e1 (.ref kS) keys) P E s' := by
  have hz : (keys.zip vs.toArray).size = n := by rw [Array.size_zip, hks, List.size_toArray, hn, Nat.min_self]
  unfold ksk_end
  dsimp only
  simp only [Bool.false_eq_true, if_false]
  rw [if_neg (by rw [List.size_toArray, hn]; omega), if_neg (by rw [List.size_toArray, hn]; omega)]
  have kk := hkind s' keys.toList (by rw [Array.length_toList]; exact hks) x.ke
  rw [Array.toArray_toList] at kk
  refine wpAny_bind (wpAny_mono (kk (fun κ s'' => κ = oneType' ∧ s'' = s') ⟨rfl, rfl⟩) ?_ fun _ _ q => q.elim)
  rintro _ _ ⟨rfl, rfl⟩
  have est : SortSt.mk' oneType' (keys.zip vs.toArray) #[] 7 none = kas_st oneType' (keys.zip vs.toArray) (List.toArray (List.range n)) := by
    have e := kas_range (keys.zip vs.toArray)
    rw [hz] at e
    show _ = SortSt.mk' oneType' ((List.toArray (List.range n)).map (kas_item (keys.zip vs.toArray))) #[] 7 none
    rw [e]
  rw [est]
  refine wpAny_bind (wpAny_mono (kas_runs (E := E) (it := keys.zip vs.toArray) (G := fun p s'' => p = evT lt (kas_sort n) ∧ Srt s a kS e1 keys KeyAt s'') (Q := fun _ st' s'' => arrOf st' = (evT lt (kas_sort n)).map (kas_item (keys.zip vs.toArray)) ∧ failedOf st' = none ∧ Srt s a kS e1 keys KeyAt s'') h2 h64
    (fun p' st' s'' a1 a2 a3 a4 => ⟨by rw [a2, a4.1], a3, a4.2⟩) ?ask) ?rest fun _ _ q => q)
  case ask =>
    refine wp_ev (lt := lt) (I := fun s'' => Srt s a kS e1 keys KeyAt s'') ?_ (in_sort (by omega)) x fun s'' hs => ⟨rfl, hs⟩
    intro i j C s₁ hi hj hI hC
    have b1 : i < keys.size := by omega
    have b2 : j < keys.size := by omega
    unfold kas_cmp
    rw [zip_item (by omega) (by omega), zip_item (by omega) (by omega)]
    have g1 : keys.toList[i]? = some (keys.getD i .none) := by simp [Array.getD, b1]
    have g2 : keys.toList[j]? = some (keys.getD j .none) := by simp [Array.getD, b2]
    refine wpAny_mono (hlt i j _ _ s₁ hi hj hI.kp (hI.ke i _ g1) (hI.ke j _ g2)) (fun b s₂ hb => ?_) fun _ _ q => q
    obtain ⟨rfl, hk⟩ := hb
    exact hC _ (hI.step kmono hk)
  case rest =>
    rintro ⟨⟨⟩, st'⟩ s₁ ⟨ha, hf, hS⟩
    dsimp only
    have bd : Bd n (evT lt (kas_sort n)) := (in_sort (by omega)).ev
    refine sort_tail kupd hS hka (by omega) (out := ((srt n lt).map fun i => vs.getD i .none).toArray) ?_ (by simp; rw [(srt_bd (by omega) lt).1]; omega) hf h
    apply Array.toList_inj.mp
    rw [ha, Array.map_map, Array.toList_map]
    refine List.map_congr_left fun i hi => ?_
    show (kas_item (keys.zip vs.toArray) i).2 = _
    rw [zip_item (by omega) (by rw [hn]; exact bd.2 i hi)]
theorem sort_rest {s₀ : Shared} (hn : vs.length = n) (h2 : 2 ≤ n) (h64 : n < 64) (hka : kS ≠ a)
    (kmono : ∀ i k h h', KeyAt i k h → (∀ b o, b ≠ 46 → h.get? b = some o → h'.get? b = some o) → KeyAt i k h')
    (kupd : ∀ i k h h' d its e, KeyAt i k h → h.get? d = some (seqObj "list" its e) → Heap.SameBut d h h' → KeyAt i k h')
    (hkey : ∀ i v s', vs[i]? = some v → Kp s s' → wpAny (model prg w) A (call (.ref q) [v]) (fun k s'' => Kp s' s'' ∧ KeyAt i k s''.heap) (fun _ _ => False) s')
    (hkind : ∀ s' (keys : List Value), keys.length = n → (∀ i k, keys[i]? = some k → KeyAt i k s'.heap) → ∀ Q, Q oneType' s' → wpAny (model prg w) A (keyKind' keys.toArray) Q (fun _ _ => False) s')
    (hlt : ∀ i j k k' s', i < n → j < n → Kp s s' → KeyAt i k s'.heap → KeyAt j k' s'.heap → wpAny (model prg w) A (keyLt' oneType' k k') (fun b s'' => b = lt i j ∧ Kp s' s'') (fun _ _ => False) s')
    (x : Srt s a kS e1 #[] KeyAt s₀)
    (h : ∀ h' tk c, Kp s { s with heap := h', toks := tk } → h'.get? a = some (seqObj "list" ((srt n lt).map fun i => vs.getD i .none).toArray c) → P (.done (.ret .none)) { s with heap := h', toks := tk }) :
    wpAny (model prg w) A (ksk_rest a (.ref q) false vs.toArray e1 (.ref kS)) P E s₀ := by
  unfold ksk_rest
  refine wpAny_bind (wpAny_rule ?_)
  rw [List.forIn_toArray]
  refine wpAny_bind (ksk_fold (fun i s' => ∃ kA, kA.size = i ∧ Srt s a kS e1 kA KeyAt s') vs 0 s₀ ⟨#[], rfl, x⟩ ?step ?done)
  case step =>
    rintro j v s' hx ⟨kA, hsz, hS⟩
    rw [Nat.zero_add] at hsz ⊢
    have hj : j < vs.length := (List.getElem?_eq_some_iff.mp hx).1
    refine wpAny_bind (wpAny_attempt (wpAny_mono (hkey j v s' hx hS.kp) (fun k s'' he => ?_) fun _ _ hF => hF.elim))
    obtain ⟨hk, hK⟩ := he
    have hS' := hS.step kmono hk
    dsimp only
    obtain ⟨e, ok⟩ := hS'.ok
    have s1 := Heap.SameBut.update s''.heap kS (Obj.mapSeq (·.push k))
    obtain ⟨c2, hc2⟩ : ∃ c2, (s''.heap.update kS (Obj.mapSeq (·.push k))).get? kS = some (seqObj "list" (kA.push k) c2) := ⟨_, get?_update_seq ok (·.push k)⟩
    refine wpAny_bind (listUpdate_at ok rfl ?_ (by rw [sizeLine_eq]; omega) (Nat.le_trans (Nat.le_of_eq (Array.size_push ..)) (by rw [sizeLine_eq]; omega)))
    refine wpAny_pure ⟨rfl, kA.push k, by rw [Array.size_push, hsz], hS'.kp.upd ok (by intro vs q; cases q) hS'.fk s1, hS'.fa, hS'.fk, (s1.2 a hka.symm).trans hS'.oa, ⟨c2, hc2⟩, fun i k' hi => ?_⟩
    refine kupd i k' _ _ kS _ e ?_ ok s1
    rw [Array.toList_push] at hi
    by_cases hlt' : i < kA.toList.length
    · rw [List.getElem?_append_left hlt'] at hi
      exact hS'.ke i k' hi
    · have hi2 : i = kA.toList.length := by
        have := (List.getElem?_eq_some_iff.mp hi).1
        simp at this hlt' ⊢
        omega
      rw [hi2, List.getElem?_concat_length] at hi
      cases hi
      rw [hi2, Array.length_toList, hsz]
      exact hK
  case done =>
    rintro s' ⟨kA, hsz, hS⟩
    rw [Nat.zero_add] at hsz
    obtain ⟨e, ok⟩ := id hS.ok
    refine wpAny_bind (listItems_at ok rfl ?_)
    exact sort_end hn h2 h64 (hsz.trans hn) hka kmono kupd hkind hlt hS h
theorem sort_tree (hn : vs.length = n) (h2 : 2 ≤ n) (h64 : n < 64) {sl : Shared} {c0 : Nat} (hs : Kp s sl) (ha0 : s.heap.get? a = none) (ho : sl.heap.get? a = some (seqObj "list" vs.toArray c0)) (hsz : s.heap.objs.size ≤ sl.heap.objs.size)
    (kmono : ∀ i k h h', KeyAt i k h → (∀ b o, b ≠ 46 → h.get? b = some o → h'.get? b = some o) → KeyAt i k h')
    (kupd : ∀ i k h h' d its e, KeyAt i k h → h.get? d = some (seqObj "list" its e) → Heap.SameBut d h h' → KeyAt i k h')
    (hkey : ∀ i v s', vs[i]? = some v → Kp s s' → wpAny (model prg w) A (call (.ref q) [v]) (fun k s'' => Kp s' s'' ∧ KeyAt i k s''.heap) (fun _ _ => False) s')
    (hkind : ∀ s' (keys : List Value), keys.length = n → (∀ i k, keys[i]? = some k → KeyAt i k s'.heap) → ∀ Q, Q oneType' s' → wpAny (model prg w) A (keyKind' keys.toArray) Q (fun _ _ => False) s')
    (hlt : ∀ i j k k' s', i < n → j < n → Kp s s' → KeyAt i k s'.heap → KeyAt j k' s'.heap → wpAny (model prg w) A (keyLt' oneType' k k') (fun b s'' => b = lt i j ∧ Kp s' s'') (fun _ _ => False) s')
    (h : ∀ h' tk c, Kp s { s with heap := h', toks := tk } → h'.get? a = some (seqObj "list" ((srt n lt).map fun i => vs.getD i .none).toArray c) → P (.done (.ret .none)) { s with heap := h', toks := tk }) :
    wpAny (model prg w) A (ksk_tree a (.ref q) false) P E sl := by
  have ha : a < sl.heap.objs.size := Heap.lt_size ho
  have s1 := Heap.SameBut.update sl.heap a (Obj.mapSeq fun _ => (#[] : Array Value))
  obtain ⟨e1, ho1⟩ : ∃ e1, (sl.heap.update a (Obj.mapSeq fun _ => (#[] : Array Value))).get? a = some (seqObj "list" #[] e1) := ⟨_, get?_update_seq ho fun _ => #[]⟩
  have hkS : ((sl.heap.update a (Obj.mapSeq fun _ => (#[] : Array Value))).push (seqObj "tuple" vs.toArray 0)).objs.size = sl.heap.objs.size + 1 := by rw [size_push', Heap.size_update]
  have k1 : Kp s { sl with heap := sl.heap.update a (Obj.mapSeq fun _ => (#[] : Array Value)), toks := sl.toks } := hs.upd ho (by intro vs q; cases q) ha0 s1
  have up : ∀ b o, (sl.heap.update a (Obj.mapSeq fun _ => (#[] : Array Value))).get? b = some o → (((sl.heap.update a (Obj.mapSeq fun _ => (#[] : Array Value))).push (seqObj "tuple" vs.toArray 0)).push (seqObj "list" #[] 0)).get? b = some o :=
    fun b o e => Heap.get?_push_of_some _ (Heap.get?_push_of_some _ e)
  have k2 : Kp s { sl with heap := ((sl.heap.update a (Obj.mapSeq fun _ => (#[] : Array Value))).push (seqObj "tuple" vs.toArray 0)).push (seqObj "list" #[] 0) } :=
    k1.trans (Kp.of_keeps ⟨_, _, rfl, up⟩ k1.t46)
  unfold ksk_tree
  refine wpAny_bind (listItems_at ho rfl ?_)
  refine wpAny_bind (listUpdate_at ho rfl ?_ (by rw [List.size_toArray, sizeLine_eq]; omega) (Nat.zero_le _))
  refine wpAny_bind (seqEpoch_at ho1 rfl ?_)
  refine wpAny_bind (wpAny_newTuple ?_ (by show vs.length ≤ _; rw [sizeLine_eq]; omega))
  refine wpAny_bind (wpAny_newList ?_ (Nat.zero_le _))
  refine wpAny_holding ?_
  refine sort_rest (s := s) (s₀ := { sl with heap := ((sl.heap.update a (Obj.mapSeq fun _ => (#[] : Array Value))).push (seqObj "tuple" vs.toArray 0)).push (seqObj "list" #[] 0) }) (kS := ((sl.heap.update a (Obj.mapSeq fun _ => (#[] : Array Value))).push (seqObj "tuple" vs.toArray 0)).objs.size)
    hn h2 h64 (by rw [hkS]; exact Nat.ne_of_gt (Nat.lt_succ_of_lt ha)) kmono kupd hkey hkind hlt
    ⟨k2, ha0, Heap.get?_none_of_le (by rw [hkS]; exact Nat.le_succ_of_le hsz), up _ _ ho1, ⟨0, Heap.get?_push_size _ rfl⟩, fun i k hi => by simp at hi⟩ h
end
/-- sorted(l, key=f): the items in the order of the tree -/
theorem sorted_key {w : World} {A : Around} {E : Value → Shared → Prop} {s : Shared} {l q : Addr} {vs : List Value} {n : Nat} (KeyAt : Nat → Value → Heap → Prop) (lt : Nat → Nat → Bool) {Q : Value → Shared → Prop}
    (hl : s.heap.IsList l vs.toArray) (hT : T46 s.heap) (hn : vs.length = n) (h2 : 2 ≤ n) (h64 : n < 64)
    (kmono : ∀ i k h h', KeyAt i k h → (∀ b o, b ≠ 46 → h.get? b = some o → h'.get? b = some o) → KeyAt i k h')
    (kupd : ∀ i k h h' d its e, KeyAt i k h → h.get? d = some (seqObj "list" its e) → Heap.SameBut d h h' → KeyAt i k h')
    (hkey : ∀ i v s', vs[i]? = some v → Kp s s' → wpAny (model prg w) A.in1.in1 (call (.ref q) [v]) (fun k s'' => Kp s' s'' ∧ KeyAt i k s''.heap) (fun _ _ => False) s')
    (hkind : ∀ s' (keys : List Value), keys.length = n → (∀ i k, keys[i]? = some k → KeyAt i k s'.heap) → ∀ Q, Q oneType' s' → wpAny (model prg w) A.in1.in1 (keyKind' keys.toArray) Q (fun _ _ => False) s')
    (hlt : ∀ i j k k' s', i < n → j < n → Kp s s' → KeyAt i k s'.heap → KeyAt j k' s'.heap → wpAny (model prg w) A.in1.in1 (keyLt' oneType' k k') (fun b s'' => b = lt i j ∧ Kp s' s'') (fun _ _ => False) s')
    (h : ∀ D h' tk c, Kp s { s with heap := h', toks := tk } → s.heap.objs.size ≤ D → h'.get? D = some (seqObj "list" ((srt n lt).map fun i => vs.getD i .none).toArray c) → Q (.ref D) { s with heap := h', toks := tk }) :
    wpAny (model prg w) A (call (.builtin "sorted") [.ref l] [(Str.ofString "key", .ref q)]) Q E s := by
  refine call_function_entry_kw kind_sorted plain_sorted entry_sorted (ksk_s1 _ _) ?_
  unfold Builtin.«sorted»
  refine wpAny_bind (m := checkCount "sorted" 1 1 _) (wpAny_pure ?_)
  refine wpAny_bind (collect_list hl ?_ (by rw [sizeLine_eq]; omega))
  refine wpAny_bind (wpAny_newList ?_ (by rw [sizeLine_eq]; omega))
  have hsz : ((s.heap.push (seqObj "list" #[] 0)).update s.heap.objs.size (Obj.mapSeq (· ++ vs.toArray))).objs.size = s.heap.objs.size + 1 := by
    rw [Heap.size_update, size_push']
  have hoL : (((s.heap.push (seqObj "list" #[] 0)).update s.heap.objs.size (Obj.mapSeq (· ++ vs.toArray))).push (seqObj "list" vs.toArray 0)).get? (s.heap.objs.size + 1) = some (seqObj "list" vs.toArray 0) := by
    rw [← hsz]; exact Heap.get?_push_size _ rfl
  have keep : ∀ b o, s.heap.get? b = some o → (((s.heap.push (seqObj "list" #[] 0)).update s.heap.objs.size (Obj.mapSeq (· ++ vs.toArray))).push (seqObj "list" vs.toArray 0)).get? b = some o := fun b o q => by
    have hlt : b < s.heap.objs.size := Heap.lt_size q
    rw [Heap.get?_push_ne _ _ _ (by rw [hsz]; exact Nat.ne_of_lt (Nat.lt_succ_of_lt hlt)), Heap.get?_update_ne _ _ _ _ (Nat.ne_of_lt hlt), Heap.get?_push_ne _ _ _ (Nat.ne_of_lt hlt)]
    exact q
  show wpAny _ _ _ _ _ { s with heap := ((s.heap.push (seqObj "list" #[] 0)).update s.heap.objs.size (Obj.mapSeq (· ++ vs.toArray))).push (seqObj "list" vs.toArray 0) }
  rw [hsz]
  refine wpAny_bind (wpAny_holding (wpAny_call_entry_kw slot_list_sort ⟨_, hoL, rfl⟩ entry_list_sort ?body (ksk_l1 _ _)))
  case body =>
    show wpAny (model prg w) A.in1.in1 (Builtin.«list.sort» ⟨[.ref (s.heap.objs.size + 1)], _⟩) _ _ _
    rw [ksk_t1]
    refine sort_tree (s := s) hn h2 h64 (Kp.of_keeps ⟨_, _, rfl, keep⟩ hT) (Heap.get?_none_of_le (Nat.le_succ _)) hoL ?_ kmono kupd hkey hkind hlt fun h' tk c hk ho => ⟨_, rfl, ?_⟩
    · rw [size_push', hsz]; omega
    · exact wpAny_pure ⟨_, rfl, h _ h' tk c hk (Nat.le_succ _) ho⟩
end Mine
end
section -- LKey
open PySem PySem.W PySem.W.X PyProof.Rows
set_option Elab.async false
set_option maxRecDepth 100000
set_option linter.unusedVariables false
namespace Mine
set_option maxHeartbeats 8000000 in
theorem zz : True := by
  first
  | (have h : PySem.Challenge.rw_oy0016_01.Holds := by (w_on; o_law; z_head; fail "x")
     trivial)
  | trivial
noncomputable def zz.zo_39 (P : Params) : Obj := gO (nat_lit 0) P
noncomputable def zz.zo_40 (P : Params) : Obj := gO (nat_lit 1) P
noncomputable def zz.zo_41 (P : Params) : Obj := gO (nat_lit 2) P
noncomputable def zz.zo_42 (P : Params) : Obj := gO (nat_lit 3) P
noncomputable def zz.zo_43 (P : Params) : Obj := gO (nat_lit 4) P
noncomputable def zz.zo_44 (P : Params) : Obj := gO (nat_lit 5) P
noncomputable def zz.zo_45 (P : Params) : Obj := gO (nat_lit 6) P
noncomputable def zz.zo_46 (P : Params) : Obj := gO (nat_lit 7) P
noncomputable def zz.zo_47 (P : Params) : Obj := gO (nat_lit 8) P
noncomputable def zz.zo_48 (P : Params) : Obj := gO (nat_lit 9) P
noncomputable def zz.zo_49 (P : Params) : Obj := gO (nat_lit 10) P
noncomputable def zz.zo_50 (P : Params) : Obj := gO (nat_lit 11) P
noncomputable def zz.zo_51 (P : Params) : Obj := gO (nat_lit 12) P
noncomputable def zz.zo_52 (P : Params) : Obj := gO (nat_lit 13) P
noncomputable def zz.zo_53 (P : Params) : Obj := gO (nat_lit 14) P
noncomputable def zz.zo_54 (P : Params) : Obj := gO (nat_lit 15) P
noncomputable def zz.zo_55 (P : Params) : Obj := gO (nat_lit 16) P
noncomputable def zz.zo_56 (P : Params) : Obj := gO (nat_lit 17) P
noncomputable def zz.zo_57 (P : Params) : Obj := gO (nat_lit 18) P
noncomputable def zz.zo_58 (P : Params) : Obj := gO (nat_lit 19) P
noncomputable def zz.zo_59 (P : Params) : Obj := gO (nat_lit 20) P
noncomputable def zz.zo_60 (P : Params) : Obj := gO (nat_lit 21) P
noncomputable def zz.zo_61 (P : Params) : Obj := gO (nat_lit 22) P
noncomputable def zz.zo_62 (P : Params) : Obj := gO (nat_lit 23) P
noncomputable def zz.zo_63 (P : Params) : Obj := gO (nat_lit 24) P
noncomputable def zz.zo_64 (P : Params) : Obj := gO (nat_lit 25) P
noncomputable def zz.zo_65 (P : Params) : Obj := gO (nat_lit 26) P
noncomputable def zz.zo_66 (P : Params) : Obj := gO (nat_lit 27) P
noncomputable def zz.zo_67 (P : Params) : Obj := gO (nat_lit 28) P
noncomputable def zz.zo_68 (P : Params) : Obj := gO (nat_lit 29) P
noncomputable def zz.zo_69 (P : Params) : Obj := gO (nat_lit 30) P
noncomputable def zz.zo_70 (P : Params) : Obj := gO (nat_lit 31) P
noncomputable def zz.zo_71 (P : Params) : Obj := gO (nat_lit 32) P
noncomputable def zz.zo_72 (P : Params) : Obj := gO (nat_lit 33) P
noncomputable def zz.zo_73 (P : Params) : Obj := gO (nat_lit 34) P
noncomputable def zz.zo_74 (P : Params) : Obj := gO (nat_lit 35) P
noncomputable def zz.zo_75 (P : Params) : Obj := gO (nat_lit 36) P
noncomputable def zz.zo_76 (P : Params) : Obj := gO (nat_lit 37) P
noncomputable def zz.zo_77 (P : Params) : Obj := gO (nat_lit 38) P
noncomputable def zz.zo_78 (P : Params) : Obj := gO (nat_lit 39) P
noncomputable def zz.zo_79 (P : Params) : Obj := gO (nat_lit 40) P
noncomputable def zz.zo_80 (P : Params) : Obj := gO (nat_lit 41) P
noncomputable def zz.zo_81 (P : Params) : Obj := gO (nat_lit 42) P
noncomputable def zz.zo_82 (P : Params) : Obj := gO (nat_lit 43) P
noncomputable def zz.zo_83 (P : Params) : Obj := gO (nat_lit 44) P
noncomputable def zz.zo_84 (P : Params) : Obj := gO (nat_lit 45) P
noncomputable def zz.zo_85 (P : Params) : Obj := gO (nat_lit 46) P
noncomputable def zz.zo_86 (P : Params) : Obj := gO (nat_lit 47) P
noncomputable def zz.zo_87 (P : Params) : Obj := gO (nat_lit 48) P
noncomputable def zz.zo_88 (P : Params) : Obj := gO (nat_lit 49) P
noncomputable def zz.zo_89 (P : Params) : Obj := gO (nat_lit 50) P
noncomputable def zz.zo_90 (P : Params) : Obj := gO (nat_lit 51) P
noncomputable def zz.zo_91 (P : Params) : Obj := gO (nat_lit 52) P
noncomputable def zz.zo_92 (P : Params) : Obj := gO (nat_lit 53) P
noncomputable def zz.zo_93 (P : Params) : Obj := gO (nat_lit 54) P
noncomputable def zz.zo_94 (P : Params) : Obj := gO (nat_lit 55) P
noncomputable def zz.zo_95 (P : Params) : Obj := gO (nat_lit 56) P
noncomputable def zz.zo_96 (P : Params) : Obj := gO (nat_lit 57) P
noncomputable def zz.zo_97 (P : Params) : Obj := gO (nat_lit 58) P
noncomputable def zz.zo_98 (P : Params) : Obj := gO (nat_lit 59) P
noncomputable def zz.zo_99 (P : Params) : Obj := gO (nat_lit 60) P
noncomputable def zz.zo_100 (P : Params) : Obj := gO (nat_lit 61) P
noncomputable def zz.zo_101 (P : Params) : Obj := gO (nat_lit 62) P
noncomputable def zz.zo_102 (P : Params) : Obj := gO (nat_lit 63) P
noncomputable def zz.zo_103 (P : Params) : Obj := gO (nat_lit 64) P
noncomputable def zz.zo_104 (P : Params) : Obj := gO (nat_lit 65) P
noncomputable def zz.zo_105 (P : Params) : Obj := gO (nat_lit 66) P
noncomputable def zz.zo_106 (P : Params) : Obj := gO (nat_lit 67) P
noncomputable def zz.zo_107 (P : Params) : Obj := gO (nat_lit 68) P
noncomputable def zz.zo_108 (P : Params) : Obj := gO (nat_lit 69) P
noncomputable def zz.zo_109 (P : Params) : Obj := gO (nat_lit 70) P
noncomputable def zz.zo_110 (P : Params) : Obj := gO (nat_lit 71) P
noncomputable def zz.zo_111 (P : Params) : Obj := gO (nat_lit 72) P
noncomputable def zz.zo_112 (P : Params) : Obj := gO (nat_lit 73) P
noncomputable def zz.zo_113 (P : Params) : Obj := gO (nat_lit 74) P
noncomputable def zz.zo_114 (P : Params) : Obj := gO (nat_lit 75) P
noncomputable def zz.zo_115 (P : Params) : Obj := gO (nat_lit 76) P
noncomputable def zz.zo_116 (P : Params) : Obj := default
noncomputable def zz.zo_117 (P : Params) : Obj := gO (nat_lit 78) P
noncomputable def zz.zo_118 (P : Params) : Obj := gO (nat_lit 79) P
noncomputable def zz.zo_119 (P : Params) : Obj := gO (nat_lit 80) P
noncomputable def kt_0 (P : Params) : KT := .node (some (zz.zo_102 P)) .nil .nil
noncomputable def kt_1 (P : Params) : KT := .node (some (zz.zo_70 P)) (kt_0 P) .nil
noncomputable def kt_2 (P : Params) : KT := .node (some (zz.zo_118 P)) .nil .nil
noncomputable def kt_3 (P : Params) : KT := .node (some (zz.zo_86 P)) (kt_2 P) .nil
noncomputable def kt_4 (P : Params) : KT := .node (some (zz.zo_54 P)) (kt_1 P) (kt_3 P)
noncomputable def kt_5 (P : Params) : KT := .node (some (zz.zo_110 P)) .nil .nil
noncomputable def kt_6 (P : Params) : KT := .node (some (zz.zo_78 P)) (kt_5 P) .nil
noncomputable def kt_7 (P : Params) : KT := .node (some (zz.zo_94 P)) .nil .nil
noncomputable def kt_8 (P : Params) : KT := .node (some (zz.zo_62 P)) (kt_6 P) (kt_7 P)
noncomputable def kt_9 (P : Params) : KT := .node (some (zz.zo_46 P)) (kt_4 P) (kt_8 P)
noncomputable def kt_10 (P : Params) : KT := .node (some (zz.zo_106 P)) .nil .nil
noncomputable def kt_11 (P : Params) : KT := .node (some (zz.zo_74 P)) (kt_10 P) .nil
noncomputable def kt_12 (P : Params) : KT := .node (some (zz.zo_90 P)) .nil .nil
noncomputable def kt_13 (P : Params) : KT := .node (some (zz.zo_58 P)) (kt_11 P) (kt_12 P)
noncomputable def kt_14 (P : Params) : KT := .node (some (zz.zo_114 P)) .nil .nil
noncomputable def kt_15 (P : Params) : KT := .node (some (zz.zo_82 P)) (kt_14 P) .nil
noncomputable def kt_16 (P : Params) : KT := .node (some (zz.zo_98 P)) .nil .nil
noncomputable def kt_17 (P : Params) : KT := .node (some (zz.zo_66 P)) (kt_15 P) (kt_16 P)
noncomputable def kt_18 (P : Params) : KT := .node (some (zz.zo_50 P)) (kt_13 P) (kt_17 P)
noncomputable def kt_19 (P : Params) : KT := .node (some (zz.zo_42 P)) (kt_9 P) (kt_18 P)
noncomputable def kt_20 (P : Params) : KT := .node (some (zz.zo_104 P)) .nil .nil
noncomputable def kt_21 (P : Params) : KT := .node (some (zz.zo_72 P)) (kt_20 P) .nil
noncomputable def kt_22 (P : Params) : KT := .node (some (zz.zo_88 P)) .nil .nil
noncomputable def kt_23 (P : Params) : KT := .node (some (zz.zo_56 P)) (kt_21 P) (kt_22 P)
noncomputable def kt_24 (P : Params) : KT := .node (some (zz.zo_112 P)) .nil .nil
noncomputable def kt_25 (P : Params) : KT := .node (some (zz.zo_80 P)) (kt_24 P) .nil
noncomputable def kt_26 (P : Params) : KT := .node (some (zz.zo_96 P)) .nil .nil
noncomputable def kt_27 (P : Params) : KT := .node (some (zz.zo_64 P)) (kt_25 P) (kt_26 P)
noncomputable def kt_28 (P : Params) : KT := .node (some (zz.zo_48 P)) (kt_23 P) (kt_27 P)
noncomputable def kt_29 (P : Params) : KT := .node (some (zz.zo_108 P)) .nil .nil
noncomputable def kt_30 (P : Params) : KT := .node (some (zz.zo_76 P)) (kt_29 P) .nil
noncomputable def kt_31 (P : Params) : KT := .node (some (zz.zo_92 P)) .nil .nil
noncomputable def kt_32 (P : Params) : KT := .node (some (zz.zo_60 P)) (kt_30 P) (kt_31 P)
noncomputable def kt_33 (P : Params) : KT := .node (some (zz.zo_84 P)) .nil .nil
noncomputable def kt_34 (P : Params) : KT := .node (some (zz.zo_100 P)) .nil .nil
noncomputable def kt_35 (P : Params) : KT := .node (some (zz.zo_68 P)) (kt_33 P) (kt_34 P)
noncomputable def kt_36 (P : Params) : KT := .node (some (zz.zo_52 P)) (kt_32 P) (kt_35 P)
noncomputable def kt_37 (P : Params) : KT := .node (some (zz.zo_44 P)) (kt_28 P) (kt_36 P)
noncomputable def kt_38 (P : Params) : KT := .node (some (zz.zo_40 P)) (kt_19 P) (kt_37 P)
noncomputable def kt_39 (P : Params) : KT := .node (some (zz.zo_103 P)) .nil .nil
noncomputable def kt_40 (P : Params) : KT := .node (some (zz.zo_71 P)) (kt_39 P) .nil
noncomputable def kt_41 (P : Params) : KT := .node (some (zz.zo_119 P)) .nil .nil
noncomputable def kt_42 (P : Params) : KT := .node (some (zz.zo_87 P)) (kt_41 P) .nil
noncomputable def kt_43 (P : Params) : KT := .node (some (zz.zo_55 P)) (kt_40 P) (kt_42 P)
noncomputable def kt_44 (P : Params) : KT := .node (some (zz.zo_111 P)) .nil .nil
noncomputable def kt_45 (P : Params) : KT := .node (some (zz.zo_79 P)) (kt_44 P) .nil
noncomputable def kt_46 (P : Params) : KT := .node (some (zz.zo_95 P)) .nil .nil
noncomputable def kt_47 (P : Params) : KT := .node (some (zz.zo_63 P)) (kt_45 P) (kt_46 P)
noncomputable def kt_48 (P : Params) : KT := .node (some (zz.zo_47 P)) (kt_43 P) (kt_47 P)
noncomputable def kt_49 (P : Params) : KT := .node (some (zz.zo_107 P)) .nil .nil
noncomputable def kt_50 (P : Params) : KT := .node (some (zz.zo_75 P)) (kt_49 P) .nil
noncomputable def kt_51 (P : Params) : KT := .node (some (zz.zo_91 P)) .nil .nil
noncomputable def kt_52 (P : Params) : KT := .node (some (zz.zo_59 P)) (kt_50 P) (kt_51 P)
noncomputable def kt_53 (P : Params) : KT := .node (some (zz.zo_115 P)) .nil .nil
noncomputable def kt_54 (P : Params) : KT := .node (some (zz.zo_83 P)) (kt_53 P) .nil
noncomputable def kt_55 (P : Params) : KT := .node (some (zz.zo_99 P)) .nil .nil
noncomputable def kt_56 (P : Params) : KT := .node (some (zz.zo_67 P)) (kt_54 P) (kt_55 P)
noncomputable def kt_57 (P : Params) : KT := .node (some (zz.zo_51 P)) (kt_52 P) (kt_56 P)
noncomputable def kt_58 (P : Params) : KT := .node (some (zz.zo_43 P)) (kt_48 P) (kt_57 P)
noncomputable def kt_59 (P : Params) : KT := .node (some (zz.zo_105 P)) .nil .nil
noncomputable def kt_60 (P : Params) : KT := .node (some (zz.zo_73 P)) (kt_59 P) .nil
noncomputable def kt_61 (P : Params) : KT := .node (some (zz.zo_89 P)) .nil .nil
noncomputable def kt_62 (P : Params) : KT := .node (some (zz.zo_57 P)) (kt_60 P) (kt_61 P)
noncomputable def kt_63 (P : Params) : KT := .node (some (zz.zo_113 P)) .nil .nil
noncomputable def kt_64 (P : Params) : KT := .node (some (zz.zo_81 P)) (kt_63 P) .nil
noncomputable def kt_65 (P : Params) : KT := .node (some (zz.zo_97 P)) .nil .nil
noncomputable def kt_66 (P : Params) : KT := .node (some (zz.zo_65 P)) (kt_64 P) (kt_65 P)
noncomputable def kt_67 (P : Params) : KT := .node (some (zz.zo_49 P)) (kt_62 P) (kt_66 P)
noncomputable def kt_68 (P : Params) : KT := .node (some (zz.zo_109 P)) .nil .nil
noncomputable def kt_69 (P : Params) : KT := .node (some (zz.zo_77 P)) (kt_68 P) .nil
noncomputable def kt_70 (P : Params) : KT := .node (some (zz.zo_93 P)) .nil .nil
noncomputable def kt_71 (P : Params) : KT := .node (some (zz.zo_61 P)) (kt_69 P) (kt_70 P)
noncomputable def kt_72 (P : Params) : KT := .node (some (zz.zo_117 P)) .nil .nil
noncomputable def kt_73 (P : Params) : KT := .node (some (zz.zo_85 P)) (kt_72 P) .nil
noncomputable def kt_74 (P : Params) : KT := .node (some (zz.zo_101 P)) .nil .nil
noncomputable def kt_75 (P : Params) : KT := .node (some (zz.zo_69 P)) (kt_73 P) (kt_74 P)
noncomputable def kt_76 (P : Params) : KT := .node (some (zz.zo_53 P)) (kt_71 P) (kt_75 P)
noncomputable def kt_77 (P : Params) : KT := .node (some (zz.zo_45 P)) (kt_67 P) (kt_76 P)
noncomputable def kt_78 (P : Params) : KT := .node (some (zz.zo_41 P)) (kt_58 P) (kt_77 P)
noncomputable def zz.ktop_199 (P : Params) : KT := .node (some (zz.zo_39 P)) (kt_38 P) (kt_78 P)
theorem kn {h : Heap} {s b : Nat} {o : Obj} {l r : KT} (e : h.get? b = some o) (hl : KT.Holds h (2 * s) (s + b) l) (hr : KT.Holds h (2 * s) (2 * s + b) r) : KT.Holds h s b (.node (some o) l r) :=
  ⟨fun o' e' => by cases e'; exact e, hl, hr⟩
theorem kn0 {h : Heap} {s b : Nat} {l r : KT} (hl : KT.Holds h (2 * s) (s + b) l) (hr : KT.Holds h (2 * s) (2 * s + b) r) : KT.Holds h s b (.node none l r) :=
  ⟨fun o' e' => (nomatch e'), hl, hr⟩
theorem kt_holds {w : World} {h : Heap} (X : (Kd w.params).In h) : KT.Holds h 1 0 (zz.ktop_199 w.params) := (kn (X 0 _ rfl) (kn (X 1 _ rfl) (kn (X 3 _ rfl) (kn (X 7 _ rfl) (kn (X 15 _ rfl) (kn (X 31 _ rfl) (kn (X 63 _ rfl) trivial trivial) trivial) (kn (X 47 _ rfl) (kn (X 79 _ rfl) trivial trivial) trivial)) (kn (X 23 _ rfl) (kn (X 39 _ rfl) (kn (X 71 _ rfl) trivial trivial) trivial) (kn (X 55 _ rfl) trivial trivial))) (kn (X 11 _ rfl) (kn (X 19 _ rfl) (kn (X 35 _ rfl) (kn (X 67 _ rfl) trivial trivial) trivial) (kn (X 51 _ rfl) trivial trivial)) (kn (X 27 _ rfl) (kn (X 43 _ rfl) (kn (X 75 _ rfl) trivial trivial) trivial) (kn (X 59 _ rfl) trivial trivial)))) (kn (X 5 _ rfl) (kn (X 9 _ rfl) (kn (X 17 _ rfl) (kn (X 33 _ rfl) (kn (X 65 _ rfl) trivial trivial) trivial) (kn (X 49 _ rfl) trivial trivial)) (kn (X 25 _ rfl) (kn (X 41 _ rfl) (kn (X 73 _ rfl) trivial trivial) trivial) (kn (X 57 _ rfl) trivial trivial))) (kn (X 13 _ rfl) (kn (X 21 _ rfl) (kn (X 37 _ rfl) (kn (X 69 _ rfl) trivial trivial) trivial) (kn (X 53 _ rfl) trivial trivial)) (kn (X 29 _ rfl) (kn (X 45 _ rfl) trivial trivial) (kn (X 61 _ rfl) trivial trivial))))) (kn (X 2 _ rfl) (kn (X 4 _ rfl) (kn (X 8 _ rfl) (kn (X 16 _ rfl) (kn (X 32 _ rfl) (kn (X 64 _ rfl) trivial trivial) trivial) (kn (X 48 _ rfl) (kn (X 80 _ rfl) trivial trivial) trivial)) (kn (X 24 _ rfl) (kn (X 40 _ rfl) (kn (X 72 _ rfl) trivial trivial) trivial) (kn (X 56 _ rfl) trivial trivial))) (kn (X 12 _ rfl) (kn (X 20 _ rfl) (kn (X 36 _ rfl) (kn (X 68 _ rfl) trivial trivial) trivial) (kn (X 52 _ rfl) trivial trivial)) (kn (X 28 _ rfl) (kn (X 44 _ rfl) (kn (X 76 _ rfl) trivial trivial) trivial) (kn (X 60 _ rfl) trivial trivial)))) (kn (X 6 _ rfl) (kn (X 10 _ rfl) (kn (X 18 _ rfl) (kn (X 34 _ rfl) (kn (X 66 _ rfl) trivial trivial) trivial) (kn (X 50 _ rfl) trivial trivial)) (kn (X 26 _ rfl) (kn (X 42 _ rfl) (kn (X 74 _ rfl) trivial trivial) trivial) (kn (X 58 _ rfl) trivial trivial))) (kn (X 14 _ rfl) (kn (X 22 _ rfl) (kn (X 38 _ rfl) (kn (X 70 _ rfl) trivial trivial) trivial) (kn (X 54 _ rfl) trivial trivial)) (kn (X 30 _ rfl) (kn (X 46 _ rfl) (kn (X 78 _ rfl) trivial trivial) trivial) (kn (X 62 _ rfl) trivial trivial))))))

noncomputable abbrev AsZ : Around := { handled := none, depth := 600, frames := none, guards := none, units := 5000 }

noncomputable def clsS : Stmt := (bodyS (st 4)).getD 0 (.Pass default)
noncomputable def clsBody : Stmt → List Stmt | .ClassDef _ _ _ b .. => b | _ => []
noncomputable def mtd (i : Nat) : Stmt := (clsBody clsS).getD i (.Pass default)
noncomputable def qK (x : String) : Str := Str.ofString ("cmp_to_key.<locals>.K" ++ x)
noncomputable def S' (x : String) (t : Nat) : Value := .str (Str.ofString x) t
noncomputable def cut' (t : Nat) : Value := S' "/claim/cut.py" t
noncomputable def o93 : Obj := ⟨.type "cell", none, .cell (some (.ref 91)), #[]⟩
noncomputable def o94 : Obj := ⟨.type "tuple", none, .seq #[.type "object"] 0, #[]⟩
noncomputable def o107 (t : Nat) : Obj := ⟨.type "code", none, .fields #[S' "__init__" (t + 17), .str (qK ".__init__") (t + 18), cut' (t + 19), rawInt 16, rawInt 2, rawInt 0, rawInt 0, rawInt 19, .ref 102, .bool true, rawInt 181, .ref 103, .none, .ref 104, .ref 105, .ref 106, rawInt ((t + 22 : Nat) : Int), rawInt 16, cut' (t + 23)], #[]⟩
noncomputable def o108 : Obj := ⟨.type "function", none, .func { Calls.docDef (nmS (mtd 2)) (argsS (mtd 2)) (bodyS (mtd 2)) (scopeS (mtd 2)) (S' "law_oy0016_01" 227) (.ref 107) .none with qualname := qK ".__init__" }, #[]⟩
noncomputable def o115 (t : Nat) : Obj := ⟨.type "code", none, .fields #[S' "__lt__" (t + 25), .str (qK ".__lt__") (t + 26), cut' (t + 27), rawInt 19, rawInt 2, rawInt 0, rawInt 0, rawInt 19, .ref 110, .bool true, rawInt 181, .ref 111, .none, .ref 112, .ref 113, .ref 114, rawInt ((t + 31 : Nat) : Int), rawInt 19, cut' (t + 32)], #[]⟩
noncomputable def o116 : Obj := ⟨.type "function", none, .func { Calls.docDef (nmS (mtd 3)) (argsS (mtd 3)) (bodyS (mtd 3)) (scopeS (mtd 3)) (S' "law_oy0016_01" 227) (.ref 115) .none with qualname := qK ".__lt__", closure := [(Str.ofString "mycmp", 93)], closureTuple := .ref 109 }, #[]⟩
noncomputable def de (i : Int) (x : String) (t : Nat) (v : Value) : DictEntry := ⟨i, S' x t, v⟩
noncomputable def o151 (H : Nat → Int) (t : Nat) : Obj := ⟨.type "dict", none, .dict #[de (H 0) "__module__" (t + 8) (S' "cpy313.functools" (t + 13)), de (H 1) "__firstlineno__" (t + 12) (.int 12 (t + 11)), de (H 2) "__slots__" (t + 16) (.ref 101), de (H 3) "__init__" (t + 24) (.ref 108), de (H 4) "__lt__" (t + 33) (.ref 116), de (H 5) "__gt__" (t + 42) (.ref 124),
  de (H 6) "__eq__" (t + 51) (.ref 132), de (H 7) "__le__" (t + 60) (.ref 140), de (H 8) "__ge__" (t + 69) (.ref 148), de (H 9) "__hash__" (t + 70) .none, de (H 10) "__static_attributes__" (t + 72) (.ref 149), de (H 11) "obj" (t + 74) (.ref 153), de (H 12) "__doc__" (t + 75) .none] 3, #[]⟩
noncomputable def o152 (t : Nat) : Obj := ⟨.type "type", none, .cls { name := Str.ofString "K", bases := [.type "object"], mro := [.ref 152, .type "object"], ns := 151, qualname := qK "", hasDict := false, slotNames := [Str.ofString "obj"], subclasses := [], abstract := false, collection := none, hasDel := false },
  #[some (.ref 94), none, some (S' "K" t), some (.str (qK "") (t + 9)), some (.builtin "object.__new__"), some (.bool false)]⟩
noncomputable def o153 (t : Nat) : Obj := ⟨.type "member_descriptor", none, .fields #[S' "obj" (t + 73), .ref 152, .builtin "proto.slot", .builtin "proto.slot#set", rawInt 0], #[]⟩
/-- the objects of the class K -/
noncomputable def KF (H : Nat → Int) (t : Nat) : Frag := [(93, o93), (94, o94), (107, o107 t), (108, o108), (115, o115 t), (116, o116), (151, o151 H t), (152, o152 t), (153, o153 t)]
noncomputable def KeyPost (s : Shared) (v : Value) (s' : Shared) : Prop := v = .ref 152 ∧ ∃ h' tk, s' = { s with heap := h', toks := tk } ∧ h'.objs.size = 156 ∧ (∀ b o, b ≠ 30 → s.heap.get? b = some o → h'.get? b = some o) ∧ (∃ ps, h'.get? 30 = some { cls := .none, data := .fields ps }) ∧ ∃ H, (KF H s.toks).In h'
noncomputable def hashesOf (T : BT) (i : Nat) : Int := match T.get 59 with | some ⟨_, _, .dict es _, _⟩ => (es.toList.getD i default).hash | _ => 0
theorem in_of : ∀ {K : Frag} {h : Heap}, (∀ p ∈ K, h.get? p.1 = some p.2) → K.In h
  | [], _, _ => fun a o e => nomatch e
  | (b, q) :: K, h, H => fun a o e => by
    rw [List.lookup_cons] at e
    by_cases c : a = b
    · subst c
      rw [beq_self_eq_true] at e
      cases e
      exact H _ (.head _)
    · rw [beq_eq_false_iff_ne.mpr c] at e
      exact in_of (fun p hp => H p (.tail _ hp)) a o e
theorem chNone : ∀ {ch : X.Ch} {b : Nat}, ch.map (·.1) = [30] → b ≠ 30 → X.chLook ch b = none
  | [p], b, h, hb => by
    have e : p.1 = 30 := by simpa using h
    show (match Nat.beq p.1 b with | true => some p.2 | false => none) = none
    rw [e]
    have : Nat.beq 30 b = false := by
      cases q : Nat.beq 30 b with
      | false => rfl
      | true => exact absurd (Nat.eq_of_beq_eq_true q).symm hb
    rw [this]
  | [], _, h, _ => by simp at h
  | _ :: _ :: _, _, h, _ => by simp at h
theorem chSome : ∀ {ch : X.Ch}, ch.map (·.1) = [30] → ∃ vs, X.chLook ch 30 = some vs
  | [p], h => by
    have e : p.1 = 30 := by simpa using h
    refine ⟨p.2, ?_⟩
    show (match Nat.beq p.1 30 with | true => some p.2 | false => none) = some p.2
    rw [e]
  | [], h => by simp at h
  | _ :: _ :: _, h => by simp at h
theorem KeyPost.of {s : Shared} {V : X.XV} {h : Heap} {T : BT} {m : Nat} {ch : X.Ch} {v : Value} {g : Array GenState} {d : Drawn} {tk : Nat} {os : OsState} (D : X.Rep V h T m ch) (hg : s.gens = #[])
    (hv : v = .ref 152) (hn : V.n₁ = 92) (hm : m = 64) (hk : V.h₀ = s.heap) (hch : ch.map (·.1) = [30]) (eg : g = #[]) (ed : d = s.drawn) (eo : os = s.os)
    (h1 : T.get 1 = some o93) (h2 : T.get 2 = some o94) (h3 : T.get 15 = some (o107 s.toks)) (h4 : T.get 16 = some o108) (h5 : T.get 23 = some (o115 s.toks)) (h6 : T.get 24 = some o116)
    (h7 : T.get 59 = some (o151 (hashesOf T) s.toks)) (h8 : T.get 60 = some (o152 s.toks)) (h9 : T.get 61 = some (o153 s.toks))   : KeyPost s v ⟨h, g, d, tk, os⟩ := by
  have ow : ∀ i o, T.get i = some o → h.get? (92 + i) = some o := fun i o e => by rw [← hn]; exact (D.own i o e).2
  refine ⟨hv, h, tk, by rw [eg, ed, eo, ← hg], by rw [D.size, hn, hm], fun b o hb e => D.keep b o (by rw [hk]; exact e) (chNone hch hb), (by obtain ⟨vs, hv⟩ := chSome hch; exact ⟨vs, (D.ch 30 vs hv).1⟩), hashesOf T, in_of fun p hp => ?_⟩
  simp only [KF, List.mem_cons, List.not_mem_nil, or_false] at hp
  rcases hp with rfl | rfl | rfl | rfl | rfl | rfl | rfl | rfl | rfl
  · exact ow 1 _ h1
  · exact ow 2 _ h2
  · exact ow 15 _ h3
  · exact ow 16 _ h4
  · exact ow 23 _ h5
  · exact ow 24 _ h6
  · exact ow 59 _ h7
  · exact ow 60 _ h8
  · exact ow 61 _ h9
section
local macro_rules | `(tactic| exfalso) => `(tactic| exact KeyPost.of (by assumption) (by assumption) (by kernel_rfl) (by kernel_rfl) (by kernel_rfl) (by kernel_rfl) (by kernel_rfl) (by kernel_rfl) (by kernel_rfl) (by kernel_rfl) (by kernel_rfl) (by kernel_rfl) (by kernel_rfl) (by kernel_rfl) (by kernel_rfl) (by kernel_rfl) (by kernel_rfl) (by kernel_rfl) (by kernel_rfl))
local macro_rules | `(tactic| omega) => `(tactic| done)
set_option maxHeartbeats 0 in
theorem cmp_run {w : World} {s : Shared} (X : (Kd w.params).In s.heap) (hs : s.heap.objs.size = 92) (hg : s.gens = #[]) :
    wpAny (model PySem.Challenge.pw_oy0016_01 w) AsZ (call (.ref 35) [.ref 91]) (KeyPost s) (fun _ _ => False) s := by
  have ZH := kt_holds X
  clear X
  z_run
end
end Mine
end
section -- LObj
open PySem PySem.Calls PySem.W PySem.W.X PyProof.Rows
set_option Elab.async false
set_option maxRecDepth 100000
set_option maxHeartbeats 1000000
set_option linter.unusedVariables false
namespace Mine
theorem kf_make (H : Nat → Int) (t : Nat) : makesIn (KF H t) 152 = true := by kernel_rfl
theorem kf_init (H : Nat → Int) (t : Nat) : findIn (KF H t) (.ref 152) "__init__" = some (some (.ref 108)) := by kernel_rfl
theorem kf_fn (H : Nat → Int) (t : Nat) : typeIn (KF H t) (.ref 108) = some (.type "function") := by kernel_rfl
theorem kf_lt (H : Nat → Int) (t : Nat) : findIn (KF H t) (.ref 152) "__lt__" = some (some (.ref 116)) := by kernel_rfl
theorem kf_ltfn (H : Nat → Int) (t : Nat) : isFn (KF H t) (.ref 116) = true := by kernel_rfl
theorem kf_set (H : Nat → Int) (t : Nat) : findIn (KF H t) (.ref 152) "__setattr__" = some (some (.builtin "object.__setattr__")) := by kernel_rfl
theorem kf_over (H : Nat → Int) (t : Nat) : plainOver (KF H t) 152 = true := by kernel_rfl
theorem kf_taker (H : Nat → Int) (t : Nat) : takerIn (KF H t) 152 "obj" = some (some (.ref 153)) := by kernel_rfl
theorem kf_mem (H : Nat → Int) (t : Nat) : typeIn (KF H t) (.ref 153) = some (.type "member_descriptor") := by kernel_rfl
theorem kf_slot (H : Nat → Int) (t : Nat) : slotIn (KF H t) 153 152 = some 0 := by kernel_rfl
theorem kf_plain (H : Nat → Int) (t : Nat) (x : Str) : plainGet (KF H t) 152 x = true := by kernel_rfl
theorem kf_iscls (H : Nat → Int) (t : Nat) : isClsIn (KF H t) 152 = true := by kernel_rfl
theorem kf_obj (H : Nat → Int) (t : Nat) : findIn (KF H t) (.ref 152) "obj" = some (some (.ref 153)) := by kernel_rfl
theorem kf_get (H : Nat → Int) (t : Nat) : specialIn (KF H t) (.ref 153) "__get__" = some (some (.builtin "member_descriptor.__get__")) := by kernel_rfl
theorem kf_takes (H : Nat → Int) (t : Nat) : takesIn (KF H t) (.ref 153) = some true := by kernel_rfl
theorem kf_at {H : Nat → Int} {t : Nat} {h : Heap} (Y : (KF H t).In h) {a : Addr} {o : Obj} (e : (KF H t).lookup a = some o) : h.get? a = some o := Y a o e
theorem kf_cd (H : Nat → Int) (t : Nat) : codeIn (KF H t) (.ref 107) (qK ".__init__") = true := by kernel_rfl
theorem kf_cd2 (H : Nat → Int) (t : Nat) : codeIn (KF H t) (.ref 115) (qK ".__lt__") = true := by kernel_rfl

/-- a key object of the thing v -/
noncomputable def keyObj (v : Value) (dx : Addr) : Obj := ⟨.ref 152, some dx, .plain, #[some v]⟩
noncomputable def KeyOb (v k : Value) (h : Heap) : Prop := ∃ x dx, k = .ref x ∧ InstAt h x (keyObj v dx) 152 (some emptyDict)
theorem mk_key {w : World} {A : Around} {E : Value → Shared → Prop} {s : Shared} {H : Nat → Int} {t : Nat} {v : Value} (hA : Ok 2 A) (X : Base w s.heap) (Y : (KF H t).In s.heap) :
    wpAny (model prg w) A (call (.ref 152) [v]) (fun k s' => Keeps s s' ∧ KeyOb v k s'.heap) E s := by
  refine hA.run ?_
  refine wpAny_call ?_
  obtain ⟨hh, g, d, tk, os⟩ := s
  refine make_core (makes_of Y (kf_make H t)) (looks_findIn Y (kf_init H t)) (fun self => bind_fn Y self (kf_fn H t)) (.inl rfl) ?_
  have k2 : ∀ b o, hh.get? b = some o → ((hh.push emptyDict).push (instObj 152 hh.objs.size)).get? b = some o := fun b o e => Heap.get?_push_of_some _ (Heap.get?_push_of_some _ e)
  have i2 : ((hh.push emptyDict).push (instObj 152 hh.objs.size)).get? (hh.objs.size + 1) = some (instObj 152 hh.objs.size) := by heap_get
  have d2 : ((hh.push emptyDict).push (instObj 152 hh.objs.size)).get? hh.objs.size = some emptyDict := by heap_get
  have sz2 : ((hh.push emptyDict).push (instObj 152 hh.objs.size)).objs.size = hh.objs.size + 2 := by rw [Heap.size_push, Heap.size_push]
  generalize (hh.push emptyDict).push (instObj 152 hh.objs.size) = h2 at *
  refine codeAny_call_def (fd := fnOf (nmS (mtd 2)) (qK ".__init__") (argsS (mtd 2)) (bodyS (mtd 2)) (scopeS (mtd 2)) .none .none .none (S' "law_oy0016_01" 227) none (.ref 107) .none)
    (body := bodyS (mtd 2)) (binds := [(Str.ofString "self", .ref (hh.objs.size + 1)), (Str.ofString "obj", v)]) (Nat.le_of_ble_eq_true rfl) (k2 _ _ (kf_at Y (a := 108) rfl)) rfl ((nolim X).keeps k2) (codeRec_of (fun a o e => k2 a o (Y a o e)) (kf_cd H t)) rfl
    ?_ (by decide) (locs rfl) (fun h₁ Ns k1 => ?_)
  · exact BindsTo.of_eq rfl
  change wpAny _ _ (execs [_] _) _ _ _
  have F : Fr hh h2.objs.size h₁ _ := ⟨Ns, fun b o e => k1 b o (k2 b o e), by rw [sz2]; exact Nat.le_add_right _ _⟩
  have N : News hh h2.objs.size h₁ [(hh.objs.size + 1, instObj 152 hh.objs.size), (hh.objs.size, emptyDict)] := fun p hp => by
    rcases List.mem_cons.mp hp with rfl | hp
    · exact ⟨k1 _ _ i2, by rw [sz2]; exact Nat.ne_of_lt (Nat.lt_succ_self _), Heap.get?_none_of_le (Nat.le_succ _)⟩
    · rw [List.mem_singleton.mp hp]
      exact ⟨k1 _ _ d2, by rw [sz2]; exact Nat.ne_of_lt (Nat.lt_add_of_pos_right (by decide)), Heap.get?_none_of_le (Nat.le_refl _)⟩
  refine wpAny_execs_cons (plainObj_wpAny_Assign_Attribute ?_)
  refine ld F rfl ?_
  refine ld F rfl ?_
  have Y0 : (KF H t).In hh := Y
  refine set_slot F Y0 N ⟨(N _ (.head _)).1, rfl, rfl, (N _ (.tail _ (.head _))).1⟩ (kf_set H t) (kf_over H t) (kf_taker H t) (kf_mem H t) (kf_slot H t) (by decide) (ox' := keyObj v hh.objs.size) rfl rfl (news' := [(hh.objs.size + 1, keyObj v hh.objs.size), (hh.objs.size, emptyDict)]) ?_ fun h' F' N' => ?_
  · exact .head fun p hp => by rw [List.mem_singleton.mp hp]; exact Nat.ne_of_lt (Nat.lt_succ_self _)
  refine wpAny_execs_nil ?_
  exact ⟨rfl, keeps_of F', _, _, rfl, (N' _ (.head _)).1, rfl, rfl, (N' _ (.tail _ (.head _))).1⟩
end Mine
end
section -- LLt
open PySem PySem.Calls PySem.W PySem.W.X PyProof.Rows
set_option Elab.async false
set_option maxRecDepth 100000
set_option maxHeartbeats 1000000
set_option linter.unusedVariables false
namespace Mine
theorem sub_list {w : World} {A : Around} {E : Value → Shared → Prop} {s : Shared} {value slice : PySem.Expr} {l : Addr} {vs : Array Value} {k : Int} {u : Tok} {v : Value} {Q : Value → Shared → Prop}
    (hl : s.heap.IsList l vs) (h0 : 0 ≤ k) (hhi : k < 2 ^ 63) (hx : vs[k.toNat]? = some v) (h : Q v s)
    (hs : subscripted slice false (.ref l) (.int k u) = operate [.ref l, .int k u] (getItem (.ref l) (.int k u)) := by with_unfolding_all rfl) :
    wpAny (model prg w) A (subscriptTail value slice (.ref l) (.int k u)) Q E s :=
  tail_any hl.typeIs slot_list_getitem.lookup (wpAny_getItem_list hl h0 hhi hx h) hs
theorem fn_51 {w : World} {h : Heap} (X : Base w h) : FnAt 51 h := ⟨_, _, _, _, X 51 _ rfl⟩
theorem fn_58 {w : World} {h : Heap} (X : Base w h) : FnAt 58 h := ⟨_, _, _, _, X 58 _ rfl⟩
theorem useJ {M : Model} {A : Around} {t : Sem Value} {n : Int} {Q E : Value → Shared → Prop} {s : Shared} (hc : wpAny M A t (RetJ s n) E s)
    (h : ∀ u s', Kp s s' → Q (.int n u) s') : wpAny M A t Q E s :=
  wpAny_mono hc (fun v s' hv => by obtain ⟨⟨u, rfl⟩, k⟩ := hv; exact h u s' k) fun _ _ e => e
theorem Kp.tok {s s' : Shared} {n : Nat} (x : Kp s s') : Kp s { s' with toks := n } := by
  obtain ⟨g, tk, rfl, k, t⟩ := x
  exact ⟨g, n, rfl, k, t⟩
local macro_rules | `(tactic| kn_hit) => `(tactic| first | assumption | exact look_eq | (refine look_ne ?_; kn_hit) | rfl)
local macro_rules | `(tactic| walk_at "eval Name") => `(tactic| first | refine nLoc (by assumption) (by kn_hit) ?_ | refine nCell (by assumption) rfl rfl (by news_mem) (by assumption) ?_)
noncomputable def lam1 : Expr := lamS ((bodyS (st 13)).getD 0 default)
noncomputable def qLaw : Str := nmS (st 13) ++ ".<locals>." ++ "<lambda>"
noncomputable def Lam1 (h : Heap) : Prop := ∃ pm ctv, h.get? 91 = some (kla_obj (Str.ofString "<lambda>") qLaw (lamArgs lam1) (lamBody lam1) (lamScope lam1) [] pm 90 ctv) ∧ h.CodeRec (.ref 90) qLaw
theorem Lam1.keeps {h h' : Heap} (x : Lam1 h) (k : ∀ b o, b ≠ 46 → h.get? b = some o → h'.get? b = some o) : Lam1 h' := by
  obtain ⟨pm, ctv, e, c, o, vs, t, e', ho, r⟩ := x
  cases e'
  exact ⟨pm, ctv, k _ _ (by decide) e, 90, o, vs, t, rfl, k _ _ (by decide) ho, r⟩
theorem lam1_ok {w : World} {A : Around} {E : Value → Shared → Prop} {s : Shared} {la lb : Addr} {va vb : Array Value} {a b : Nat} {t u : Tok} (hA : Ok 4 A) (X : Base w s.heap) (h46 : T46 s.heap) (Z : Lam1 s.heap)
    (ha : a < 2 ^ 64) (hb' : b < 2 ^ 64) (la' : s.heap.IsList la va) (lb' : s.heap.IsList lb vb) (xa : va[0]? = some (.int a t)) (xb : vb[0]? = some (.int b u)) :
    wpAny (model prg w) A (call (.ref 91) [.ref la, .ref lb]) (RetJ s (turnV a b)) E s := by
  refine hA.run ?_
  obtain ⟨pm, ctv, ho, hcd⟩ := Z
  refine call_lam (binds := [(Str.ofString "one", .ref la), (Str.ofString "two", .ref lb)]) (by decide) ho (nolim X) hcd rfl (locs rfl) fun h₁ F => ?_
  change wpAny _ _ (eval (.Call _ _ _ _) _) _ _ _
  have la₁ : h₁.IsList la va := la'.at fun o e => F.keep _ o e
  have lb₁ : h₁.IsList lb vb := lb'.at fun o e => F.keep _ o e
  iterate 1 walk1
  refine gname (base_fr X F) (g_turn _) ?_
  refine callWith_F (fn_51 (base_fr (s := { s with heap := _ }) X F)) ?_
  iterate 4 walk1
  refine sub_list la₁ (by decide) (by decide) xa ?_
  iterate 4 walk1
  refine sub_list lb₁ (by decide) (by decide) xb ?_
  iterate 1 walk1
  refine ⟨fn_51 (base_fr (s := { s with heap := _ }) X F), ?_⟩
  refine useJ (turn_ok (ok_deep (by decide) (by decide)) (base_fr (s := { s with heap := _ }) X F) (h46.keeps F.keep) ha hb') fun u₂ s' K₂ => ?_
  exact ⟨⟨u₂, rfl⟩, (Kp.of_keeps ⟨h₁, _, rfl, F.keep⟩ h46).trans K₂⟩
theorem fn_91 {h : Heap} (Z : Lam1 h) : FnAt 91 h := by
  obtain ⟨pm, ctv, e, _⟩ := Z
  exact ⟨_, _, _, _, e⟩
theorem InstAt.up {h h' : Heap} {x C : Addr} {ox : Obj} {od : Option Obj} (I : InstAt h x ox C od) (k : ∀ b o, h.get? b = some o → h'.get? b = some o) : InstAt h' x ox C od :=
  ⟨k _ _ I.at_, I.cls, I.no, by
    have d := I.dict
    revert d
    cases ox.dict <;> cases od <;> intro d <;> first | exact d | exact k _ _ d⟩
theorem get_obj {w : World} {A : Around} {E : Value → Shared → Prop} {s : Shared} {H : Nat → Int} {t : Nat} {x dx : Addr} {v : Value} {e : Bool} {Q : Value → Shared → Prop} {L : Addr} {h₀ : Heap} {m : Str → Option Value}
    (F : Fr h₀ L s.heap m) (Y : (KF H t).In h₀) (I : InstAt s.heap x (keyObj v dx) 152 (some emptyDict)) (hv : handedIn v = true) (h : Q v { s with toks := s.toks + 1 }) :
    wpAny (model prg w) A (getAttr (.ref x) "obj" e) Q E s :=
  get_slot F Y I (kf_plain H t _) (kf_iscls H t) (kf_obj H t) (kf_get H t) (kf_takes H t) (kf_slot H t) rfl hv h
noncomputable def ltFd : FuncData := { Calls.docDef (nmS (mtd 3)) (argsS (mtd 3)) (bodyS (mtd 3)) (scopeS (mtd 3)) (S' "law_oy0016_01" 227) (.ref 115) .none with qualname := qK ".__lt__", closure := [(Str.ofString "mycmp", 93)], closureTuple := .ref 109 }
theorem key_lt {w : World} {A : Around} {E : Value → Shared → Prop} {s : Shared} {H : Nat → Int} {t0 : Nat} {la lb : Addr} {va vb : Array Value} {a b : Nat} {t u : Tok} {k k' : Value} (hA : Ok 6 A) (X : Base w s.heap) (h46 : T46 s.heap) (Z : Lam1 s.heap) (Y : (KF H t0).In s.heap)
    (ha : a < 2 ^ 64) (hb' : b < 2 ^ 64) (la' : s.heap.IsList la va) (lb' : s.heap.IsList lb vb) (xa : va[0]? = some (.int a t)) (xb : vb[0]? = some (.int b u)) (ka : KeyOb (.ref la) k s.heap) (kb : KeyOb (.ref lb) k' s.heap) :
    wpAny (model prg w) A (keyLt' oneType' k k') (fun b' s' => b' = decide (turnV a b < 0) ∧ Kp s s') E s := by
  refine hA.run ?_
  obtain ⟨x, dx, rfl, Ix⟩ := ka
  obtain ⟨y, dy, rfl, Iy⟩ := kb
  rw [keyLt'_oneType, oneLt'_eq]
  simp only [if_true]
  refine wpAny_bind (wpAny_cRoomFor (Nat.le_of_ble_eq_true rfl) ?_)
  refine wpAny_bind (ifBound_K Y Ix (kf_lt H t0) (kf_ltfn H t0) ?_)
  refine wpAny_call ?_
  refine codeAny_call_def (fd := ltFd)
    (body := bodyS (mtd 3)) (binds := [(Str.ofString "self", .ref x), (Str.ofString "other", .ref y)]) (Nat.le_of_ble_eq_true rfl) (kf_at Y (a := 116) rfl) rfl (nolim X) (codeRec_of Y (kf_cd2 H t0)) rfl
    (BindsTo.of_eq rfl) (by decide) (locs rfl) (fun h₁ Ns k1 => ?_)
  change wpAny _ _ (execs [_] _) _ _ _
  have F : Fr s.heap s.heap.objs.size h₁ _ := ⟨Ns, k1, Nat.le_refl _⟩
  have Ix₁ := InstAt.up Ix k1
  have Iy₁ := InstAt.up Iy k1
  have c93 : h₁.get? 93 = some o93 := k1 _ _ (kf_at Y (a := 93) rfl)
  have Z₁ : Lam1 h₁ := Z.keeps fun b o _ e => k1 b o e
  have Y₁ : (KF H t0).In h₁ := fun a o e => k1 a o (Y a o e)
  clear Ns
  iterate 4 walk1
  refine nFree rfl rfl c93 rfl ?_
  refine callWith_F (fn_91 Z₁) ?_
  iterate 1 walk1
  refine Attribute_any_ (nLoc F (by kn_hit) ?_) rfl
  refine get_obj F Y Ix₁ rfl ?_
  iterate 1 walk1
  refine Attribute_any_ (nLoc F (by kn_hit) ?_) rfl
  refine get_obj (s := { s with heap := h₁, toks := _ }) F Y Iy₁ rfl ?_
  iterate 1 walk1
  refine ⟨fn_91 Z₁, ?_⟩
  refine useJ (lam1_ok (s := { s with heap := h₁, toks := _ }) (ok_deep (by decide) (by decide)) (X.keeps F.keep) (h46.keeps F.keep) Z₁ ha hb' (la'.at fun o e => F.keep _ o e) (lb'.at fun o e => F.keep _ o e) xa xb) fun u₂ s' K₂ => ?_
  iterate 2 walk1
  refine wpAny_truthy_bool ?_
  exact ⟨rfl, ((Kp.of_keeps ⟨h₁, _, rfl, F.keep⟩ h46).trans K₂).tok⟩
end Mine
end
section -- LSort2
open PySem PySem.Calls PySem.W PySem.W.X PyProof.Rows
set_option Elab.async false
set_option maxRecDepth 100000
set_option maxHeartbeats 1000000
set_option linter.unusedVariables false
namespace Mine
/-- the i-th value is a list whose first item is the number num i -/
noncomputable def Firsts (vs : List Value) (num : Nat → Nat) (h : Heap) : Prop := ∀ i v, vs[i]? = some v → ∃ la va t, v = .ref la ∧ h.IsList la va ∧ va[0]? = some (.int (num i) t) ∧ num i < 2 ^ 64
noncomputable def KeyAt1 (vs : List Value) (i : Nat) (k : Value) (h : Heap) : Prop := ∃ v x dx, vs[i]? = some v ∧ k = .ref x ∧ InstAt h x (keyObj v dx) 152 (some emptyDict) ∧ x ≠ 46 ∧ dx ≠ 46
theorem isList_ne46 {h : Heap} {la : Addr} {va : Array Value} (t : T46 h) (l : h.IsList la va) : la ≠ 46 := by
  rintro rfl
  obtain ⟨ps, e, _⟩ := t
  obtain ⟨o, ho, _, n, hd⟩ := l
  rw [e] at ho
  cases ho
  cases hd
theorem Kp.list {s s' : Shared} (x : Kp s s') (t : T46 s.heap) {la : Addr} {va : Array Value} (l : s.heap.IsList la va) : s'.heap.IsList la va := by
  have ne := isList_ne46 t l
  obtain ⟨g, tk, rfl, k, _⟩ := x
  exact l.at fun o e => k _ _ ne e
theorem Kp.base {w : World} {s s' : Shared} (x : Kp s s') (X : Base w s.heap) : Base w s'.heap := by
  obtain ⟨g, tk, rfl, k, _⟩ := x
  intro a o e
  refine k a o ?_ (X a o e)
  rintro rfl
  rw [show (Kb w.params).lookup 46 = none from rfl] at e
  cases e
theorem Kp.kf {s s' : Shared} {H : Nat → Int} {t : Nat} (x : Kp s s') (Y : (KF H t).In s.heap) : (KF H t).In s'.heap := by
  obtain ⟨g, tk, rfl, k, _⟩ := x
  intro a o e
  refine k a o ?_ (Y a o e)
  rintro rfl
  rw [show (KF H t).lookup 46 = none from rfl] at e
  cases e
theorem Kp.lam1 {s s' : Shared} (x : Kp s s') (Z : Lam1 s.heap) : Lam1 s'.heap := by
  obtain ⟨g, tk, rfl, k, _⟩ := x
  exact Z.keeps k
theorem inst46 {h h' : Heap} {x C : Addr} {ox : Obj} {od : Option Obj} (I : InstAt h x ox C od) (hx : x ≠ 46) (hd : ∀ dx, ox.dict = some dx → dx ≠ 46) (k : ∀ b o, b ≠ 46 → h.get? b = some o → h'.get? b = some o) : InstAt h' x ox C od :=
  ⟨k _ _ hx I.at_, I.cls, I.no, by
    have d := I.dict
    revert d hd
    cases ox.dict <;> cases od <;> intro hd d <;> first | exact d | exact k _ _ (hd _ rfl) d⟩
theorem sorted_K {w : World} {A : Around} {E : Value → Shared → Prop} {s : Shared} {H : Nat → Int} {t0 : Nat} {l : Addr} {vs : List Value} {n : Nat} {num : Nat → Nat} {Q : Value → Shared → Prop} (hA : Ok 8 A) (X : Base w s.heap) (h46 : T46 s.heap) (Z : Lam1 s.heap) (Y : (KF H t0).In s.heap)
    (hl : s.heap.IsList l vs.toArray) (hn : vs.length = n) (h2 : 2 ≤ n) (h64 : n < 64) (hf : Firsts vs num s.heap)
    (h : ∀ D h' tk c, Kp s { s with heap := h', toks := tk } → s.heap.objs.size ≤ D → h'.get? D = some (seqObj "list" ((srt n fun i j => decide (turnV (num i) (num j) < 0)).map fun i => vs.getD i .none).toArray c) → Q (.ref D) { s with heap := h', toks := tk }) :
    wpAny (model prg w) A (call (.builtin "sorted") [.ref l] [(Str.ofString "key", .ref 152)]) Q E s := by
  refine hA.run ?_
  refine sorted_key (KeyAt1 vs) _ hl h46 hn h2 h64 ?_ ?_ ?_ ?_ ?_ h
  · rintro i k h h' ⟨v, x, dx, e, rfl, I, hx, hd⟩ kp
    exact ⟨v, x, dx, e, rfl, inst46 I hx (fun q hq => by cases hq; exact hd) kp, hx, hd⟩
  · rintro i k h h' d its c ⟨v, x, dx, e, rfl, I, hx, hd⟩ hd0 hs
    have n1 : x ≠ d := by
      rintro rfl
      have q := congrArg Obj.data (Option.some.inj (I.at_.symm.trans hd0))
      cases q
    have dd : h.get? dx = some emptyDict := I.dict
    have n2 : dx ≠ d := by
      rintro rfl
      have q := congrArg Obj.data (Option.some.inj (dd.symm.trans hd0))
      cases q
    refine ⟨v, x, dx, e, rfl, ⟨(hs.2 _ n1).trans I.at_, rfl, rfl, ?_⟩, hx, hd⟩
    exact (hs.2 _ n2).trans dd
  · intro i v s' hv K
    have t' := K.t46
    refine wpAny_mono (mk_key (v := v) ⟨rfl, by decide, by decide⟩ (K.base X) (K.kf Y)) ?_ fun _ _ e => e
    rintro k s'' ⟨ks, x, dx, rfl, I⟩
    refine ⟨Kp.of_keeps ks t', v, x, dx, hv, rfl, I, ?_, ?_⟩
    · rintro rfl
      have t2 := (Kp.of_keeps ks t').t46
      obtain ⟨ps, e, _⟩ := t2
      have q := congrArg Obj.data (Option.some.inj (e.symm.trans I.at_))
      cases q
    · rintro rfl
      have t2 := (Kp.of_keeps ks t').t46
      obtain ⟨ps, e, _⟩ := t2
      have dd : s''.heap.get? 46 = some emptyDict := I.dict
      have q := congrArg Obj.data (Option.some.inj (e.symm.trans dd))
      cases q
  · intro s' keys hk hK Q hQ
    refine kas_kind (T := .ref 152) (by omega) (fun v hv => ?_) rfl rfl hQ
    obtain ⟨i, hi⟩ := List.getElem?_of_mem hv
    obtain ⟨v', x, dx, e, rfl, I, _⟩ := hK i v hi
    exact I.type
  · rintro i j k k' s' hi hj K ⟨v, x, dx, e, rfl, I, _⟩ ⟨v', x', dx', e', rfl, I', _⟩
    obtain ⟨la, va, t, rfl, la', xa, ba⟩ := hf i v e
    obtain ⟨lb, vb, u, rfl, lb', xb, bb⟩ := hf j v' e'
    exact key_lt ⟨rfl, by decide, by decide⟩ (K.base X) K.t46 (K.lam1 Z) (K.kf Y) ba bb (K.list h46 la') (K.list h46 lb') xa xb ⟨x, dx, rfl, I⟩ ⟨x', dx', rfl, I'⟩
local macro_rules | `(tactic| kn_hit) => `(tactic| first | assumption | exact look_eq | (refine look_ne ?_; kn_hit) | rfl)
local macro_rules | `(tactic| walk_at "eval Name") => `(tactic| first | refine nLoc (by assumption) (by kn_hit) ?_ | refine nCell (by assumption) rfl rfl (by news_mem) (by assumption) ?_)
noncomputable def kwVal : Expr → Expr | .Call _ _ (k :: _) _ => k.value | _ => default
noncomputable def cmpR : Stmt → Expr | .If (.Compare _ _ (e :: _) _) .. => e | _ => default
noncomputable def lamR : Expr := kwVal (cmpR ((bodyS (st 13)).getD 3 default))
noncomputable def LamR (f : Addr) (h : Heap) : Prop := ∃ pm c' ctv, h.get? f = some (kla_obj (Str.ofString "<lambda>") qLaw (lamArgs lamR) (lamBody lamR) (lamScope lamR) [] pm c' ctv) ∧ h.CodeRec (.ref c') qLaw ∧ f ≠ 46 ∧ c' ≠ 46
theorem LamR.up {f : Addr} {h h' : Heap} (x : LamR f h) (k : ∀ b o, b ≠ 46 → h.get? b = some o → h'.get? b = some o) : LamR f h' := by
  obtain ⟨pm, c', ctv, e, ⟨c, o, vs, t, e', ho, r⟩, hf, hc⟩ := x
  cases e'
  exact ⟨pm, c', ctv, k _ _ hf e, ⟨c', o, vs, t, rfl, k _ _ hc ho, r⟩, hf, hc⟩
theorem Kp.lamR {s s' : Shared} {f : Addr} (x : Kp s s') (Z : LamR f s.heap) : LamR f s'.heap := by
  obtain ⟨g, tk, rfl, k, _⟩ := x
  exact Z.up k
theorem lamR_ok {w : World} {A : Around} {E : Value → Shared → Prop} {s : Shared} {f la : Addr} {va : Array Value} {a : Nat} {t : Tok} (hA : Ok 2 A) (X : Base w s.heap) (Z : LamR f s.heap)
    (la' : s.heap.IsList la va) (xa : va[0]? = some (.int a t)) :
    wpAny (model prg w) A (call (.ref f) [.ref la]) (RetI s (rankN a)) E s := by
  refine hA.run ?_
  obtain ⟨pm, c', ctv, ho, hcd, _, _⟩ := Z
  refine call_lam (binds := [(Str.ofString "thing", .ref la)]) (by decide) ho (nolim X) hcd rfl (locs rfl) fun h₁ F => ?_
  change wpAny _ _ (eval (.Call _ _ _ _) _) _ _ _
  have la₁ : h₁.IsList la va := la'.at fun o e => F.keep _ o e
  iterate 1 walk1
  refine gname (base_fr X F) (g_rank _) ?_
  refine callWith_F (fn_58 (X.keeps F.keep)) ?_
  iterate 4 walk1
  refine sub_list la₁ (by decide) (by decide) xa ?_
  iterate 1 walk1
  refine ⟨fn_58 (X.keeps F.keep), ?_⟩
  refine useI (rank_ok (s := { s with heap := h₁, toks := _ }) (ok_deep (by decide) (by decide)) (X.keeps F.keep)) fun u₂ h₂ tk₂ K₂ => ?_
  exact ⟨⟨u₂, rfl⟩, h₂, tk₂, rfl, fun b o e => K₂ b o (F.keep b o e)⟩
theorem sorted_R {w : World} {A : Around} {E : Value → Shared → Prop} {s : Shared} {l f : Addr} {vs : List Value} {n : Nat} {num : Nat → Nat} {Q : Value → Shared → Prop} (hA : Ok 8 A) (X : Base w s.heap) (h46 : T46 s.heap) (Z : LamR f s.heap)
    (hl : s.heap.IsList l vs.toArray) (hn : vs.length = n) (h2 : 2 ≤ n) (h64 : n < 64) (hf : Firsts vs num s.heap)
    (h : ∀ D h' tk c, Kp s { s with heap := h', toks := tk } → s.heap.objs.size ≤ D → h'.get? D = some (seqObj "list" ((srt n fun i j => decide (((rankN (num i) : Nat) : Int) < (rankN (num j) : Nat))).map fun i => vs.getD i .none).toArray c) → Q (.ref D) { s with heap := h', toks := tk }) :
    wpAny (model prg w) A (call (.builtin "sorted") [.ref l] [(Str.ofString "key", .ref f)]) Q E s := by
  refine hA.run ?_
  refine sorted_key (fun i k _ => ∃ u, k = .int (rankN (num i)) u) _ hl h46 hn h2 h64 (fun _ _ _ _ h _ => h) (fun _ _ _ _ _ _ _ h _ _ => h) ?_ ?_ ?_ h
  · intro i v s' hv K
    obtain ⟨la, va, t, rfl, la', xa, ba⟩ := hf i v hv
    refine wpAny_mono (lamR_ok (a := num i) ⟨rfl, by decide, by decide⟩ (K.base X) (K.lamR Z) (K.list h46 la') xa) ?_ fun _ _ e => e
    rintro k s'' ⟨hk, ks⟩
    exact ⟨Kp.of_keeps ks K.t46, hk⟩
  · intro s' keys hk hK Q hQ
    refine kas_kind (T := .type "int") (by omega) (fun v hv => ?_) rfl rfl hQ
    obtain ⟨i, hi⟩ := List.getElem?_of_mem hv
    obtain ⟨u, rfl⟩ := hK i v hi
    exact Looks.of_pure rfl
  · rintro i j k k' s' hi hj K ⟨u, rfl⟩ ⟨u', rfl⟩
    exact kat_lt_int ⟨rfl, Kp.refl K.t46⟩
end Mine
end
section -- LComp
open PySem PySem.Calls PySem.W PySem.W.X PyProof.Rows
set_option Elab.async false
set_option maxRecDepth 100000
set_option maxHeartbeats 1000000
set_option linter.unusedVariables false
namespace Mine
theorem ne_lt {a b : Nat} (h : a < b) : @Ne Addr a b := Nat.ne_of_lt h
theorem ne_gt {a b : Nat} (h : b < a) : @Ne Addr a b := Nat.ne_of_gt h
/-- only the frame C, its k cells and new objects move -/
noncomputable def MovesIn (C k : Nat) (s s' : Shared) : Prop := ∃ h tk, s' = { s with heap := h, toks := tk } ∧ ∀ (b : Nat) o, ¬(C ≤ b ∧ b ≤ C + k) → s.heap.get? b = some o → h.get? b = some o
noncomputable def cEnv (scope : Scope) (cl : List (Str × Addr)) (C : Addr) (env : Env) : Env := { compEnvC scope cl C env with cells := cellsFrom (C + 1) scope.names cl }
section
variable {w : World} {A : Around} {E : Value → Shared → Prop} {R : Result → Shared → Prop} {s : Shared} {env : Env}
theorem new_env {scope : Scope} {g : Addr} {cl : List (Str × Addr)} {q : Str} {out : Env} {Q : Env → Shared → Prop}
    (h : Q { scope := scope, locals := s.heap.objs.size, globals := g, cells := cellsFrom (s.heap.objs.size + 1) scope.names cl, qual := q, func := none, code := out.code, frame := out.frame, builtins := out.builtins }
      { s with heap := pushCells (s.heap.push { cls := .type "dict", data := .dict #[] }) scope.names }) :
    wpAny (model prg w) A (newFunctionEnv scope g cl [] q none .none (some out)) Q E s := by
  simp only [newFunctionEnv, Option.isSome_some, if_true]
  refine wpAny_bind (wpAny_alloc ?_)
  refine wpAny_bind (wpAny_layCells _ (fun name kind cells => by cases hkc : kind == NameKind.cell <;> simp [hkc]) _ _ _ _ ?_)
  rw [show ({ s with heap := s.heap.push { cls := .type "dict", data := .dict #[] } } : Shared).heap.objs.size = s.heap.objs.size + 1 from Heap.size_push ..]
  rw [List.forIn_nil]
  exact wpAny_bind (wpAny_pure (wpAny_pure h))
theorem comp_go {elt target iter : Expr} {scope : Scope} {pos : Pos} {it acc : Value} (I : Nat → Shared → Prop)
    (turn : ∀ n s, I n s → wpAny (model prg w) A (pyNext it) (fun r s₁ => match r with
      | none => R (.ok .next) s₁
      | some v => wpAny (model prg w) A (letOwnedTupleGo target it v) (fun _ s₁' => wpAny (model prg w) A (assign target env v) (fun _ s₂ =>
          wpAny (model prg w) A (eval elt env) (fun x s₄ =>
              wpAny (model prg w) A (call (.builtin "list.append") [acc, x]) (fun _ s₅ => ∃ m, m < n ∧ I m s₅) (notedBy (model prg w) A env fun e s' => R (.error e) s') s₄) (notedBy (model prg w) A env fun e s' => R (.error e) s') s₂)
          (notedBy (model prg w) A env fun e s' => R (.error e) s') s₁') (notedBy (model prg w) A env fun e s' => R (.error e) s') s₁) (notedBy (model prg w) A env fun e s' => R (.error e) s') s)
    (n : Nat) (h : I n s) : codeAny (model prg w) A (.compLoop (.ListComp elt [⟨target, iter, [], 0⟩] scope pos) 0 it acc env) R s := by
  refine codeAny_loop rfl I (fun n s hI => ?_) n h
  show wpAny _ A ((compTurn (.ListComp elt [⟨target, iter, [], 0⟩] scope pos) 0 it acc env).onRaise (fun x => do noteFrame x env; theTreesLotGoes x)) _ _ s
  refine wpAny_noted ?_
  rw [compTurn_list]
  refine wpAny_bind (wpAny_standAt (wpAny_bind (wpAny_mono (turn n s hI) (fun r s₁ h₁ => ?_) fun _ _ h' => h')))
  cases r with
  | none => exact wpAny_pure h₁
  | some v =>
    refine wpAny_bind (wpAny_mono h₁ (fun _ s₁' h₁' => ?_) fun _ _ h' => h')
    refine wpAny_bind (wpAny_mono h₁' (fun _ s₂ h₂ => wpAny_bind (wpAny_mono (wpAny_tests_nil (Q := fun ok s₃ => ok = true ∧ s₃ = s₂) ⟨rfl, rfl⟩) (fun ok s₃ h₃ => ?_) fun _ _ h' => h')) fun _ _ h' => h')
    obtain ⟨rfl, rfl⟩ := h₃
    exact wpAny_bind (wpAny_bind (wpAny_mono h₂ (fun x s₄ h₄ => wpAny_bind (wpAny_mono h₄ (fun _ s₅ h₅ => wpAny_pure (wpAny_pure ⟨rfl, h₅⟩)) fun _ _ h' => h')) fun _ _ h' => h'))
theorem comp_block {elt target iter : Expr} {scope : Scope} {cl : List (Str × Addr)} {pos : Pos} {s₂ : Shared} {I : Addr} {fp wr : List Addr} {n k : Nat} {P Md : Nat → Value → Heap → Prop} {St : Nat → Heap → Prop}
    {J : Nat → Heap → Prop} {G : Nat → Nat → Value → Heap → Prop} {RR : Value → Nat → Result → Shared → Prop}
    (W : KTurns prg w A target I fp wr n P Md St) (hself : ∀ (s : Shared) (Q : Value → Shared → Prop) (E : Value → Shared → Prop), St 0 s.heap → Q (.ref I) s → wpAny (model prg w) A (pyIter (.ref I)) Q E s)
    (hsz : n ≤ 1000) (hk : ∀ h, (pushCells h scope.names).objs.size = h.objs.size + k) (hfp : ∀ (b : Nat), b ∈ fp → b < s₂.heap.objs.size) (hst : St 0 s₂.heap)
    (hJ0 : ∀ h : Heap, J h.objs.size (pushCells (h.push { cls := .type "dict", data := .dict #[] }) scope.names))
    (hJk : ∀ (C : Nat) h h', J C h → (∀ (b : Nat) (o : Obj), C < b → b ≤ C + k → h.get? b = some o → h'.get? b = some o) → J C h')
    (hJe : ∀ C h, J C h → (∃ m, h.Ns C m) → C + k < h.objs.size)
    (hG : ∀ (C : Nat) i y h h', G C i y h → (∀ (b : Nat) (o : Obj), C + k < b → h.get? b = some o → h'.get? b = some o) → G C i y h')
    (turn : ∀ (C : Nat) i v s₃ E', s₂.heap.objs.size < C → i < n → P i v s₃.heap → (∃ m, s₃.heap.Ns C m) → J C s₃.heap → C + k < s₃.heap.objs.size → (∀ (b : Nat) (o : Obj), b ∉ wr → s₂.heap.get? b = some o → s₃.heap.get? b = some o) →
      wpAny (model prg w) A (assign target (cEnv scope cl C env) v) (fun _ s₄ => wpAny (model prg w) A (eval elt (cEnv scope cl C env))
        (fun y s₅ => MovesIn C k s₃ s₅ ∧ (∃ m, s₅.heap.Ns C m) ∧ J C s₅.heap ∧ G C i y s₅.heap) E' s₄) E' s₃)
    (hRR : ∀ (D C : Nat) h' tk m' ys, s₂.heap.objs.size ≤ D → D < C → h'.Ns C m' → h'.PlainList D ys → ys.size = n → (∀ i y, ys[i]? = some y → G C i y h') →
      (∀ (b : Nat) (o : Obj), b ∉ wr → s₂.heap.get? b = some o → h'.get? b = some o) → RR (.ref D) C (.ok .next) { s₂ with heap := h', toks := tk }) :
    wpAny (model prg w) A (newList []) (fun acc s₃ => wpAny (model prg w) A (newFunctionEnv scope env.globals cl [] env.qual none .none (some env)) (fun cenv s₄ =>
      codeAny (model prg w) A (.compStart (.ListComp elt [⟨target, iter, [], 0⟩] scope pos) 0 (.ref I) acc { cenv with scope := relabel scope env }) (RR acc cenv.locals) s₄) E s₃) E s₂ := by
  refine wpAny_newObj_type (new_env ?_)
  dsimp only
  generalize hH2 : s₂.heap.push { cls := .type "list", dict := none, data := .seq ([] : List Value).toArray } = H2
  have hC : H2.objs.size = s₂.heap.objs.size + 1 := by rw [← hH2, Heap.size_push]
  generalize hh₁ : pushCells (H2.push { cls := .type "dict", data := .dict #[] }) scope.names = h₁
  have old : ∀ (b : Nat) (o : Obj), s₂.heap.get? b = some o → h₁.get? b = some o := fun b o e => by
    rw [← hh₁]; exact pushCells_keeps _ _ _ _ (Heap.get?_push_of_some _ (hH2 ▸ Heap.get?_push_of_some _ e))
  have hacc : h₁.PlainList s₂.heap.objs.size #[] := ⟨_, by rw [← hh₁]; exact pushCells_keeps _ _ _ _ (Heap.get?_push_of_some _ (hH2 ▸ Heap.get?_push_size _ rfl))⟩
  have hns : h₁.Ns H2.objs.size (fun _ => none) := by rw [← hh₁]; exact (Heap.Ns.new H2 (.type "dict")).keeps (pushCells_keeps _ _)
  have hsz₁ : h₁.objs.size = H2.objs.size + 1 + k := by rw [← hh₁, hk, Heap.size_push]
  have hJ : J H2.objs.size h₁ := by rw [← hh₁]; exact hJ0 H2
  have hst₁ : St 0 h₁ := W.frame _ _ _ hst fun b _ o e => old b o e
  have loop : ∀ s₃ : Shared, s₃ = { s₂ with heap := h₁ } →
      codeAny (model prg w) A (.compLoop (.ListComp elt [⟨target, iter, [], 0⟩] scope pos) 0 (.ref I) (.ref s₂.heap.objs.size) (cEnv scope cl H2.objs.size env))
        (RR (.ref s₂.heap.objs.size) H2.objs.size) s₃ := by
    rintro s₃ rfl
    refine comp_go (fun j s' => ∃ h' tk i ys m', s' = { s₂ with heap := h', toks := tk } ∧ i ≤ n ∧ j = n - i ∧ ys.size = i ∧ St i h' ∧ h'.Ns H2.objs.size m' ∧ J H2.objs.size h' ∧ h'.PlainList s₂.heap.objs.size ys ∧
      (∀ i y, ys[i]? = some y → G H2.objs.size i y h') ∧ (∀ (b : Nat) (o : Obj), b ∉ wr → s₂.heap.get? b = some o → h'.get? b = some o)) ?_ n
      ⟨h₁, _, 0, #[], _, rfl, Nat.zero_le _, rfl, rfl, hst₁, hns, hJ, hacc, fun i y e => by simp at e, fun b o _ e => old b o e⟩
    rintro j s' ⟨h', tk, i, ys, m', rfl, hi, rfl, hyl, hst', hn', hJ', hacc', hG', hk'⟩
    have big : ∀ (b : Nat), s₂.heap.objs.size ≤ b → b ∉ wr := fun b hb hm => absurd (hfp b (W.sub b hm)) (Nat.not_lt.mpr hb)
    by_cases hlt : i < n
    · refine W.item i _ _ _ hlt hst' fun v h₂ tk₂ hMd hk₂ => ?_
      refine W.go i v _ _ _ hMd fun h₃ hP hst₃ hk₃ => ?_
      have up : ∀ (b : Nat) (o : Obj), b ∉ wr → h'.get? b = some o → h₃.get? b = some o := fun (b : Nat) o hb e => hk₃ b o hb (hk₂ b o hb e)
      have ns₃ : h₃.Ns H2.objs.size m' := hn'.at' fun o e => up _ o (big _ (by omega)) e
      have J₃ : J H2.objs.size h₃ := hJk _ _ _ hJ' fun (b : Nat) o (h1 : _ < b) (h2 : b ≤ _) e => up b o (big b (by omega)) e
      refine wpAny_mono (turn H2.objs.size i v { s₂ with heap := h₃, toks := tk₂ } _ (by omega) hlt hP ⟨_, ns₃⟩ J₃ (hJe _ _ J₃ ⟨_, ns₃⟩) (fun (b : Nat) o hb e => up b o hb (hk' b o hb e))) (fun _ s₄ h₄ => wpAny_mono h₄ (fun y s₅ h₅ => ?_) fun _ _ e => e) fun _ _ e => e
      obtain ⟨⟨h₅, tk₅, rfl, hk₅⟩, ⟨m₅, hn₅⟩, hJ₅, hG₅⟩ := h₅
      refine wpAny_list_append_plain (hsz := by rw [sizeLine_eq]; omega) (hacc'.at fun o e => hk₅ _ o (by omega) (up _ o (big _ (Nat.le_refl _)) e)) fun h₆ hl₆ hs₆ => ?_
      have eG : ∀ (b : Nat) (o : Obj), H2.objs.size + k < b → h₃.get? b = some o → h₆.get? b = some o := fun (b : Nat) o hb e => hs₆.extBut b o (ne_gt (by omega)) (hk₅ b o (by omega) e)
      refine ⟨n - (i + 1), by omega, h₆, tk₅, i + 1, ys.push y, m₅, rfl, hlt, rfl, by simp [hyl], ?_, hn₅.sameBut hs₆ (ne_gt (by omega)), ?_, hl₆, ?_, ?_⟩
      · refine W.frame _ _ _ hst₃ fun (b : Nat) hb o e => ?_
        have hb' : b < s₂.heap.objs.size := hfp b hb
        exact hs₆.extBut b o (ne_lt hb') (hk₅ b o (by omega) e)
      · exact hJk _ _ _ hJ₅ fun (b : Nat) o (h1 : _ < b) (h2 : b ≤ _) e => hs₆.extBut b o (ne_gt (by omega)) e
      · intro i' y' e'
        rw [Array.getElem?_push] at e'
        split at e'
        · cases e'
          rename_i q
          rw [q, hyl]
          exact hG _ _ _ _ _ hG₅ fun (b : Nat) o hb e => hs₆.extBut b o (ne_gt (by omega)) e
        · exact hG _ _ _ _ _ (hG _ _ _ _ _ (hG' i' y' e') fun (b : Nat) o hb e => up b o (big b (by omega)) e) eG
      · intro (b : Nat) o hb e
        have hb' : b < s₂.heap.objs.size := Heap.lt_size e
        exact hs₆.extBut b o (ne_lt hb') (hk₅ b o (by omega) (up b o hb (hk' b o hb e)))
    · obtain rfl : i = n := by omega
      refine W.done _ _ _ hst' fun h₂ tk₂ hk₂ => ?_
      exact hRR _ _ h₂ tk₂ m' ys (Nat.le_refl _) (by omega) (hn'.at' fun o e => hk₂ _ o (big _ (by omega)) e) (hacc'.at fun o e => hk₂ _ o (big _ (Nat.le_refl _)) e) hyl
        (fun i y e => hG _ _ _ _ _ (hG' i y e) fun (b : Nat) o hb e => hk₂ b o (big b (by omega)) e) fun (b : Nat) o hb e => hk₂ b o hb (hk' b o hb e)
  exact codeAny_compStart_list (loop _ rfl) (hself _ _ _ hst₁ (loop _ rfl))
end
end Mine
end
section -- LComp2
open PySem PySem.Calls PySem.W PySem.W.X PyProof.Rows
set_option Elab.async false
set_option maxRecDepth 100000
set_option maxHeartbeats 1000000
set_option linter.unusedVariables false
namespace Mine
/-- an iterator I stands in s₂ that gives n items, each as P says; what stood in g stays -/
noncomputable def Src (w : World) (A : Around) (target : Expr) (g : Heap) (s₁ s₂ : Shared) (I : Addr) (n : Nat) (P : Nat → Value → Heap → Prop) : Prop :=
  ∃ fp wr Md St, KTurns prg w A target I fp wr n P Md St ∧ (∀ (s : Shared) (Q : Value → Shared → Prop) (E : Value → Shared → Prop), St 0 s.heap → Q (.ref I) s → wpAny (model prg w) A (pyIter (.ref I)) Q E s) ∧
    (∀ (b : Nat), b ∈ fp → b < s₂.heap.objs.size) ∧ St 0 s₂.heap ∧ (∀ b o, g.get? b = some o → s₂.heap.get? b = some o) ∧ g.objs.size ≤ s₂.heap.objs.size ∧ (∀ (b : Nat), b < g.objs.size → b ∉ wr) ∧ (∃ h, s₂ = { s₁ with heap := h })
noncomputable def SrcOf (w : World) (A : Around) (E : Value → Shared → Prop) (target : Expr) (g : Heap) (xv : Value) (s₁ : Shared) (n : Nat) (P : Nat → Value → Heap → Prop) : Prop :=
  ∀ Q : Value → Shared → Prop, (∀ I s₂, Src w A target g s₁ s₂ I n P → Q (.ref I) s₂) → wpAny (model prg w) A (pyIter xv) Q E s₁
/-- what a turn shows -/
noncomputable def Turn (w : World) (A : Around) (env : Env) (elt target : Expr) (scope : Scope) (cl : List (Str × Addr)) (k : Nat) (J : Nat → Heap → Prop) (G : Nat → Nat → Value → Heap → Prop) (g : Heap) (n : Nat) (P : Nat → Value → Heap → Prop) : Prop :=
  ∀ (C : Nat) i v s₃ E', g.objs.size < C → i < n → P i v s₃.heap → (∃ m, s₃.heap.Ns C m) → J C s₃.heap → C + k < s₃.heap.objs.size → (∀ b o, g.get? b = some o → s₃.heap.get? b = some o) →
      wpAny (model prg w) A (assign target (cEnv scope cl C env) v) (fun _ s₄ => wpAny (model prg w) A (eval elt (cEnv scope cl C env))
        (fun y s₅ => MovesIn C k s₃ s₅ ∧ (∃ m, s₅.heap.Ns C m) ∧ J C s₅.heap ∧ G C i y s₅.heap) E' s₄) E' s₃
structure Kind (scope : Scope) (k : Nat) (J : Nat → Heap → Prop) (G : Nat → Nat → Value → Heap → Prop) : Prop where
  hk : ∀ h, (pushCells h scope.names).objs.size = h.objs.size + k
  hJ0 : ∀ h : Heap, J h.objs.size (pushCells (h.push { cls := .type "dict", data := .dict #[] }) scope.names)
  hJk : ∀ (C : Nat) h h', J C h → (∀ (b : Nat) (o : Obj), C < b → b ≤ C + k → h.get? b = some o → h'.get? b = some o) → J C h'
  hJe : ∀ (C : Nat) h, J C h → (∃ m, h.Ns C m) → C + k < h.objs.size
  hG : ∀ (C : Nat) i y h h', G C i y h → (∀ (b : Nat) (o : Obj), C + k < b → h.get? b = some o → h'.get? b = some o) → G C i y h'
section
variable {w : World} {A : Around} {E : Value → Shared → Prop} {s : Shared} {env : Env}
theorem comp_ev {elt target iter : Expr} {scope : Scope} {pos : Pos} {cl : List (Str × Addr)} {k : Nat} {J : Nat → Heap → Prop} {G : Nat → Nat → Value → Heap → Prop} {Q : Value → Shared → Prop} (hkd : Kind scope k J G)
    (hclos : closureFor scope env = pure cl) (hkind : scope.kind = .function) (hnames : ∀ y ∈ scope.names, y.2 = .local → scope.names.lookup y.1 = some .local)
    (h : wpAny (model prg w) A (eval iter env) (fun xv s₁ => ∃ g n P, n ≤ 1000 ∧ SrcOf w A E target g xv s₁ n P ∧ Turn w A env elt target scope cl k J G g n P ∧
      (∀ (D C : Nat) h' tk ys, g.objs.size ≤ D → D < C → h'.PlainList D ys → ys.size = n → (∀ i y, ys[i]? = some y → G C i y h') → (∀ b o, g.get? b = some o → h'.get? b = some o) → Q (.ref D) { s₁ with heap := h', toks := tk })) E s)
    (hs : ∀ x, foldedSetIterable iter env x = pure x := by intro _; rfl) :
    wpAny (model prg w) A (eval (.ListComp elt [⟨target, iter, [], 0⟩] scope pos) env) Q E s := by
  rw [eval_ListComp]
  refine wpAny_comprehension_free (use := none) rfl hs hclos hkind hnames (wpAny_mono h (fun xv s₁ h₁ => ?_) fun _ _ e => e)
  obtain ⟨g, n, P, hn, hsrc, hturn, hfin⟩ := h₁
  refine hsrc _ fun I s₂ S => ?_
  obtain ⟨fp, wr, Md, St, W, hself, hfp, hst, hkeep, hle, hwr, hh, rfl⟩ := S
  have gw : ∀ b o, g.get? b = some o → b ∉ wr := fun b o e => hwr b (Heap.lt_size e)
  refine comp_block (J := J) (G := G) (RR := fun acc C => compPost (model prg w) A E none Q acc C) W hself hn hkd.hk hfp hst hkd.hJ0 hkd.hJk hkd.hJe hkd.hG
    (fun C i v s₃ E' hC hi hP hN hJ hz hk => hturn C i v s₃ E' (by have : g.objs.size ≤ hh.objs.size := hle; have : hh.objs.size < C := hC; omega) hi hP hN hJ hz fun b o e => hk b o (gw b o e) (hkeep b o e)) ?_
  intro D C h' tk m' ys hD hDC hnC hpl hyl hGs hk
  have hle' : g.objs.size ≤ hh.objs.size := hle
  have hD' : hh.objs.size ≤ D := hD
  refine ⟨m', hnC, fun h'' hs'' => hfin D C h'' tk ys (by omega) hDC (hpl.extBut hs''.extBut (ne_lt hDC)) hyl (fun i y e => hkd.hG _ _ _ _ _ (hGs i y e) fun (b : Nat) o hb e => hs''.extBut b o (ne_gt (by omega)) e) fun b o e => ?_⟩
  have hb : b < g.objs.size := Heap.lt_size e
  exact hs''.extBut b o (ne_lt (Nat.lt_of_lt_of_le hb (by omega))) (hk b o (gw b o e) (hkeep b o e))
theorem comp_as {elt target iter : Expr} {scope : Scope} {pos spos py : Pos} {y : Str} {cl : List (Str × Addr)} {k : Nat} {J : Nat → Heap → Prop} {G : Nat → Nat → Value → Heap → Prop} {Q : Flow → Shared → Prop} (hkd : Kind scope k J G)
    (hsw : swapsWith (.ListComp elt [⟨target, iter, [], 0⟩] scope pos) (some (.Name y py)) spos.line env = pure true)
    (hclos : closureFor scope env = pure cl) (hkind : scope.kind = .function) (hnames : ∀ y ∈ scope.names, y.2 = .local → scope.names.lookup y.1 = some .local)
    (hy : env.kindOf y = some .local) (hp : (env.scope.kind == .class || (env.scope.kind == .module && env.locals != env.globals)) = false)
    (h : wpAny (model prg w) A (eval iter env) (fun xv s₁ => ∃ g n P m, n ≤ 1000 ∧ SrcOf w A E target g xv s₁ n P ∧ Turn w A env elt target scope cl k J G g n P ∧ g.Ns env.locals m ∧
      (∀ (D C : Nat) h' tk ys, g.objs.size ≤ D → D < C → h'.PlainList D ys → ys.size = n → (∀ i y, ys[i]? = some y → G C i y h') → h'.Ns env.locals (fun z => if z = y then some (.ref D) else m z) →
        (∀ b o, b ≠ env.locals → g.get? b = some o → h'.get? b = some o) → Q .next { s₁ with heap := h', toks := tk })) E s)
    (hs : ∀ x, foldedSetIterable iter env x = pure x := by intro _; rfl) :
    wpAny (model prg w) A (exec (.Assign [.Name y py] (.ListComp elt [⟨target, iter, [], 0⟩] scope pos) spos) env) Q E s := by
  rw [exec_Assign_Name_used _ _ _ _ hsw]
  refine wpAny_bind (wpAny_standAt (wpAny_bind ?_))
  show wpAny _ A (do let _ ← comprehension (.ListComp elt [⟨target, iter, [], 0⟩] scope pos) scope env _ (newList []) false (eval iter env) (some (assign (.Name y py) env))) _ _ s
  refine wpAny_bind (wpAny_mono (wpAny_comprehension_free (use := some (assign (.Name y py) env)) (Q := fun _ s' => Q .next s') rfl hs hclos hkind hnames (wpAny_mono h (fun xv s₁ h₁ => ?_) fun _ _ e => e)) (fun _ s' hq => wpAny_pure (wpAny_pure hq)) fun _ _ e => e)
  obtain ⟨g, n, P, m, hn, hsrc, hturn, hL, hfin⟩ := h₁
  refine hsrc _ fun I s₂ S => ?_
  obtain ⟨fp, wr, Md, St, W, hself, hfp, hst, hkeep, hle, hwr, hh, rfl⟩ := S
  have gw : ∀ b o, g.get? b = some o → b ∉ wr := fun b o e => hwr b (Heap.lt_size e)
  refine comp_block (J := J) (G := G) (RR := fun acc C => compPost (model prg w) A E (some (assign (.Name y py) env)) (fun _ s' => Q .next s') acc C) W hself hn hkd.hk hfp hst hkd.hJ0 hkd.hJk hkd.hJe hkd.hG
    (fun C i v s₃ E' hC hi hP hN hJ hz hk => hturn C i v s₃ E' (by have : g.objs.size ≤ hh.objs.size := hle; have : hh.objs.size < C := hC; omega) hi hP hN hJ hz fun b o e => hk b o (gw b o e) (hkeep b o e)) ?_
  intro D C h' tk m' ys hD hDC hnC hpl hyl hGs hk
  have hle' : g.objs.size ≤ hh.objs.size := hle
  have hD' : hh.objs.size ≤ D := hD
  have hk' : ∀ b o, g.get? b = some o → h'.get? b = some o := fun b o e => hk b o (gw b o e) (hkeep b o e)
  have hLlt : env.locals < g.objs.size := hL.lt
  have hLD : @LT.lt Nat _ env.locals D := Nat.lt_of_lt_of_le hLlt (by omega)
  show wpAny _ A (assign (.Name y py) env (.ref D)) _ _ _
  refine wpAny_assign_Name (wpAny_storeName_local hy (hL.at' fun o e => hk' _ o e) (fun h₂ hn₂ hs₂ => ?_) hp)
  have hCL : @LT.lt Nat _ env.locals C := Nat.lt_trans hLD hDC
  refine ⟨m', hnC.sameBut hs₂ (ne_gt hCL), fun h₃ hs₃ => ?_⟩
  refine hfin D C h₃ _ ys (by omega) hDC ((hpl.extBut hs₂.extBut (ne_gt hLD)).extBut hs₃.extBut (ne_lt hDC)) hyl (fun i y e => hkd.hG _ _ _ _ _ (hGs i y e) fun (b : Nat) o hb e => hs₃.extBut b o (ne_gt (by omega)) (hs₂.extBut b o (ne_gt (Nat.lt_trans hCL (by omega))) e))
    (hn₂.sameBut hs₃ (ne_lt hCL)) fun b o hbL e => ?_
  have hb : b < g.objs.size := Heap.lt_size e
  exact hs₃.extBut b o (ne_lt (Nat.lt_of_lt_of_le hb (by omega))) (hs₂.extBut b o hbL (hk' b o e))
theorem src_list {target : Expr} {ax : Addr} {items : Array Value} (hh : A.handled = none) (hl : s.heap.IsList ax items) : SrcOf w A E target s.heap (.ref ax) s items.size (fun i v _ => items[i]? = some v) := fun Q hQ => by
  have hlt : ax < s.heap.objs.size := by obtain ⟨_, e, _⟩ := hl; exact Heap.lt_size e
  refine wpAny_pyIter_list hl (hQ _ _ ⟨_, _, _, _, KTurns.ofWalks (Walks.list hh s.heap.objs.size ax (ne_lt hlt) items) (fun i v s Q E st q => letGo_listiter st.1 q), fun s Q E st hQ => wpAny_pyIter_listiter st.1 hQ, ?_, ⟨⟨_, Heap.get?_push_size _ rfl, rfl, rfl⟩, hl.push _⟩, fun b o e => Heap.get?_push_of_some _ e, ?_, ?_, _, rfl⟩)
  · intro b hb
    show b < (s.heap.push _).objs.size
    rw [Heap.size_push]
    rcases List.mem_cons.mp hb with rfl | hb
    · exact Nat.lt_succ_self _
    · rw [List.mem_singleton.mp hb]; exact Nat.lt_succ_of_lt hlt
  · show _ ≤ (s.heap.push _).objs.size
    rw [Heap.size_push]; exact Nat.le_succ _
  · intro b hb hm
    rw [List.mem_singleton.mp hm] at hb
    exact Nat.lt_irrefl _ hb
theorem src_range {x : Str} {px : Pos} {r : Addr} {a b : Int} {t u v : Tok} {n : Nat} (hh : A.handled = none) (hr : IsRange s.heap r a b 1 t u v) (hsm : Builtin.Range.small a b 1 = true) (hn : Builtin.Range.rangeSize a b 1 = (n : Int)) :
    SrcOf w A E (.Name x px) s.heap (.ref r) s n (fun i v _ => ∃ t, v = .int (a + i) t) := fun Q hQ => by
  refine wpAny_pyIter_range hr hsm ?_
  rw [hn]
  refine hQ _ _ ⟨_, _, _, _, KTurns.ofWalks (LCg.range_walks (prog := prg) (w := w) (A := A) (I := s.heap.objs.size) hh a n) (fun i v s Q E st q => wpAny_of_eq rfl q), fun s Q E st hQ => wpAny_pyIter_rangeiter st hQ, ?_, ?_, fun b o e => Heap.get?_push_of_some _ e, ?_, ?_, _, rfl⟩
  · intro b hb
    show b < (s.heap.push _).objs.size
    rw [Heap.size_push, List.mem_singleton.mp hb]
    exact Nat.lt_succ_self _
  · show IsRangeIter _ _ (a + ((0 : Nat) : Int) * 1) ((n : Int) - ((0 : Nat) : Int)) 1
    have := Heap.get?_push_size (h := s.heap) (o := { cls := .type "range_iterator", data := .fields #[rawInt a, rawInt n, rawInt 1] }) rfl
    simpa [IsRangeIter] using this
  · show _ ≤ (s.heap.push _).objs.size
    rw [Heap.size_push]; exact Nat.le_succ _
  · intro b hb hm
    rw [List.mem_singleton.mp hm] at hb
    exact Nat.lt_irrefl _ hb
end
end Mine
end
section -- LEnter
open PySem PySem.Calls PySem.W PySem.W.X PyProof.Rows
set_option Elab.async false
set_option maxRecDepth 100000
set_option maxHeartbeats 1000000
set_option linter.unusedVariables false
namespace Mine
noncomputable def lawEnv : Env := { scope := scopeS (st 13), locals := 82, globals := mainGlobals, cells := [(Str.ofString "walk", 84), (Str.ofString "row", 83)], qual := nmS (st 13) ++ ".<locals>.", func := some 80, code := .ref 79, frame := some 82, builtins := builtinsNs }
noncomputable abbrev HT (w : World) (h : Heap) : Prop := (hd.heap_119 w.params).In h
theorem lookup_map {f : Nat → Obj} : ∀ {as : List Nat} {a : Nat} {o : Obj}, (as.map fun a => (a, f a)).lookup a = some o → a ∈ as ∧ o = f a
  | [], _, _, e => nomatch e
  | b :: as, a, o, e => by
    rw [List.map_cons, List.lookup_cons] at e
    by_cases c : a = b
    · subst c
      rw [beq_self_eq_true] at e
      cases e
      exact ⟨.head _, rfl⟩
    · rw [beq_eq_false_iff_ne.mpr c] at e
      obtain ⟨h1, h2⟩ := lookup_map (as := as) e
      exact ⟨.tail _ h1, h2⟩
theorem in_sub {K : Params → Frag} {as : List Nat} {w : World} {h : Heap} (X : HT w h) (hK : K w.params = as.map fun a => (a, gO a w.params)) (hs : (as.all fun a => ((hd.heap_119 w.params).lookup a).isSome) = true) : (K w.params).In h := fun a o e => by
  rw [hK] at e
  obtain ⟨h1, rfl⟩ := lookup_map e
  refine X _ _ ?_
  have := List.all_eq_true.mp hs a h1
  unfold gO
  cases q : (hd.heap_119 w.params).lookup a with
  | none => rw [q] at this; cases this
  | some o => rfl
noncomputable def asD : List Nat := (List.range 81).filter fun a => a != 77
noncomputable def asB : List Nat := (List.range 81).filter fun a => a != 77 && a != 46 && a != 30
theorem HT.kd {w : World} {h : Heap} (X : HT w h) : (Kd w.params).In h := in_sub (as := asD) X (by kernel_rfl) (by kernel_rfl)
theorem HT.kb {w : World} {h : Heap} (X : HT w h) : (Kb w.params).In h := in_sub (as := asB) X (by kernel_rfl) (by kernel_rfl)
theorem HT.t77 {w : World} {h : Heap} (X : HT w h) : h.get? 77 = some (tabObj #[]) := X 77 _ (by kernel_rfl)
theorem HT.t46 {w : World} {h : Heap} (X : HT w h) : h.get? 46 = some (tabObj #[]) := X 46 _ (by kernel_rfl)
theorem HT.t30 {w : World} {h : Heap} (X : HT w h) : h.get? 30 = some (tabObj #[]) := X 30 _ (by kernel_rfl)
theorem f_lawx {w : World} {h : Heap} (X : Base w h) : ∃ o pm doc, h.get? 80 = some o ∧ o.data = .func (fn 13 pm (.ref 79) doc) ∧ h.CodeRec (.ref 79) (nmS (st 13)) := ⟨_, _, _, X 80 _ rfl, rfl, 79, _, _, _, rfl, X 79 _ rfl, rfl, rfl⟩
theorem enter_law {w : World} {A : Around} {E : Value → Shared → Prop} {Q : Value → Shared → Prop} {s : Shared} (hA : Ok 31 A) (X : Base w s.heap) (hsz : s.heap.objs.size = 82)
    (h : ∀ h₁ tk, h₁.objs.size = 85 → h₁.Ns 82 (fun x => if x = Str.ofString "script" then some (.ref 81) else none) → h₁.IsCell 83 none → h₁.IsCell 84 none → (∀ b o, s.heap.get? b = some o → h₁.get? b = some o) →
      wpAny (model prg w) (As 30) (execs (bodyS (st 13)) lawEnv) (fun f s' => Q (match f with | .ret v => v | _ => .none) s') (fun _ _ => False) { s with heap := h₁, toks := tk }) :
    wpAny (model prg w) A (call (.ref 80) [.ref 81]) Q E s := by
  obtain ⟨o, pm, doc, ho, hd', hcd⟩ := f_lawx X
  refine wpAny_call (codeAny_call_function (body := bodyS (st 13)) (by have := hA.dp; show A.depth < recursionLimit; have : recursionLimit = 1000 := rfl; omega) ho hd' rfl rfl rfl hcd ?_)
  refine wpAny_of_eq (a := [(Str.ofString "script", Value.ref 81)]) rfl ?_
  simp only [newFunctionEnv, Option.isSome_none, Bool.false_eq_true, if_false]
  refine wpAny_bind (wpAny_alloc ?_)
  refine wpAny_bind (wpAny_layCells _ (fun name kind cells => by cases hkc : kind == NameKind.cell <;> simp) _ _ _ _ ?_)
  have hz : ∀ o, (s.heap.push o).objs.size = 83 := fun o => by rw [Heap.size_push, hsz]
  dsimp only
  rw [hz]
  have k1 : ∀ b o, s.heap.get? b = some o → (pushCells (s.heap.push { cls := .type "frame", data := .dict #[] }) (scopeS (st 13)).names).get? b = some o := fun b o e => pushCells_keeps _ _ _ _ (Heap.get?_push_of_some _ e)
  have n1 : (pushCells (s.heap.push { cls := .type "frame", data := .dict #[] }) (scopeS (st 13)).names).Ns 82 (fun _ => none) := by
    have := (Heap.Ns.new s.heap (.type "frame")).keeps (pushCells_keeps (scopeS (st 13)).names _)
    rwa [hsz] at this
  have e1 : pushCells (s.heap.push { cls := .type "frame", data := .dict #[] }) (scopeS (st 13)).names = ((s.heap.push { cls := .type "frame", data := .dict #[] }).push { cls := .type "cell", data := .cell none }).push { cls := .type "cell", data := .cell none } := rfl
  have c1 : (pushCells (s.heap.push { cls := .type "frame", data := .dict #[] }) (scopeS (st 13)).names).IsCell 83 none := by
    rw [e1]
    refine ⟨{ cls := .type "cell", data := .cell none }, Heap.get?_push_of_some _ ?_, rfl⟩
    have := Heap.get?_push_size (h := s.heap.push { cls := .type "frame", data := .dict #[] }) (o := { cls := .type "cell", data := .cell none }) rfl
    rwa [hz] at this
  have c2 : (pushCells (s.heap.push { cls := .type "frame", data := .dict #[] }) (scopeS (st 13)).names).IsCell 84 none := by
    rw [e1]
    refine ⟨{ cls := .type "cell", data := .cell none }, ?_, rfl⟩
    have := Heap.get?_push_size (h := (s.heap.push { cls := .type "frame", data := .dict #[] }).push { cls := .type "cell", data := .cell none }) (o := { cls := .type "cell", data := .cell none }) rfl
    rwa [Heap.size_push, hz] at this
  have z1 : (pushCells (s.heap.push { cls := .type "frame", data := .dict #[] }) (scopeS (st 13)).names).objs.size = 85 := by rw [e1, Heap.size_push, Heap.size_push, hz]
  clear e1
  show wpAny _ _ _ _ _ { s with heap := pushCells (s.heap.push { cls := .type "frame", data := .dict #[] }) (scopeS (st 13)).names }
  generalize pushCells (s.heap.push { cls := .type "frame", data := .dict #[] }) (scopeS (st 13)).names = g at *
  simp only [List.forIn_cons, List.forIn_nil]
  have fin : ∀ tk h₂, h₂.Ns 82 (fun x => if x = Str.ofString "script" then some (.ref 81) else none) → Heap.SameBut 82 g h₂ →
      h₂.NoLimit ∧ codeAny (model prg w) A (.func (bodyS (st 13)) lawEnv) (fun r s' => match r with | .ok (.ret v) => Q v s' | .ok _ => False | .error e => E e s') { s with heap := h₂, toks := tk } := fun tk h₂ hn hs => by
    have k2 : ∀ b o, s.heap.get? b = some o → h₂.get? b = some o := fun b o e => hs.extBut b o (ne_lt (Nat.lt_of_lt_of_eq (Heap.lt_size e) hsz)) (k1 b o e)
    refine ⟨(nolim X).keeps k2, codeAny_func ?_⟩
    refine Ok.run (n := 30) (hA.deeper _) ?_
    refine wpAny_mono (h h₂ tk (by rw [hs.1, z1]) hn ?_ ?_ k2) (fun f s' q => q) fun _ _ e => e.elim
    · obtain ⟨o, e, r⟩ := c1
      exact ⟨o, hs.extBut _ _ (by decide) e, r⟩
    · obtain ⟨o, e, r⟩ := c2
      exact ⟨o, hs.extBut _ _ (by decide) e, r⟩
  rw [hsz]
  refine wpAny_bind (wpAny_bind (wpAny_bind (m := storeName lawEnv _ _) (wpAny_storeName_local rfl n1 (fun h₂ hn hs => wpAny_pure (wpAny_pure (wpAny_pure ?_))))))
  exact fin _ h₂ hn hs
end Mine
end
section -- LFirst
open PySem PySem.Calls PySem.W PySem.W.X PyProof.Rows PySem.Spec
set_option Elab.async false
set_option maxRecDepth 100000
set_option maxHeartbeats 1000000
set_option linter.unusedVariables false
namespace Mine
section
variable {M : Model} {A : Around} {E : Value → Shared → Prop} {s : Shared}
theorem newCode_sz {ctx : CodeContext} {name qualname : Str} {firstLine argc posonly kwonly flags : Nat} {free : List Str} {isFunction : Bool} {l : List Str × List Str} {fd : FuncData} {Q : Value → Shared → Prop}
    (hQ : ∀ h' tk, (∀ b o, s.heap.get? b = some o → h'.get? b = some o) → h'.objs.size = s.heap.objs.size + 6 → h'.CodeRec (.ref (s.heap.objs.size + 5)) qualname → Q (.ref (s.heap.objs.size + 5)) { s with heap := h', toks := tk }) :
    wpAny M A (newCode ctx name qualname firstLine argc posonly kwonly flags free isFunction none (some l) (some fd)) Q E s := by
  unfold newCode
  refine wpAny_bind (wpAny_mkText (wpAny_bind (wpAny_mkText (wpAny_bind (wpAny_mkText (wpAny_bind (wpAny_mkStrs fun fs =>
    wpAny_bind (wpAny_newObjAsIs_type (wpAny_bind (wpAny_alloc ?_))))))))))
  generalize hH : (s.heap.push { cls := .type "tuple", dict := none, data := .seq fs.toArray }) = H
  have hz : H.objs.size = s.heap.objs.size + 1 := by rw [← hH, Heap.size_push]
  have hk : ∀ b o, s.heap.get? b = some o → H.get? b = some o := fun b o e => hH ▸ Heap.get?_push_of_some _ e
  refine wpAny_bind (wpAny_mkStrs fun a => wpAny_bind (wpAny_newObjAsIs_type (wpAny_bind (wpAny_mkStrs fun b => wpAny_bind (wpAny_newObjAsIs_type
    (wpAny_bind (wpAny_bind (wpAny_alloc (wpAny_pure (wpAny_bind (wpAny_fresh (wpAny_bind (wpAny_mkText (wpAny_newObj_type ?_ (by size_fits)))))))))))))))
  dsimp only
  have hsz : ∀ (o1 o2 o3 o4 : Obj), ((((H.push o1).push o2).push o3).push o4).objs.size = s.heap.objs.size + 5 := fun o1 o2 o3 o4 => by simp only [Heap.size_push, hz]
  rw [hsz]
  have gs : ∀ (h : Heap) (o : Obj) (n : Nat), h.objs.size = n → o.isFreed = false → (h.push o).get? n = some o := by
    rintro h o _ rfl hf
    exact Heap.get?_push_size h hf
  refine hQ _ _ (fun b o e => Heap.get?_push_of_some _ (Heap.get?_push_of_some _ (Heap.get?_push_of_some _ (Heap.get?_push_of_some _ (Heap.get?_push_of_some _ (hk b o e)))))) (by rw [Heap.size_push, hsz]) ?_
  exact ⟨_, _, _, _, rfl, gs _ _ _ (hsz _ _ _ _) rfl, rfl, rfl⟩
theorem functionCode_sz {env : Env} {c P : Addr} {ps : Array Value} {pos : Pos} {firstLine : Nat} {name qualname : Str} {p : Arguments} {scope : Scope} {body : FuncBody} {l : List Str × List Str}
    {Q : Value → Shared → Prop} (hc : env.code = .ref c) (hok : s.heap.IsCode c P ps) (hP : s.heap.get? P = some (tabObj ps)) (hnf : codeAmong pos ps.toList = none) (hl : localNames p scope body = some l)
    (hQ : ∀ h' tk, Heap.ExtBut P s.heap h' → h'.objs.size = s.heap.objs.size + 6 → h'.CodeRec (.ref (s.heap.objs.size + 5)) qualname →
      h'.get? P = some (tabObj (ps ++ #[rawInt pos.line, rawInt pos.col, .ref (s.heap.objs.size + 5)])) → Q (.ref (s.heap.objs.size + 5)) { s with heap := h', toks := tk }) :
    wpAny M A (functionCode env pos firstLine name qualname p scope body) Q E s := by
  obtain ⟨o, vs, file, tf, flags, tg, inF, text, tt, op, ho, hd, h11, h2, h7, h9, h10, hop, hpd, htr, hne⟩ := id hok
  unfold functionCode codeAt
  rw [hc, if_neg (show ¬ ((Value.ref c == Value.none) = true) from Bool.false_ne_true), hl]
  refine wpAny_bind (wpAny_fieldsOf ho hd ?_)
  rw [h11]
  refine wpAny_bind (wpAny_fieldsOf hop hpd ?_)
  rw [hnf, h2, h7, h9, h10]
  refine wpAny_bind (newCode_sz fun h' tk hk hsz hrec' => ?_)
  have hop' := hk _ _ hop
  refine wpAny_bind (wpAny_updateFieldsOfTheText hop' hpd ?_)
  have hnew : (Obj.mapFields (fun vs => if (codeAmong pos vs.toList).isSome = true then vs else vs ++ #[rawInt pos.line, rawInt pos.col, .ref (s.heap.objs.size + 5)]) op).data =
      .fields (ps ++ #[rawInt pos.line, rawInt pos.col, .ref (s.heap.objs.size + 5)]) := by
    rw [Obj.data_mapFields hpd, hnf]; rfl
  have hget := Heap.get?_update_self (h := h') (fun o => Obj.mapFields (fun vs => if (codeAmong pos vs.toList).isSome = true then vs else
    vs ++ #[rawInt pos.line, rawInt pos.col, .ref (s.heap.objs.size + 5)]) o) hop' (Obj.isFreed_of_fields hnew)
  refine wpAny_bind (wpAny_fieldsOf hget hnew ?_)
  have hl : (ps ++ #[rawInt pos.line, rawInt pos.col, Value.ref (s.heap.objs.size + 5)]).toList = ps.toList ++ [rawInt pos.line, rawInt pos.col, .ref (s.heap.objs.size + 5)] := by simp
  rw [hl, codeAmong_snoc _ htr hnf]
  have hcP : s.heap.objs.size + 5 ≠ P := Nat.ne_of_gt (Nat.lt_of_lt_of_le (Heap.lt_size hop) (Nat.le_add_right _ _))
  have e1 : op = tabObj ps := Option.some.inj (hop.symm.trans hP)
  refine wpAny_pure (hQ _ _ (fun b o' hb e => ((Heap.SameBut.update ..).extBut b o' hb (hk b o' e))) (by rw [Heap.size_after_update]; exact hsz) ?_ ?_)
  · obtain ⟨c₂, o₂, vs₂, t₂, e₂, g₂, r₂⟩ := hrec'
    cases e₂
    exact ⟨_, o₂, vs₂, t₂, rfl, (Heap.SameBut.update ..).extBut _ _ hcP g₂, r₂⟩
  · rw [hget, e1]
    simp only [Obj.mapFields, hnf]
    rfl
end
theorem code_79 {w : World} {h : Heap} (X : Base w h) : CodeHd h 79 77 := ⟨_, _, _, _, _, _, _, _, _, X 79 _ rfl, rfl, rfl, rfl, rfl, rfl, rfl, rfl, rfl, by decide⟩
noncomputable def names1 : List Str × List Str := (localNames (lamArgs lam1) (lamScope lam1) (.expr (lamBody lam1))).getD default
noncomputable def ent1 : Array Value := #[rawInt 77, rawInt 21, .ref 90]
theorem lam1_make {w : World} {A : Around} {E : Value → Shared → Prop} {s : Shared} {Q : Value → Shared → Prop} (X : Base w s.heap) (h77 : s.heap.get? 77 = some (tabObj #[])) (hsz : s.heap.objs.size = 85)
    (hQ : ∀ h' tk, Heap.ExtBut 77 s.heap h' → h'.objs.size = 92 → Lam1 h' → h'.get? 77 = some (tabObj ent1) → Q (.ref 91) { s with heap := h', toks := tk }) :
    wpAny (model prg w) A (eval lam1 lawEnv) Q E s := by
  show wpAny (model prg w) A (eval (.Lambda (lamArgs lam1) (lamBody lam1) (lamScope lam1) lam1.pos) lawEnv) Q E s
  refine kla_eval rfl ?_
  rw [makeFunction_eq]
  simp only [List.zip_nil_right, List.filterMap_nil, List.isEmpty_nil, if_true, pure_bind]
  obtain ⟨bm, ob, hbm, hne0, _, hneP, hbo, hcls, hdict, hdata⟩ := bm_at (P := 77) X (by decide)
  unfold makeTail
  have hcl : closureFor (lamScope lam1) lawEnv = pure [] := rfl
  rw [hcl]
  refine wpAny_bind (wpAny_pure ?_)
  simp only [List.isEmpty_nil, if_true]
  refine wpAny_bind (wpAny_pure ?_)
  refine wpAny_bind (functionCode_sz (l := names1) rfl ((code_79 X).code h77 trivial) h77 rfl (by kernel_rfl) fun h' tk hx hs' hrec htb => ?_)
  have hg' : h'.Ns mainGlobals (mgP w.params) := (glob X).extBut hx (by decide)
  refine wpAny_bind (wpAny_builtinsFor hg' hbm hne0 (hx _ _ hneP hbo) hcls hdict hdata ?_)
  refine wpAny_bind (wpAny_nsGet hg' ?_)
  refine wpAny_bind (wpAny_pure (wpAny_newObj_type ?_ (by size_fits)))
  have hz : h'.objs.size = 91 := by rw [hs', hsz]
  rw [hsz] at hrec htb
  rw [hz, hsz]
  refine hQ _ _ (fun b o hb e => Heap.get?_push_of_some _ (hx b o hb e)) (by rw [Heap.size_push, hz]) ?_ (Heap.get?_push_of_some _ htb)
  obtain ⟨c, o, vs, t, e, ho, r⟩ := hrec
  refine ⟨((mgP w.params "__name__").getD .none), .none, ?_, c, o, vs, t, e, Heap.get?_push_of_some _ ho, r⟩
  have hp := Heap.get?_push_size (h := h') (o := kla_obj (Str.ofString "<lambda>") qLaw (lamArgs lam1) (lamBody lam1) (lamScope lam1) [] ((mgP w.params "__name__").getD .none) 90 .none) rfl
  rw [hz] at hp
  exact hp
theorem fn_35 {w : World} {h : Heap} (X : Base w h) : FnAt 35 h := ⟨_, _, _, _, X 35 _ rfl⟩
noncomputable def stL (i : Nat) : Stmt := (bodyS (st 13)).getD i default
/-- what stands while the law's body runs -/
structure LS (w : World) (s₁ s : Shared) (m : Str → Option Value) (cr cw : Option Value) (e77 : Array Value) : Prop where
  sh : ∃ h tk, s = { s₁ with heap := h, toks := tk }
  ns : s.heap.Ns 82 m
  row : s.heap.IsCell 83 cr
  wlk : s.heap.IsCell 84 cw
  keep : ∀ b o, b ≠ 77 → b ≠ 46 → b ≠ 30 → s₁.heap.get? b = some o → s.heap.get? b = some o
  t46 : T46 s.heap
  t77 : s.heap.get? 77 = some (tabObj e77)
  t30 : ∃ ps, s.heap.get? 30 = some (tabObj ps)
  kf : ∃ H t, (KF H t).In s.heap
  lam : Lam1 s.heap
  z1 : s₁.heap.objs.size = 82
theorem LS.base {w : World} {s₁ s : Shared} {m : Str → Option Value} {cr cw : Option Value} {e77 : Array Value} (x : LS w s₁ s m cr cw e77) (X : Base w s₁.heap) : Base w s.heap := fun a o e => by
  have n77 : a ≠ 77 := by rintro rfl; rw [show (Kb w.params).lookup 77 = none from rfl] at e; cases e
  have n46 : a ≠ 46 := by rintro rfl; rw [show (Kb w.params).lookup 46 = none from rfl] at e; cases e
  have n30 : a ≠ 30 := by rintro rfl; rw [show (Kb w.params).lookup 30 = none from rfl] at e; cases e
  exact x.keep a o n77 n46 n30 (X a o e)
theorem st0 {w : World} {E : Value → Shared → Prop} {s₁ s : Shared} {Q : Flow → Shared → Prop} (X : HT w s₁.heap) (hgens : s₁.gens = #[]) (hsz₁ : s₁.heap.objs.size = 82) (hs : ∃ h tk, s = { s₁ with heap := h, toks := tk }) (hsz : s.heap.objs.size = 85)
    (hn : s.heap.Ns 82 (fun x => if x = Str.ofString "script" then some (.ref 81) else none)) (h83 : s.heap.IsCell 83 none) (h84 : s.heap.IsCell 84 none) (hk : ∀ b o, s₁.heap.get? b = some o → s.heap.get? b = some o)
    (h : ∀ s', LS w s₁ s' (fun y => if y = Str.ofString "key" then some (.ref 152) else if y = Str.ofString "script" then some (.ref 81) else none) none none ent1 → Q .next s') :
    wpAny (model prg w) (As 30) (exec (stL 0) lawEnv) Q E s := by
  have Xs : HT w s.heap := fun a o e => hk _ _ (X a o e)
  change wpAny _ _ (exec (.Assign [_] _ _) _) _ _ _
  iterate 2 walk1
  refine gname (w := w) Xs.kb (g_cmp _) ?_
  refine callWith_F (fn_35 (w := w) Xs.kb) ?_
  iterate 1 walk1
  refine lam1_make (w := w) Xs.kb Xs.t77 hsz fun h₁ tk₁ hx hz₁ hlam h77 => ?_
  iterate 1 walk1
  have k1 : ∀ b o, b ≠ 77 → s.heap.get? b = some o → h₁.get? b = some o := fun b o hb e => hx b o hb e
  have Xd : (Kd w.params).In h₁ := fun a o e => k1 a o (by rintro rfl; rw [show (Kd w.params).lookup 77 = none from rfl] at e; cases e) (Xs.kd a o e)
  have Xb : Base w h₁ := fun a o e => k1 a o (by rintro rfl; rw [show (Kb w.params).lookup 77 = none from rfl] at e; cases e) (Xs.kb a o e)
  refine ⟨fn_35 (w := w) Xb, ?_⟩
  obtain ⟨hh, tkk, rfl⟩ := hs
  refine wpAny_mono (cmp_run (w := w) (s := { s₁ with heap := h₁, toks := tk₁ }) Xd hz₁ hgens) (fun v s' hp => ?_) fun _ _ e => e.elim
  obtain ⟨rfl, h₂, tk₂, rfl, hz₂, k2, ⟨ps30, e30⟩, H, hkf⟩ := hp
  have hz : hh.objs.size = 85 := hsz
  have n2 : h₂.Ns 82 (fun x => if x = Str.ofString "script" then some (.ref 81) else none) := hn.at' fun o e => k2 _ o (by decide) (k1 _ o (by decide) e)
  refine wpAny_storeName_local rfl n2 (fun h₃ hn₃ hs₃ => ?_) rfl
  have k3 : ∀ b o, b ≠ 82 → h₂.get? b = some o → h₃.get? b = some o := fun b o hb e => hs₃.extBut b o hb e
  have k : ∀ b o, b ≠ 82 → b ≠ 77 → b ≠ 30 → hh.get? b = some o → h₃.get? b = some o := fun b o a1 a2 a3 e => k3 b o a1 (k2 b o a3 (k1 b o a2 e))
  refine h _ ⟨⟨h₃, _, rfl⟩, hn₃, ?_, ?_, ?_, ?_, ?_, ?_, ?_, ?_, hsz₁⟩
  · obtain ⟨o, e, r⟩ := h83
    exact ⟨o, k _ _ (by decide) (by decide) (by decide) e, r⟩
  · obtain ⟨o, e, r⟩ := h84
    exact ⟨o, k _ _ (by decide) (by decide) (by decide) e, r⟩
  · intro b o a1 a2 a3 e
    have hb : b < s₁.heap.objs.size := Heap.lt_size e
    exact k b o (ne_lt (Nat.lt_of_lt_of_eq hb hsz₁)) a1 a3 (hk b o e)
  · exact ⟨#[], k _ _ (by decide) (by decide) (by decide) Xs.t46, .inl rfl⟩
  · exact k3 _ _ (by decide) (k2 _ _ (by decide) h77)
  · exact ⟨ps30, k3 _ _ (by decide) e30⟩
  · refine ⟨H, tk₁, fun a o e => k3 a o ?_ (hkf a o e)⟩
    rintro rfl
    rw [show (KF H tk₁).lookup 82 = none from rfl] at e
    cases e
  · obtain ⟨pm, ctv, e, c, o, vs, t, e', ho, r⟩ := hlam
    cases e'
    exact ⟨pm, ctv, k3 _ _ (by decide) (k2 _ _ (by decide) e), 90, o, vs, t, rfl, k3 _ _ (by decide) (k2 _ _ (by decide) ho), r⟩
end Mine
end
section -- LMath2
open PySem PySem.W PySem.W.X PyProof.Rows
set_option Elab.async false
set_option maxRecDepth 100000
set_option linter.unusedVariables false
namespace Mine
theorem rankN_rec (n : Nat) : rankN n = n ^^^ rankN (n / 2) := by
  by_cases h : n = 0
  · subst h; simp [rankN_zero]
  · exact rankN_pos h
theorem rankN_half (n : Nat) : rankN n / 2 = rankN (n / 2) := by
  induction n using Nat.strongRecOn with
  | ind n ih =>
    by_cases h : n = 0
    · subst h; simp [rankN_zero]
    · rw [rankN_pos h, Nat.xor_div_two, ih (n / 2) (by omega)]
      exact (rankN_rec (n / 2)).symm
theorem rankN_shift (p n : Nat) : rankN n / 2 ^ p = rankN (n / 2 ^ p) := by
  induction p generalizing n with
  | zero => simp
  | succ p ih => rw [Nat.pow_succ', ← Nat.div_div_eq_div_mul, rankN_half, ih, Nat.div_div_eq_div_mul]
theorem rankN_par (n : Nat) : rankN n % 2 = (n % 2 + rankN (n / 2) % 2) % 2 := by
  have e := rankN_rec n
  have e3 : (n ^^^ rankN (n / 2)) % 2 = 1 ↔ ¬ (n % 2 = 1 ↔ rankN (n / 2) % 2 = 1) := Nat.xor_mod_two_eq_one
  rw [← e] at e3
  by_cases p : n % 2 = 1 <;> by_cases q : rankN (n / 2) % 2 = 1 <;> simp [p, q] at e3 <;> omega
theorem rankN_inj {a b : Nat} (h : rankN a = rankN b) : a = b := by
  induction a using Nat.strongRecOn generalizing b with
  | ind a ih =>
    have h2 : rankN (a / 2) = rankN (b / 2) := by rw [← rankN_half, ← rankN_half, h]
    by_cases ha : a = 0
    · subst ha
      rw [rankN_zero] at h
      by_cases hb : b = 0
      · exact hb.symm
      · exfalso
        have hs : ∀ n : Nat, n ≠ 0 → rankN n ≠ 0 := by
          intro n
          induction n using Nat.strongRecOn with
          | ind n ihn =>
            intro hn e
            have e2 := rankN_half n
            have e3 := rankN_par n
            rw [e] at e2 e3
            by_cases h1 : n / 2 = 0
            · rw [h1, rankN_zero] at e3
              omega
            · exact ihn (n / 2) (by omega) h1 (by omega)
        exact hs b hb h.symm
    · have h3 := ih (a / 2) (by omega) h2
      have p1 := rankN_par a
      have p2 := rankN_par b
      rw [h, h2] at p1
      omega
/-- the parity of the ones, by turns -/
noncomputable def parF (c : Nat) (x : Nat) (l : List Nat) : Nat := l.foldl (fun x i => x ^^^ (c / 2 ^ i) % 2) x
theorem xor_bits (x y : Nat) (hx : x < 2) (hy : y < 2) : x ^^^ y = (x + y) % 2 := by
  have h1 : x = 0 ∨ x = 1 := by omega
  have h2 : y = 0 ∨ y = 1 := by omega
  rcases h1 with rfl | rfl <;> rcases h2 with rfl | rfl <;> rfl
theorem parF_range (m : Nat) : ∀ c x, x < 2 → c < 2 ^ m → parF c x (List.range m) = (x + rankN c % 2) % 2 := by
  induction m with
  | zero =>
    intro c x hx hc
    have : c = 0 := by omega
    subst this
    simp [parF, rankN_zero]
    omega
  | succ m ih =>
    intro c x hx hc
    have e : parF c x (List.range (m + 1)) = parF (c / 2) (x ^^^ c % 2) (List.range m) := by
      unfold parF
      rw [List.range_succ_eq_map, List.foldl_cons, List.foldl_map]
      simp only [Nat.pow_zero, Nat.div_one]
      congr 1
      funext y i
      rw [Nat.pow_succ', ← Nat.div_div_eq_div_mul]
    have hx2 : x ^^^ c % 2 = (x + c % 2) % 2 := xor_bits _ _ hx (Nat.mod_lt _ (by decide))
    rw [e, hx2, ih (c / 2) _ (Nat.mod_lt _ (by decide)) (by rw [Nat.pow_succ'] at hc; omega), rankN_par c]
    omega
theorem and_one (n : Nat) : n &&& 1 = n % 2 := Nat.and_one_is_mod n
theorem g2_nat (a x k : Nat) : g2 a x k = ((x ^^^ (a / 2 ^ k) % 2 : Nat) : Int) := by
  unfold g2
  rw [Int.toNat_natCast, fdiv_pow, show (1 : Int) = ((1 : Nat) : Int) from rfl, bitAnd_nat, bitXor_nat, and_one]
theorem fold_nat (a p : Nat) : ∀ (l : List Nat) (x : Nat), l.foldl (fun (x : Int) (i : Nat) => g2 a x ((p : Int) + 1 + (i : Nat))) (x : Int) = ((parF (a / 2 ^ (p + 1)) x l : Nat) : Int) := by
  intro l
  induction l with
  | nil => intro x; rfl
  | cons i l ih =>
    intro x
    rw [List.foldl_cons, show (p : Int) + 1 + (i : Nat) = ((p + 1 + i : Nat) : Int) by omega, g2_nat, ih]
    unfold parF
    have e : a / 2 ^ (p + 1 + i) = a / 2 ^ (p + 1) / 2 ^ i := by rw [Nat.pow_add, Nat.div_div_eq_div_mul]
    rw [List.foldl_cons, e]
theorem log_bits (a : Nat) : Builtin.Int.intBits (a : Int) = ((if a = 0 then 0 else a.log2 + 1 : Nat) : Int) := by
  rw [intBits_nat]; try (split <;> rfl)
theorem lt_bits (a : Nat) : a < 2 ^ (if a = 0 then 0 else a.log2 + 1) := by
  split
  · omega
  · exact Nat.lt_log2_self
theorem odd_nat (a p : Nat) : oddV a p = ((rankN (a / 2 ^ (p + 1)) % 2 : Nat) : Int) := by
  unfold oddV
  have e0 := fold_nat a p (List.range (Builtin.Range.rangeSize ((p : Int) + 1) (hb a + 1) 1).toNat) 0
  rw [show ((0 : Nat) : Int) = 0 from rfl] at e0
  rw [e0, parF_range _ _ _ (by decide)]
  · congr 1; omega
  · have hbb := lt_bits a
    unfold hb
    rw [rangeSize_one, log_bits]
    generalize (if a = 0 then 0 else a.log2 + 1) = m at *
    split
    · rename_i hlt
      have e : (((m : Int) - 1 + 1 - ((p : Int) + 1)).toNat) = m - (p + 1) := by omega
      first
        | rw [e]
          rw [Nat.div_lt_iff_lt_mul (Nat.two_pow_pos _), ← Nat.pow_add]
          have : m - (p + 1) + (p + 1) = m := by omega
          rw [this]; exact hbb
    · rename_i hlt
      rw [Nat.div_lt_iff_lt_mul (Nat.two_pow_pos _)]
      have : 2 ^ m ≤ 2 ^ (p + 1) := Nat.pow_le_pow_right (by decide) (by omega)
      simp
      omega
theorem turn_lt {a b : Nat} : turnV a b < 0 ↔ rankN a < rankN b := by
  unfold turnV
  rw [bitXor_nat]
  by_cases hx : a ^^^ b = 0
  · have hab : a = b := by
      have := congrArg (· ^^^ b) hx
      simpa [Nat.xor_assoc] using this
    subst hab
    have e : hb ((a ^^^ a : Nat) : Int) < 0 := by unfold hb; rw [intBits_nat]; simp
    rw [if_pos e]
    simp
  · have hp : hb ((a ^^^ b : Nat) : Int) = ((a ^^^ b).log2 : Int) := by unfold hb; rw [intBits_nat, if_neg hx]; omega
    rw [hp, if_neg (by omega), Int.toNat_natCast, fdiv_pow]
    generalize hpp : (a ^^^ b).log2 = p
    -- above the place the numbers agree, at it they differ
    have h1 : (a ^^^ b) / 2 ^ p = 1 := by
      have l1 := Nat.log2_self_le hx
      have l2 : a ^^^ b < 2 ^ ((a ^^^ b).log2 + 1) := Nat.lt_log2_self
      rw [hpp] at l1 l2
      have : 0 < 2 ^ p := Nat.two_pow_pos p
      rw [Nat.pow_succ] at l2
      have q1 : 1 ≤ (a ^^^ b) / 2 ^ p := (Nat.le_div_iff_mul_le this).mpr (by omega)
      have q2 : (a ^^^ b) / 2 ^ p < 2 := (Nat.div_lt_iff_lt_mul this).mpr (by omega)
      omega
    have h2 : a / 2 ^ p ^^^ b / 2 ^ p = 1 := by rw [← h1, Nat.xor_div_two_pow]
    rw [odd_nat, show (1 : Int) = ((1 : Nat) : Int) from rfl, bitAnd_nat, bitXor_nat, and_one]
    have d1 : a / 2 ^ (p + 1) = a / 2 ^ p / 2 := by rw [Nat.pow_succ, Nat.div_div_eq_div_mul]
    have ra := rankN_shift p a
    have rb := rankN_shift p b
    rw [d1]
    generalize hA : a / 2 ^ p = A at *
    generalize hB : b / 2 ^ p = B at *
    have h3 : A / 2 = B / 2 := by
      have : (A ^^^ B) / 2 = 0 := by rw [h2]
      rw [Nat.xor_div_two] at this
      have e := congrArg (· ^^^ B / 2) this
      simpa [Nat.xor_assoc] using e
    have h4 : (A ^^^ B) % 2 = 1 := by rw [h2]
    have h5 := Nat.xor_mod_two_eq_one.mp h4
    have pA := rankN_par A
    have pB := rankN_par B
    have qA := rankN_half A
    have qB := rankN_half B
    rw [h3] at pA qA ⊢
    have hx2 : A % 2 ^^^ rankN (B / 2) % 2 = (A % 2 + rankN (B / 2) % 2) % 2 := xor_bits _ _ (Nat.mod_lt _ (by decide)) (Nat.mod_lt _ (by decide))
    rw [hx2, ← pA]
    have key : rankN A < rankN B ↔ rankN A % 2 = 0 := by omega
    have two : 0 < 2 ^ p := Nat.two_pow_pos p
    have big : rankN a < rankN b ↔ rankN A < rankN B := by
      rw [← ra, ← rb]
      constructor
      · intro h
        have := Nat.div_le_div_right (c := 2 ^ p) (Nat.le_of_lt h)
        rw [ra, rb] at this ⊢
        omega
      · intro h
        exact Nat.lt_of_not_le fun q => by
          have := Nat.div_le_div_right (c := 2 ^ p) q
          omega
    rw [big, key]
    omega
end Mine
end
section -- LSt1
open PySem PySem.Calls PySem.W PySem.W.X PyProof.Rows PySem.Spec
set_option Elab.async false
set_option maxRecDepth 100000
set_option maxHeartbeats 1000000
set_option linter.unusedVariables false
namespace Mine
section
variable {w : World} {A : Around} {E : Value → Shared → Prop} {s : Shared} {env : Env}
theorem add_raw {l b : Addr} {vs ws : List Value} {Q : Value → Shared → Prop} (hl : s.heap.IsList l vs.toArray) (hb : s.heap.IsList b ws.toArray)
    (h : Q (.ref s.heap.objs.size) { s with heap := s.heap.push { cls := .type "list", data := .seq (vs ++ ws).toArray } }) (hsz : vs.length + ws.length ≤ sizeLine) :
    wpAny (model prg w) A (binaryOp .Add (.ref l) (.ref b)) Q E s := by
  obtain ⟨⟨cls, dd, data, sl⟩, ho, hc, n, hd⟩ := id hl
  obtain ⟨⟨cls2, dd2, data2, sl2⟩, ho2, hc2, n2, hd2⟩ := id hb
  simp only at hc hd hc2 hd2
  subst hc hd hc2 hd2
  have e : vs.toArray ++ ws.toArray = (vs ++ ws).toArray := by simp
  refine concat_meets ⟨_, ho, rfl⟩ ⟨_, ho2, rfl⟩ noFill_list_add seq_list_add PySem.F.slot_list_add PySem.F.entry_list_add (PySem.F.args_list_add_2 _ _) (list_addW l b vs.toArray ws.toArray n n2 dd dd2 sl sl2 (by simpa using hsz)) ⟨ho, ho2, ?_⟩
  rw [e]
  exact h
theorem pow2 {k : Nat} {t u : Tok} {Q : Value → Shared → Prop} (hk : k ≤ 64) (h : ∀ tk u', Q (.int (2 ^ k) u') { s with toks := tk }) : wpAny (model prg w) A (binaryOp .Pow (.int 2 t) (.int (k : Int) u)) Q E s := by
  by_cases h0 : k = 0
  · subst h0
    exact PySem.AutoIntOps.pow_0 (by decide) rfl (h _ _)
  · refine PySem.AutoIntOps.pow_4 (by omega) ?_ (by decide) (by decide) ?_ ?_
    · rw [beq_iff_eq]; omega
    · unfold Builtin.Int.intTooBig
      rw [show (Builtin.Int.intBits 2 : Nat) = 2 from rfl, bitsLine_eq]
      simp
      omega
    · rw [Int.toNat_natCast]
      exact h _ _
theorem src_enum {elts : List Expr} {k : Nat} {pos : Pos} {e it l : Addr} {items : Array Value} {g : Heap} (hh : A.handled = none) (he : IsEnum s.heap e it 0 .none) (hi : s.heap.IsListIter it l 0) (hl : s.heap.IsList l items) (hei : e ≠ it) (hle : l ≠ e) (hli : l ≠ it)
    (hk : ∀ b o, g.get? b = some o → s.heap.get? b = some o) (hg1 : g.objs.size ≤ e) (hg2 : g.objs.size ≤ it) :
    SrcOf w A E (.Tuple elts k pos) g (.ref e) s items.size (fun i v h => ∃ T vals, v = .ref T ∧ (∃ t x, items[i]? = some x ∧ vals = #[.int i t, x]) ∧ h.IsTuple T vals) := fun Q hQ => by
  refine wpAny_pyIter_enum he (hQ _ _ ⟨_, _, _, _, KTurns.ofWalksU (WalksT.enumerate (prog := prg) (w := w) (A := A) hh e it l hei hle hli items).toU, fun s Q E st hQ => ?_, ?_, ⟨⟨.none, he⟩, hi, hl⟩, hk, ?_, ?_, s.heap, rfl⟩)
  · obtain ⟨⟨old, he'⟩, _⟩ := st
    exact wpAny_pyIter_enum he' hQ
  · intro b hb
    have l1 : e < s.heap.objs.size := Heap.lt_size he
    have l2 : it < s.heap.objs.size := by obtain ⟨_, x, _⟩ := hi; exact Heap.lt_size x
    have l3 : l < s.heap.objs.size := by obtain ⟨_, x, _⟩ := hl; exact Heap.lt_size x
    rcases List.mem_cons.mp hb with rfl | hb
    · exact l1
    · rcases List.mem_cons.mp hb with rfl | hb
      · exact l2
      · rw [List.mem_singleton.mp hb]; exact l3
  · have l1 : e < s.heap.objs.size := Heap.lt_size he
    exact Nat.le_of_lt (Nat.lt_of_le_of_lt hg1 l1)
  · intro b hb hm
    rcases List.mem_cons.mp hm with rfl | hm
    · exact absurd hb (Nat.not_lt.mpr hg1)
    · rw [List.mem_singleton.mp hm] at hb; exact absurd hb (Nat.not_lt.mpr hg2)
/-- a local name of a comprehension's frame -/
theorem cLoc {x : Str} {pos : Pos} {v : Value} {m : Str → Option Value} {Q : Value → Shared → Prop} (hn : s.heap.Ns env.locals m) (hv : m x = some v) (h : Q v s) (hk : env.scope.kind = .function := by rfl) (hl : env.kindOf x = some .local := by rfl) (hd : (x == ("__debug__" : Str)) = false := by decide) :
    wpAny (model prg w) A (eval (.Name x pos) env) Q E s := wpAny_Name (wpAny_loadName_local hk hl hn hv h) hd
theorem cStore {x : Str} {v : Value} {m : Str → Option Value} {Q : Unit → Shared → Prop} (hn : s.heap.Ns env.locals m) (h : ∀ h', h'.Ns env.locals (fun y => if y = x then some v else m y) → Heap.SameBut env.locals s.heap h' → Q () { s with heap := h', toks := s.toks + 1 })
    (hk : env.scope.kind = .function := by rfl) (hl : env.kindOf x = some .local := by rfl) : wpAny (model prg w) A (storeName env x v) Q E s :=
  wpAny_storeName_local hl hn h (by rw [hk]; rfl)
theorem kind0 {scope : Scope} {G : Nat → Nat → Value → Heap → Prop} (hp : ∀ h, pushCells h scope.names = h) (hG : ∀ (C : Nat) i y h h', G C i y h → (∀ (b : Nat) (o : Obj), C + 0 < b → h.get? b = some o → h'.get? b = some o) → G C i y h') : Kind scope 0 (fun _ _ => True) G where
  hk := fun h => by rw [hp]; rfl
  hJ0 := fun _ => trivial
  hJk := fun _ _ _ _ _ => trivial
  hJe := fun C h _ ⟨m, hn⟩ => hn.lt
  hG := hG
end
noncomputable def cmpV : Stmt → Expr | .Assign _ e _ => e | _ => default
noncomputable def c1 : Expr := cmpV (stL 1)
noncomputable def cElt : Expr → Expr | .ListComp e _ _ _ => e | _ => default
noncomputable def cTgt : Expr → Expr | .ListComp _ (g :: _) _ _ => g.target | _ => default
noncomputable def cItr : Expr → Expr | .ListComp _ (g :: _) _ _ => g.iter | _ => default
noncomputable def cScp : Expr → Scope | .ListComp _ _ s _ => s | _ => default
noncomputable def num1 (xs : List Int) (i : Nat) : Nat := ((xs.getD i 0) % 2 ^ 24).toNat
noncomputable def G1 (xs : List Int) (C i : Nat) (y : Value) (h : Heap) : Prop := ∃ (T : Nat) (t u : Tok), y = .ref T ∧ C < T ∧ h.IsList T #[.int (num1 xs i) t, .int i u]
theorem kind1 (xs : List Int) : Kind (cScp c1) 0 (fun _ _ => True) (G1 xs) := kind0 (fun h => rfl) (by
  rintro C i y h h' ⟨T, t, u, rfl, hT, l⟩ hk
  exact ⟨T, t, u, rfl, hT, l.at fun o e => hk T o hT e⟩)
theorem ints_get : ∀ {vs : List Value} {ns : List Int}, IntsAre vs ns → ∀ {i : Nat} {v : Value}, vs[i]? = some v → ∃ n, ns[i]? = some n ∧ ∃ t, v = .int n t
  | _, _, .nil, i, v, e => by simp at e
  | _, _, .cons n t r, 0, v, e => by simp at e; exact ⟨n, rfl, t, e.symm⟩
  | _, _, .cons n t r, i + 1, v, e => by simpa using ints_get r (i := i) (by simpa using e)
theorem turn1 {w : World} {A : Around} {g : Heap} {xs : List Int} {items : Array Value} (hh : A.handled = none) (hi : IntsAre items.toList xs) (hn : items.size ≤ 100) :
    Turn w A lawEnv (cElt c1) (cTgt c1) (cScp c1) [] 0 (fun _ _ => True) (G1 xs) g items.size (fun i v h => ∃ T vals, v = .ref T ∧ (∃ t x, items[i]? = some x ∧ vals = #[.int i t, x]) ∧ h.IsTuple T vals) := by
  rintro C i v s₃ E' hC hlt ⟨T, vals, rfl, ⟨t, x, hx, rfl⟩, hT⟩ ⟨m, hm⟩ _ hz hk
  obtain ⟨n, u, rfl, hxn⟩ : ∃ n u, x = .int n u ∧ xs.getD i 0 = n := by
    have hx' : items.toList[i]? = some x := by simpa using hx
    obtain ⟨n, hn', t', rfl⟩ := ints_get hi hx'
    exact ⟨n, t', rfl, by rw [List.getD_eq_getElem?_getD, hn']; rfl⟩
  obtain ⟨h0, ge, dr, tk0, os⟩ := s₃
  dsimp only at hT hm hz hk
  change wpAny _ _ (assign (.Tuple [_, _] _ _) _ _) _ _ _
  refine assign_Tuple_tuple hh hT rfl rfl fun h₁ he₁ => ?_
  dsimp only at he₁
  have k1 : ∀ b o, h0.get? b = some o → h₁.get? b = some o := fun b o e => he₁ b o (ne_lt (Heap.lt_size e)) e
  refine assignInOrder_cons (wpAny_assign_Name (cStore (env := cEnv (cScp c1) [] C lawEnv) (hm.at' fun o e => k1 _ o e) fun h₂ hn₂ hs₂ => ?_))
  refine assignInOrder_cons (wpAny_assign_Name (cStore (env := cEnv (cScp c1) [] C lawEnv) hn₂ fun h₃ hn₃ hs₃ => ?_))
  refine assignInOrder_nil ?_
  change wpAny _ _ (eval (.List [_, _] _) _) _ _ _
  refine List_ ?_
  iterate 2 walk1
  refine cLoc hn₃ (if_pos rfl) ?_
  iterate 3 walk1
  refine pow2 (k := 24) (by decide) fun tk₁ u₁ => ?_
  dsimp only
  refine mod_int' (by decide) ?_
  iterate 1 walk1
  refine cLoc hn₃ ((if_neg (by decide)).trans (if_pos rfl)) ?_
  iterate 1 walk1
  refine wpAny_newList ?_ (by show 2 ≤ sizeLine; rw [sizeLine_eq]; decide)
  dsimp only
  have en : n.fmod (2 ^ 24) = ((num1 xs i : Nat) : Int) := by
    unfold num1
    rw [hxn, Int.fmod_eq_emod_of_nonneg _ (by decide), Int.toNat_of_nonneg (Int.emod_nonneg _ (by decide))]
  rw [en]
  have kk : ∀ (b : Nat) (o : Obj), b ≠ C → h0.get? b = some o → h₃.get? b = some o := fun b o hb e => hs₃.extBut b o hb (hs₂.extBut b o hb (k1 b o e))
  have hzz : h₃.objs.size = h₁.objs.size := by rw [hs₃.1, hs₂.1]
  have hC3 : C < h₃.objs.size := hn₃.lt
  exact ⟨⟨_, _, rfl, fun b o hb e => Heap.get?_push_of_some _ (kk b o (by omega) e)⟩, ⟨_, hn₃.push _⟩, trivial, h₃.objs.size, _, _, rfl, hC3, ⟨_, Heap.get?_push_size _ rfl, rfl, _, rfl⟩⟩
theorem T46.keepsBut {h h' : Heap} {L : Addr} (x : T46 h) (k : ∀ b o, b ≠ L → h.get? b = some o → h'.get? b = some o) (hL : ∀ ps, h.get? L ≠ some (tabObj ps)) (hc : ∀ o vs, h.get? L = some o → o.data ≠ .fields vs) : T46 h' := by
  obtain ⟨ps, e, t⟩ := x
  refine ⟨ps, k _ _ (by rintro rfl; exact hL _ e) e, ?_⟩
  rcases t with rfl | ⟨c', rfl, c, oc, vs, t, ec, ho, hdat, r⟩
  · exact .inl rfl
  · exact .inr ⟨c', rfl, c, oc, vs, t, ec, k _ _ (by rintro rfl; exact hc _ _ ho hdat) ho, hdat, r⟩
theorem LS.step4 {w : World} {s₁ s : Shared} {m m' : Str → Option Value} {cr cw cr' cw' : Option Value} {e77 : Array Value} (x : LS w s₁ s m cr cw e77) {h' : Heap} {tk : Nat} (hn : h'.Ns 82 m') (hr : h'.IsCell 83 cr') (hw : h'.IsCell 84 cw')
    (k : ∀ b o, b ≠ 82 → b ≠ 83 → b ≠ 84 → b ≠ 46 → s.heap.get? b = some o → h'.get? b = some o) (t : T46 h') : LS w s₁ { s with heap := h', toks := tk } m' cr' cw' e77 where
  sh := by obtain ⟨h, tk', rfl⟩ := x.sh; exact ⟨h', tk, rfl⟩
  ns := hn
  row := hr
  wlk := hw
  keep := fun b o a1 a2 a3 e => by
    have e' := x.keep b o a1 a2 a3 e
    have hb : b < s₁.heap.objs.size := Heap.lt_size e
    rw [x.z1] at hb
    exact k b o (ne_lt hb) (ne_lt (Nat.lt_succ_of_lt hb)) (ne_lt (Nat.lt_succ_of_lt (Nat.lt_succ_of_lt hb))) a2 e'
  t46 := t
  t77 := k _ _ (by decide) (by decide) (by decide) (by decide) x.t77
  t30 := by obtain ⟨ps, e⟩ := x.t30; exact ⟨ps, k _ _ (by decide) (by decide) (by decide) (by decide) e⟩
  kf := by
    obtain ⟨H, t0, hk⟩ := x.kf
    refine ⟨H, t0, fun a o e => k a o ?_ ?_ ?_ ?_ (hk a o e)⟩
    · rintro rfl; rw [show (KF H t0).lookup 82 = none from rfl] at e; cases e
    · rintro rfl; rw [show (KF H t0).lookup 83 = none from rfl] at e; cases e
    · rintro rfl; rw [show (KF H t0).lookup 84 = none from rfl] at e; cases e
    · rintro rfl; rw [show (KF H t0).lookup 46 = none from rfl] at e; cases e
  lam := by
    obtain ⟨pm, ctv, e, c, o, vs, t, e', ho, r⟩ := x.lam
    cases e'
    exact ⟨pm, ctv, k _ _ (by decide) (by decide) (by decide) (by decide) e, 90, o, vs, t, rfl, k _ _ (by decide) (by decide) (by decide) (by decide) ho, r⟩
  z1 := x.z1
theorem LS.step {w : World} {s₁ s : Shared} {m m' : Str → Option Value} {cr cw : Option Value} {e77 : Array Value} (x : LS w s₁ s m cr cw e77) {h' : Heap} {tk : Nat} (hn : h'.Ns 82 m') (k : ∀ b o, b ≠ 82 → b ≠ 46 → s.heap.get? b = some o → h'.get? b = some o) (t : T46 h') :
    LS w s₁ { s with heap := h', toks := tk } m' cr cw e77 :=
  x.step4 hn (by obtain ⟨o, e, r⟩ := x.row; exact ⟨o, k _ _ (by decide) (by decide) e, r⟩) (by obtain ⟨o, e, r⟩ := x.wlk; exact ⟨o, k _ _ (by decide) (by decide) e, r⟩) (fun b o a1 _ _ a2 e => k b o a1 a2 e) t
/-- the cell of row is set -/
theorem LS.setRow {w : World} {s₁ s : Shared} {m : Str → Option Value} {cr cw : Option Value} {v : Value} {e77 : Array Value} (x : LS w s₁ s m cr cw e77) {h' : Heap} (hv : h'.IsCell 83 (some v)) (hs : Heap.SameBut 83 s.heap h') : LS w s₁ { s with heap := h' } m (some v) cw e77 := by
  have h83 : ∃ o, s.heap.get? 83 = some o ∧ o.data = .cell cr := x.row
  obtain ⟨o, e, hd⟩ := h83
  refine x.step4 (tk := s.toks) (x.ns.at' fun o e => hs.extBut _ o (by decide) e) hv (by obtain ⟨o, e, r⟩ := x.wlk; exact ⟨o, hs.extBut _ _ (by decide) e, r⟩) (fun b o _ a _ _ e => hs.extBut b o a e) ?_
  exact x.t46.keepsBut (L := 83) (fun b o a e => hs.extBut b o a e) (fun ps q => by rw [e] at q; cases q; cases hd) (fun o' vs q hf => by rw [e] at q; cases q; rw [hd] at hf; cases hf)
theorem LS.setWalk {w : World} {s₁ s : Shared} {m : Str → Option Value} {cr cw : Option Value} {v : Value} {e77 : Array Value} (x : LS w s₁ s m cr cw e77) {h' : Heap} (hv : h'.IsCell 84 (some v)) (hs : Heap.SameBut 84 s.heap h') : LS w s₁ { s with heap := h' } m cr (some v) e77 := by
  have h84 : ∃ o, s.heap.get? 84 = some o ∧ o.data = .cell cw := x.wlk
  obtain ⟨o, e, hd⟩ := h84
  refine x.step4 (tk := s.toks) (x.ns.at' fun o e => hs.extBut _ o (by decide) e) (by obtain ⟨o, e, r⟩ := x.row; exact ⟨o, hs.extBut _ _ (by decide) e, r⟩) hv (fun b o _ _ a _ e => hs.extBut b o a e) ?_
  exact x.t46.keepsBut (L := 84) (fun b o a e => hs.extBut b o a e) (fun ps q => by rw [e] at q; cases q; cases hd) (fun o' vs q hf => by rw [e] at q; cases q; rw [hd] at hf; cases hf)
theorem cell_list {h h' : Heap} {c l : Addr} {cv : Option Value} {its : Array Value} (hc : h.IsCell c cv) (hl : h.IsList l its) (hs : Heap.SameBut c h h') : h'.IsList l its := by
  obtain ⟨o, e, hd⟩ := hc
  refine hl.at fun o' e' => hs.extBut l o' ?_ e'
  rintro rfl
  obtain ⟨o2, e2, _, n, hd2⟩ := hl
  rw [e] at e2; cases e2
  rw [hd] at hd2; cases hd2
theorem LS.ne82 {w : World} {s₁ s : Shared} {m : Str → Option Value} {cr cw : Option Value} {e77 : Array Value} (x : LS w s₁ s m cr cw e77) {l : Addr} {its : Array Value} (hl : s.heap.IsList l its) : l ≠ 82 := by
  rintro rfl
  obtain ⟨o, es, ep, e, hd, _⟩ := x.ns
  obtain ⟨o', e', _, n, hd'⟩ := hl
  rw [e] at e'; cases e'
  rw [hd] at hd'; cases hd'
theorem LS.kp {w : World} {s₁ s s' : Shared} {m : Str → Option Value} {cr cw : Option Value} {e77 : Array Value} (x : LS w s₁ s m cr cw e77) (y : Kp s s') : LS w s₁ s' m cr cw e77 := by
  obtain ⟨h', tk, rfl, k, t⟩ := y
  exact x.step (x.ns.at' fun o e => k _ o (by decide) e) (fun b o _ hb e => k b o hb e) t
/-- the list l stands on -/
theorem LS.lst {w : World} {s₁ s : Shared} {m : Str → Option Value} {cr cw : Option Value} {e77 : Array Value} (x : LS w s₁ s m cr cw e77) {l : Addr} {its : Array Value} (hl : s.heap.IsList l its) {h' : Heap} (k : ∀ b o, b ≠ 82 → b ≠ 46 → s.heap.get? b = some o → h'.get? b = some o) : h'.IsList l its :=
  hl.at fun o e => k l o (x.ne82 hl) (isList_ne46 x.t46 hl) e
/-- the i-th value is a list of the number num i and of snd i -/
noncomputable def Pairs (vs : List Value) (num : Nat → Nat) (snd : Nat → Int) (h : Heap) : Prop := ∀ i v, vs[i]? = some v → num i < 2 ^ 64 ∧ ∃ (la : Addr) (t u : Tok), v = .ref la ∧ h.IsList la #[.int (num i) t, .int (snd i) u]
theorem Pairs.firsts {vs : List Value} {num : Nat → Nat} {snd : Nat → Int} {h : Heap} (x : Pairs vs num snd h) : Firsts vs num h := fun i v e => by
  obtain ⟨b, la, t, u, rfl, l⟩ := x i v e
  exact ⟨la, _, t, rfl, l, rfl, b⟩
theorem Pairs.up {vs : List Value} {num : Nat → Nat} {snd : Nat → Int} {h h' : Heap} (x : Pairs vs num snd h) (k : ∀ l its, h.IsList l its → h'.IsList l its) : Pairs vs num snd h' := fun i v e => by
  obtain ⟨b, la, t, u, rfl, l⟩ := x i v e
  exact ⟨b, la, t, u, rfl, k _ _ l⟩
noncomputable def xs1 (ns : List Int) : List Int := ns.take 8 ++ [6, 5, 6, 12, 7]
theorem LS.t46k {w : World} {s₁ s : Shared} {m : Str → Option Value} {cr cw : Option Value} {e77 : Array Value} (x : LS w s₁ s m cr cw e77) {h' : Heap} (k : ∀ b o, b ≠ 82 → s.heap.get? b = some o → h'.get? b = some o) : T46 h' := by
  obtain ⟨o, es, ep, e, hd, _⟩ := x.ns
  exact x.t46.keepsBut k (fun ps q => by rw [e] at q; cases q; cases hd) (fun o' vs q hf => by rw [e] at q; cases q; rw [hd] at hf; cases hf)
theorem push_at {h : Heap} {o : Obj} {n : Nat} (e : h.objs.size = n) (hf : o.isFreed = false) : (h.push o).get? n = some o := by
  subst e
  exact Heap.get?_push_size h hf
theorem ints_append : ∀ {vs ws : List Value} {ns ms : List Int}, IntsAre vs ns → IntsAre ws ms → IntsAre (vs ++ ws) (ns ++ ms)
  | _, _, _, _, .nil, h => h
  | _, _, _, _, .cons n t r, h => .cons n t (ints_append r h)
noncomputable def tail5 (k : Tok) : List Value := [.int 6 (k + 1), .int 5 (k + 1 + 1), .int 6 (k + 1 + 1 + 1), .int 12 (k + 1 + 1 + 1 + 1), .int 7 (k + 1 + 1 + 1 + 1 + 1)]
theorem st1 {w : World} {E : Value → Shared → Prop} {s₁ s : Shared} {m : Str → Option Value} {vals : List Value} {ns : List Int} {Q : Flow → Shared → Prop} (X : Base w s₁.heap) (x : LS w s₁ s m none none ent1) (hm : m (Str.ofString "script") = some (.ref 81))
    (hl : s₁.heap.IsList 81 vals.toArray) (hi : IntsAre vals ns) (hlen : ns.length ≤ 63)
    (h : ∀ s' T vs, LS w s₁ s' (fun y => if y = Str.ofString "things" then some (.ref T) else m y) none none ent1 → s'.heap.IsList T vs.toArray → vs.length = (xs1 ns).length → Pairs vs (num1 (xs1 ns)) (fun i => i) s'.heap → Q .next s') :
    wpAny (model prg w) (As 30) (exec (stL 1) lawEnv) Q E s := by
  change wpAny _ _ (exec (.Assign [.Name _ _] (.ListComp _ [⟨_, _, [], 0⟩] _ _) _) _) _ _ _
  refine comp_as (kind1 (xs1 ns)) rfl rfl rfl (by decide) rfl rfl ?_
  have Xs := x.base X
  obtain ⟨h0, ge, dr, tk0, os⟩ := s
  have hl0 : h0.IsList 81 vals.toArray := hl.at fun o e => x.keep _ o (by decide) (by decide) (by decide) e
  have hv64 : vals.length ≤ 63 := by rw [hi.length]; exact hlen
  iterate 1 walk1
  refine bname (w := w) Xs (n_enum _) (b_enum _) ?_
  iterate 3 walk1
  refine wpAny_Subscript_list_slice (cLoc x.ns hm (wpAny_evalPart_none (wpAny_evalPart_some ?_)))
  iterate 1 walk1
  refine ⟨81, vals.toArray, none, some 8, rfl, hl0, by rw [List.size_toArray, sizeLine_eq]; omega, ?_, ?_, ?_⟩
  · exact .none
  · exact .int _ _
  dsimp only
  have hs8 := slice_ints_uptoW hi (y := 8) (by decide)
  generalize slicePick vals.toArray none (some 8) none = sl at *
  refine List_ ?_
  iterate 11 walk1
  refine wpAny_newList ?_ (by show 5 ≤ sizeLine; rw [sizeLine_eq]; decide)
  dsimp only
  have hSz : sl.toList.length ≤ 8 := by
    rw [hs8.length, List.length_take]
    exact Nat.min_le_left _ _
  have g2 : ((h0.push { cls := .type "slice", data := .fields #[.none, .int 8 tk0, .none] }).push { cls := .type "list", data := .seq sl }).IsList (h0.objs.size + 1) sl.toList.toArray := ⟨_, push_at (Heap.size_push ..) rfl, rfl, _, rfl⟩
  refine add_raw (vs := sl.toList) (g2.push _) ⟨_, Heap.get?_push_size _ rfl, rfl, _, rfl⟩ ?_ (by show sl.toList.length + 5 ≤ sizeLine; rw [sizeLine_eq]; omega)
  dsimp only
  iterate 1 walk1
  have hI : IntsAre (sl.toList ++ tail5 tk0) (xs1 ns) := ints_append hs8 (.cons _ _ (.cons _ _ (.cons _ _ (.cons _ _ (.cons _ _ .nil)))))
  have k3 : ∀ o1 o2 o3 o4, ∀ b o, h0.get? b = some o → ((((h0.push o1).push o2).push o3).push o4).get? b = some o := fun _ _ _ _ b o e => Heap.get?_push_of_some _ (Heap.get?_push_of_some _ (Heap.get?_push_of_some _ (Heap.get?_push_of_some _ e)))
  refine call_enumerate_list (items := (sl.toList ++ tail5 tk0).toArray) ⟨_, Heap.get?_push_size _ rfl, rfl, _, rfl⟩ fun h4 hE hIt hz4 hk4 => ?_
  have hlst : h4.IsList (((h0.push { cls := .type "slice", data := .fields #[.none, .int 8 tk0, .none] }).push { cls := .type "list", data := .seq sl }).push { cls := .type "list", data := .seq (tail5 tk0).toArray }).objs.size (sl.toList ++ tail5 tk0).toArray := ⟨_, hk4 _ _ (Heap.get?_push_size _ rfl), rfl, _, rfl⟩
  dsimp only at hE hIt hz4 hk4 hlst
  have hk04 : ∀ b o, h0.get? b = some o → h4.get? b = some o := fun b o e => hk4 b o (k3 _ _ _ _ b o e)
  clear hk4 k3
  generalize (sl.toList ++ tail5 tk0) = items at *
  simp only [Heap.size_push] at hE hIt hlst hz4
  simp only [Heap.size_push]
  have hlen' : items.length ≤ 13 := by
    rw [hI.length]
    unfold xs1
    rw [List.length_append, List.length_take]
    have := Nat.min_le_left 8 ns.length
    show min 8 ns.length + 5 ≤ 13
    omega
  refine ⟨h0, items.toArray.size, _, _, by rw [List.size_toArray]; omega, src_enum rfl hE hIt hlst (ne_gt (by omega)) (ne_lt (by omega)) (ne_lt (by omega)) hk04 (by omega) (by omega), turn1 rfl (by simpa using hI) (by rw [List.size_toArray]; omega), x.ns, ?_⟩
  intro D C h' tk ys hD hDC hpl hsz hG hns hkeep
  have hL : h'.IsList D ys := hpl.isList
  refine h _ D ys.toList (x.step hns (fun b o h1 _ e => hkeep b o h1 e) (x.t46k hkeep)) (by simpa using hL) (by rw [Array.length_toList, hsz, List.size_toArray, hI.length]) ?_
  intro i v hv
  obtain ⟨T, t, u, rfl, hT, l⟩ := hG i v (by simpa using hv)
  exact ⟨by unfold num1; omega, T, t, u, rfl, l⟩
theorem Firsts.up {vs : List Value} {num : Nat → Nat} {h h' : Heap} (x : Firsts vs num h) (k : ∀ l its, h.IsList l its → h'.IsList l its) : Firsts vs num h' := fun i v e => by
  obtain ⟨la, va, t, rfl, l, r⟩ := x i v e
  exact ⟨la, va, t, rfl, k _ _ l, r⟩
end Mine
end
section -- LSt2
open PySem PySem.Calls PySem.W PySem.W.X PyProof.Rows PySem.Spec
set_option Elab.async false
set_option maxRecDepth 100000
set_option maxHeartbeats 1000000
set_option linter.unusedVariables false
namespace Mine
theorem st2 {w : World} {E : Value → Shared → Prop} {s₁ s : Shared} {m : Str → Option Value} {T : Addr} {vs : List Value} {num : Nat → Nat} {snd : Nat → Int} {n : Nat} {Q : Flow → Shared → Prop} (X : Base w s₁.heap) (x : LS w s₁ s m none none ent1) (hm : m (Str.ofString "things") = some (.ref T)) (hkm : m (Str.ofString "key") = some (.ref 152))
    (hl : s.heap.IsList T vs.toArray) (hn : vs.length = n) (h2 : 2 ≤ n) (h64 : n < 64) (hf : Pairs vs num snd s.heap)
    (h : ∀ s' R, LS w s₁ s' m (some (.ref R)) none ent1 → s'.heap.IsList T vs.toArray → Pairs vs num snd s'.heap → s'.heap.IsList R ((srt n fun i j => decide (turnV (num i) (num j) < 0)).map fun i => vs.getD i .none).toArray → Q .next s') :
    wpAny (model prg w) (As 30) (exec (stL 2) lawEnv) Q E s := by
  change wpAny _ _ (exec (.Assign [_] _ _) _) _ _ _
  have Xs := x.base X
  iterate 2 walk1
  refine bname (w := w) Xs (n_sorted _) (b_sorted _) ?_
  iterate 1 walk1
  iterate 1 walk1
  refine cLoc x.ns hm ?_
  iterate 2 walk1
  refine cLoc x.ns hkm ?_
  iterate 1 walk1
  obtain ⟨H, t0, Y⟩ := x.kf
  change wpAny _ _ (call (.builtin "sorted") [.ref T] [(Str.ofString "key", .ref 152)]) _ _ _
  refine sorted_K ⟨rfl, by decide, by decide⟩ Xs x.t46 x.lam Y hl hn h2 h64 hf.firsts fun D h' tk c K hD hd => ?_
  have x' := x.kp K
  have hl' : h'.IsList T vs.toArray := K.list x.t46 hl
  have hR : h'.IsList D ((srt n fun i j => decide (turnV (num i) (num j) < 0)).map fun i => vs.getD i .none).toArray := ⟨_, hd, rfl, c, rfl⟩
  have hf' : Pairs vs num snd h' := hf.up fun l its hl => K.list x.t46 hl
  refine wpAny_storeName_cell rfl rfl rfl x'.row fun h₃ hv hs => ?_
  exact h _ D (x'.setRow hv hs) (cell_list x'.row hl' hs) (hf'.up fun l its hl => cell_list x'.row hl hs) (cell_list x'.row hR hs)
theorem code_79k {h : Heap} {w : World} (X : Base w h) : CodeHd h 79 77 := code_79 X
theorem lamR_make {w : World} {A : Around} {E : Value → Shared → Prop} {s₁ s : Shared} {m : Str → Option Value} {cr cw : Option Value} {Q : Value → Shared → Prop} (X : Base w s₁.heap) (x : LS w s₁ s m cr cw ent1)
    (hQ : ∀ f h' tk e77, LS w s₁ { s with heap := h', toks := tk } m cr cw e77 → LamR f h' → (∀ b o, b ≠ 77 → s.heap.get? b = some o → h'.get? b = some o) → Q (.ref f) { s with heap := h', toks := tk }) :
    wpAny (model prg w) A (eval lamR lawEnv) Q E s := by
  have Xs := x.base X
  show wpAny (model prg w) A (eval (.Lambda (lamArgs lamR) (lamBody lamR) (lamScope lamR) lamR.pos) lawEnv) Q E s
  refine kla_eval rfl ?_
  refine kla_makeFunction (mg := mgP w.params) (clos := []) rfl rfl (glob Xs) rfl (code_79 Xs) x.t77 trivial rfl (by decide) (bm_at Xs (by decide)) fun c' ctv h' tk hx hge hlt hrec htb => ?_
  have k' : ∀ b o, b ≠ 77 → s.heap.get? b = some o → (h'.push (kla_obj (Str.ofString "<lambda>") (lawEnv.qual ++ "<lambda>") (lamArgs lamR) (lamBody lamR) (lamScope lamR) [] ((mgP w.params "__name__").getD .none) c' ctv)).get? b = some o := fun b o hb e => Heap.get?_push_of_some _ (hx b o hb e)
  have hf : (h'.push (kla_obj (Str.ofString "<lambda>") (lawEnv.qual ++ "<lambda>") (lamArgs lamR) (lamBody lamR) (lamScope lamR) [] ((mgP w.params "__name__").getD .none) c' ctv)).get? h'.objs.size = some (kla_obj (Str.ofString "<lambda>") (lawEnv.qual ++ "<lambda>") (lamArgs lamR) (lamBody lamR) (lamScope lamR) [] ((mgP w.params "__name__").getD .none) c' ctv) := Heap.get?_push_size _ rfl
  have h46lt : 46 < s.heap.objs.size := by obtain ⟨ps, e, _⟩ := x.t46; exact Heap.lt_size e
  have htb' := Heap.get?_push_of_some (kla_obj (Str.ofString "<lambda>") (lawEnv.qual ++ "<lambda>") (lamArgs lamR) (lamBody lamR) (lamScope lamR) [] ((mgP w.params "__name__").getD .none) c' ctv) htb
  have hrec' : (h'.push (kla_obj (Str.ofString "<lambda>") (lawEnv.qual ++ "<lambda>") (lamArgs lamR) (lamBody lamR) (lamScope lamR) [] ((mgP w.params "__name__").getD .none) c' ctv)).CodeRec (.ref c') qLaw := by
    obtain ⟨c, o, vs, t, e, ho, r⟩ := hrec
    exact ⟨c, o, vs, t, e, Heap.get?_push_of_some _ ho, r⟩
  refine hQ h'.objs.size _ tk _ ⟨?_, x.ns.at' fun o e => k' _ o (by decide) e, ?_, ?_, ?_, ?_, htb', ?_, ?_, ?_, x.z1⟩ ⟨_, c', ctv, hf, hrec', ne_gt (Nat.lt_trans h46lt (Nat.lt_of_le_of_lt hge hlt)), ne_gt (Nat.lt_of_lt_of_le h46lt hge)⟩ k'
  · obtain ⟨h, tk', rfl⟩ := x.sh; exact ⟨_, _, rfl⟩
  · obtain ⟨o, e, r⟩ := x.row; exact ⟨o, k' _ _ (by decide) e, r⟩
  · obtain ⟨o, e, r⟩ := x.wlk; exact ⟨o, k' _ _ (by decide) e, r⟩
  · exact fun b o a1 a2 a3 e => k' _ _ a1 (x.keep b o a1 a2 a3 e)
  · obtain ⟨ps, e, tp⟩ := x.t46
    refine ⟨ps, k' _ _ (by decide) e, ?_⟩
    rcases tp with rfl | ⟨c2, rfl, c3, oc, vs, t, ec, ho, hdat, r⟩
    · exact .inl rfl
    · refine .inr ⟨c2, rfl, c3, oc, vs, t, ec, k' _ _ ?_ ho, hdat, r⟩
      rintro rfl
      have q := x.t77
      rw [ho] at q
      cases q
      cases hdat
      cases r
  · obtain ⟨ps, e⟩ := x.t30; exact ⟨ps, k' _ _ (by decide) e⟩
  · obtain ⟨H, t0, hk⟩ := x.kf
    refine ⟨H, t0, fun a o e => k' a o ?_ (hk a o e)⟩
    rintro rfl; rw [show (KF H t0).lookup 77 = none from rfl] at e; cases e
  · obtain ⟨pm, ctv, e, c, o, vs, t, e', ho, r⟩ := x.lam
    cases e'
    exact ⟨pm, ctv, k' _ _ (by decide) e, 90, o, vs, t, rfl, k' _ _ (by decide) ho, r⟩
end Mine
end
section -- LSt3
open PySem PySem.Calls PySem.W PySem.W.X PyProof.Rows PySem.Spec PySem.SeqAt
set_option Elab.async false
set_option maxRecDepth 100000
set_option maxHeartbeats 1000000
set_option linter.unusedVariables false
namespace Mine
noncomputable def prD (num : Nat → Nat) (snd : Nat → Int) (i : Nat) : PyData := .list ([(num i : Int), snd i].map PyData.int)
theorem reads_pairs {vs : List Value} {num : Nat → Nat} {snd : Nat → Int} {h : Heap} (hp : Pairs vs num snd h) : ∀ (is : List Nat), (∀ i ∈ is, i < vs.length) → ∃ as, ReadsAll h (is.map fun i => vs.getD i .none) (is.map (prD num snd)) as
  | [], _ => ⟨[], .nil⟩
  | i :: is, hi => by
    obtain ⟨as, r⟩ := reads_pairs hp is fun j hj => hi j (.tail _ hj)
    have hl := hi i (.head _)
    obtain ⟨_, la, t, u, e, l⟩ := hp i vs[i] (List.getElem?_eq_getElem hl)
    refine ⟨_, .cons (as := [la]) ?_ r⟩
    have ev : vs.getD i .none = .ref la := by rw [List.getD_eq_getElem?_getD, List.getElem?_eq_getElem hl]; exact e
    show Reads h (vs.getD i .none) _ _
    rw [ev]
    exact reads_of_ints (vs := [_, _]) l (.cons _ _ (.cons _ _ .nil))
theorem canLay_pairs (num : Nat → Nat) (snd : Nat → Int) : ∀ is : List Nat, PyData.canLayAll0 (is.map (prD num snd)) = true
  | [] => by simp [PyData.canLayAll0]
  | i :: is => by
    have h := canLayAll0_ints [(num i : Int), snd i]
    have e : PyData.canLay0 (prD num snd i) = true := by
      unfold prD
      simp only [PyData.canLay0]; exact h
    simp only [List.map_cons, PyData.canLayAll0, e, canLay_pairs num snd is, Bool.and_self]
theorem depth_pairs (num : Nat → Nat) (snd : Nat → Int) : ∀ is : List Nat, PyData.depthAll (is.map (prD num snd)) ≤ 2
  | [] => by simp [PyData.depthAll]
  | i :: is => by
    have h1 := depth_pairs num snd is
    have h2 := W.depthAll_ints [(num i : Int), snd i]
    have e : PyData.depth (prD num snd i) ≤ 2 := by
      unfold prD
      simp only [PyData.depth]; omega
    simp only [List.map_cons, PyData.depthAll]
    omega
theorem shaped_pairs (num : Nat → Nat) (snd : Nat → Int) (is : List Nat) : shaped (.list (is.map (prD num snd))) = true := by
  have h1 := depth_pairs num snd is
  have h2 : PyData.depth (.list (is.map (prD num snd))) ≤ 64 := by simp only [PyData.depth]; omega
  show (PyData.canLay0 (.list (is.map (prD num snd))) && decide (PyData.depth (.list (is.map (prD num snd))) ≤ 64)) = true
  rw [Bool.and_eq_true]
  exact ⟨by simp only [PyData.canLay0]; exact canLay_pairs num snd is, decide_eq_true h2⟩
theorem eqv_pairs (num : Nat → Nat) (snd : Nat → Int) : ∀ is : List Nat, PyData.eqvAll (is.map (prD num snd)) (is.map (prD num snd)) = true
  | [] => by simp [PyData.eqvAll]
  | i :: is => by
    have h1 := eqv_pairs num snd is
    have e : PyData.eqv (prD num snd i) (prD num snd i) = true := by
      unfold prD
      simp only [PyData.eqv]
      rw [ked_eqvAll]
      simp
    simp only [List.map_cons, PyData.eqvAll, e, h1, Bool.and_self]
theorem ne_pairs {w : World} {A : Around} {E : Value → Shared → Prop} {s : Shared} {a b : Addr} {vs : List Value} {num : Nat → Nat} {snd : Nat → Int} {is : List Nat} {Q : Value → Shared → Prop} (hu : A.units + 64 < cLine) (hp : Pairs vs num snd s.heap) (hi : ∀ i ∈ is, i < vs.length)
    (ha : s.heap.IsList a (is.map fun i => vs.getD i .none).toArray) (hb : s.heap.IsList b (is.map fun i => vs.getD i .none).toArray) (h : Q (.bool false) s) :
    wpAny (model prg w) A (compareOp .NotEq (.ref a) (.ref b)) Q E s := by
  obtain ⟨as, r⟩ := reads_pairs hp is hi
  have rd : ∀ a, s.heap.IsList a (is.map fun i => vs.getD i .none).toArray → Reads s.heap (.ref a) (.list (is.map (prD num snd))) (a :: as) := by
    rintro a ⟨o, e, hc, n, hd⟩
    exact .list e hc hd r
  refine compareNe_shaped (rd a ha) (rd b hb) (shaped_pairs _ _ _) (shaped_pairs _ _ _) hu ?_
  simp only [PyData.eqv, eqv_pairs]
  exact h
theorem cCell {w : World} {A : Around} {E : Value → Shared → Prop} {s : Shared} {env : Env} {x : Str} {pos : Pos} {c : Addr} {v : Value} {Q : Value → Shared → Prop} (hv : s.heap.IsCell c (some v)) (h : Q v s) (hk : env.scope.kind = .function := by rfl) (hl : env.kindOf x = some .cell := by rfl) (hc : env.cells.lookup x = some c := by rfl) (hd : (x == ("__debug__" : Str)) = false := by decide) :
    wpAny (model prg w) A (eval (.Name x pos) env) Q E s := wpAny_Name (wpAny_loadName_cell hk hl hc hv h) hd
theorem st3 {w : World} {E : Value → Shared → Prop} {s₁ s : Shared} {m : Str → Option Value} {T R : Addr} {vs : List Value} {num : Nat → Nat} {snd : Nat → Int} {n : Nat} {Q : Flow → Shared → Prop} (X : Base w s₁.heap) (x : LS w s₁ s m (some (.ref R)) none ent1) (hm : m (Str.ofString "things") = some (.ref T))
    (hl : s.heap.IsList T vs.toArray) (hn : vs.length = n) (h2 : 2 ≤ n) (h64 : n < 64) (hf : Pairs vs num snd s.heap)
    (hR : s.heap.IsList R ((srt n fun i j => decide (turnV (num i) (num j) < 0)).map fun i => vs.getD i .none).toArray)
    (h : ∀ s' e77, LS w s₁ s' m (some (.ref R)) none e77 → Pairs vs num snd s'.heap → s'.heap.IsList R ((srt n fun i j => decide (turnV (num i) (num j) < 0)).map fun i => vs.getD i .none).toArray → Q .next s') :
    wpAny (model prg w) (As 30) (exec (stL 3) lawEnv) Q E s := by
  change wpAny _ _ (exec (.If _ _ _ _) _) _ _ _
  have Xs := x.base X
  iterate 2 walk1
  refine cCell x.row ?_
  iterate 1 walk1
  refine bname (w := w) Xs (n_sorted _) (b_sorted _) ?_
  iterate 2 walk1
  refine cLoc x.ns hm ?_
  iterate 2 walk1
  refine lamR_make X x fun f h₁ tk₁ e77 x₁ Z k₁ => ?_
  iterate 1 walk1
  have k1l : ∀ l its, s.heap.IsList l its → h₁.IsList l its := fun l its hl => hl.at fun o e => k₁ l o (by
    rintro rfl
    obtain ⟨o', e', _, n', hd'⟩ := hl
    rw [x.t77] at e'; cases e'; cases hd') e
  change wpAny _ _ (call (.builtin "sorted") [.ref T] [(Str.ofString "key", .ref f)]) _ _ _
  refine sorted_R ⟨rfl, by decide, by decide⟩ (x₁.base X) x₁.t46 Z (k1l _ _ hl) hn h2 h64 (hf.up k1l).firsts fun D h' tk c K hD hd => ?_
  have x' := x₁.kp K
  have k2l : ∀ l its, s.heap.IsList l its → h'.IsList l its := fun l its hl => K.list x₁.t46 (k1l l its hl)
  have eo : srt n (fun i j => decide (turnV (num i) (num j) < 0)) = srt n (fun i j => decide (((rankN (num i) : Nat) : Int) < (rankN (num j) : Nat))) := srt_congr (by omega) fun i j _ _ => by
    rw [decide_eq_decide, turn_lt]; omega
  rw [← eo] at hd
  have hb := srt_bd (n := n) (by omega) (fun i j => decide (turnV (num i) (num j) < 0))
  refine ne_pairs (Nat.le_of_ble_eq_true rfl) (hf.up k2l) (fun i hi => by rw [hn]; exact hb.2 i hi) (k2l _ _ hR) ⟨_, hd, rfl, c, rfl⟩ ?_
  refine wpAny_truthy_bool ?_
  rw [if_neg (by decide)]
  exact wpAny_execs_nil (h _ e77 x' (hf.up k2l) (k2l _ _ hR))
end Mine
end
section -- LSt4
open PySem PySem.Calls PySem.W PySem.W.X PyProof.Rows PySem.Spec PySem.SeqAt
set_option Elab.async false
set_option maxRecDepth 100000
set_option maxHeartbeats 1000000
set_option linter.unusedVariables false
namespace Mine
noncomputable def c4 : Expr := cmpV (stL 4)
noncomputable def stepN (num : Nat → Nat) (is : List Nat) (i : Nat) : Nat := num (is.getD (i + 1) 0) ^^^ num (is.getD i 0)
noncomputable def GI (f : Nat → Int) (C i : Nat) (y : Value) (h : Heap) : Prop := ∃ t, y = .int (f i) t
theorem kindI {scope : Scope} (f : Nat → Int) (hp : ∀ h, pushCells h scope.names = h) : Kind scope 0 (fun _ _ => True) (GI f) := kind0 hp fun _ _ _ _ _ h _ => h
theorem turn4 {w : World} {A : Around} {g : Heap} {vs : List Value} {num : Nat → Nat} {snd : Nat → Int} {is : List Nat} {n : Nat} {R : Addr} (hh : A.handled = none) (hR : g.IsList R (is.map fun i => vs.getD i .none).toArray) (hf : Pairs vs num snd g) (hi : ∀ i ∈ is, i < vs.length) (hn : is.length = n) (h64 : n < 64) (hc : g.IsCell 83 (some (.ref R))) :
    Turn w A lawEnv (cElt c4) (cTgt c4) (cScp c4) [(Str.ofString "row", 83)] 0 (fun _ _ => True) (GI fun i => (stepN num is i : Int)) g (n - 1) (fun i v _ => ∃ t, v = .int (1 + i) t) := by
  rintro C i v s₃ E' hC hlt ⟨t, rfl⟩ ⟨m, hm⟩ _ hz hk
  obtain ⟨h0, ge, dr, tk0, os⟩ := s₃
  dsimp only at hm hz hk
  have item : ∀ j, j < n → ∃ (la : Addr) (t u : Tok), (is.map fun i => vs.getD i .none).toArray[j]? = some (.ref la) ∧ g.IsList la #[.int (num (is.getD j 0)) t, .int (snd (is.getD j 0)) u] := fun j hj => by
    have hj' : j < is.length := by omega
    have h1 := hi (is[j]) (List.getElem_mem _)
    obtain ⟨_, la, t, u, e, l⟩ := hf is[j] vs[is[j]] (List.getElem?_eq_getElem h1)
    refine ⟨la, t, u, ?_, ?_⟩
    · simp [List.getElem?_map, List.getElem?_eq_getElem hj', List.getD_eq_getElem?_getD, List.getElem?_eq_getElem h1]; exact e
    · rw [show is.getD j 0 = is[j] from by rw [List.getD_eq_getElem?_getD, List.getElem?_eq_getElem hj']; rfl]; exact l
  change wpAny _ _ (assign (.Name _ _) _ _) _ _ _
  refine wpAny_assign_Name (cStore (env := cEnv (cScp c4) [(Str.ofString "row", 83)] C lawEnv) hm fun h₂ hn₂ hs₂ => ?_)
  have kk : ∀ (b : Nat) (o : Obj), b ≠ C → h0.get? b = some o → h₂.get? b = some o := fun b o hb e => hs₂.extBut b o hb e
  have kg : ∀ (b : Nat) (o : Obj), g.get? b = some o → h₂.get? b = some o := fun b o e => kk b o (ne_lt (Nat.lt_trans (Heap.lt_size e) hC)) (hk b o e)
  have hc2 : h₂.IsCell 83 (some (.ref R)) := by obtain ⟨o, e, r⟩ := hc; exact ⟨o, kg _ _ e, r⟩
  obtain ⟨la, t1, u1, e1, l1⟩ := item (1 + i) (by omega)
  obtain ⟨lb, t2, u2, e2, l2⟩ := item i (by omega)
  change wpAny _ _ (eval (.BinOp _ _ _ _) _) _ _ _
  dsimp only
  iterate 3 walk1
  refine cCell hc2 ?_
  refine cLoc hn₂ (if_pos rfl) ?_
  refine sub_list (hR.at fun o e => kg _ o e) (by omega) (by omega) (by rw [show ((1 : Int) + (i : Nat)).toNat = 1 + i by omega]; exact e1) ?_
  iterate 1 walk1
  refine sub_list (l1.at fun o e => kg _ o e) (by decide) (by decide) rfl ?_
  iterate 2 walk1
  refine cCell hc2 ?_
  iterate 1 walk1
  refine cLoc hn₂ (if_pos rfl) ?_
  iterate 2 walk1
  refine sub_list (hR.at fun o e => kg _ o e) (by omega) (by omega) (by rw [show ((1 : Int) + (i : Nat) - 1).toNat = i by omega]; exact e2) ?_
  iterate 1 walk1
  refine sub_list (v := .int (num (is.getD i 0)) t2) (l2.at fun o e => kg _ o e) (by decide) (by decide) rfl ?_
  show wpAny _ _ (binaryOp .BitXor (.int (num (is.getD (1 + i) 0)) t1) (.int (num (is.getD i 0)) t2)) _ _ _
  iterate 1 walk1
  have e : Builtin.bitXor (num (is.getD (1 + i) 0) : Int) (num (is.getD i 0) : Int) = ((stepN num is i : Nat) : Int) := by
    rw [bitXor_nat]
    unfold stepN
    rw [Nat.add_comm 1 i]
  exact ⟨⟨_, _, rfl, fun b o hb e => kk b o (by omega) e⟩, ⟨_, hn₂⟩, trivial, _, congrArg (fun z => Value.int z _) e⟩
theorem ints_of {f : Nat → Int} : ∀ (l : List Value), (∀ (i : Nat) (y : Value), l[i]? = some y → ∃ t, y = Value.int (f i) t) → IntsAre l ((List.range l.length).map f) := by
  intro l
  induction l generalizing f with
  | nil => intro _; exact .nil
  | cons v l ih =>
    intro h
    obtain ⟨t, rfl⟩ := h 0 v rfl
    rw [List.length_cons, List.range_succ_eq_map, List.map_cons, List.map_map]
    exact .cons _ _ (ih (f := f ∘ Nat.succ) fun i y e => h (i + 1) y (by simpa using e))
theorem st4 {w : World} {E : Value → Shared → Prop} {s₁ s : Shared} {m : Str → Option Value} {R : Addr} {vs : List Value} {num : Nat → Nat} {snd : Nat → Int} {is : List Nat} {n : Nat} {e77 : Array Value} {Q : Flow → Shared → Prop} (X : Base w s₁.heap) (x : LS w s₁ s m (some (.ref R)) none e77)
    (hn : is.length = n) (h2 : 2 ≤ n) (h64 : n < 64) (hi : ∀ i ∈ is, i < vs.length) (hf : Pairs vs num snd s.heap) (hR : s.heap.IsList R (is.map fun i => vs.getD i .none).toArray)
    (h : ∀ s' T ys, LS w s₁ s' (fun y => if y = Str.ofString "steps" then some (.ref T) else m y) (some (.ref R)) none e77 → s'.heap.IsList T ys.toArray → IntsAre ys ((List.range (n - 1)).map fun i => (stepN num is i : Int)) → Q .next s') :
    wpAny (model prg w) (As 30) (exec (stL 4) lawEnv) Q E s := by
  change wpAny _ _ (exec (.Assign [.Name _ _] (.ListComp _ [⟨_, _, [], 0⟩] _ _) _) _) _ _ _
  refine comp_as (kindI (fun i => (stepN num is i : Int)) (fun h => rfl)) rfl rfl rfl (by decide) rfl rfl ?_
  have Xs := x.base X
  obtain ⟨h0, ge, dr, tk0, os⟩ := s
  iterate 1 walk1
  refine bname (w := w) Xs (n_range _) (b_range _) ?_
  iterate 5 walk1
  refine bname (w := w) Xs (n_len _) (b_len _) ?_
  iterate 2 walk1
  refine cCell x.row ?_
  iterate 1 walk1
  have hsz : (is.map fun i => vs.getD i .none).toArray.size = n := by simp [hn]
  refine call_len_list hR (by rw [hsz]; omega) ?_
  rw [hsz]
  iterate 1 walk1
  refine mk_range fun h1 hr hk1 => ?_
  dsimp only at hr hk1
  have kl : ∀ l its, h0.IsList l its → h1.IsList l its := fun l its hl => hl.at fun o e => hk1 _ o e
  have eN : Builtin.Range.rangeSize 1 (n : Int) 1 = ((n - 1 : Nat) : Int) := by
    rw [rangeSize_one]
    split <;> omega
  refine ⟨h1, n - 1, _, m, by omega, src_range (s := { heap := h1, gens := ge, drawn := dr, toks := _, os := os }) rfl hr (small_of (by omega) (by omega) (by omega) (by omega)) eN,
    turn4 rfl (kl _ _ hR) (hf.up kl) hi hn h64 (by obtain ⟨o, e, r⟩ := x.row; exact ⟨o, hk1 _ _ e, r⟩), x.ns.at' fun o e => hk1 _ o e, ?_⟩
  intro D C h' tk ys hD hDC hpl hsz hG hns hkeep
  have hL : h'.IsList D ys := hpl.isList
  have kk : ∀ b o, b ≠ 82 → h0.get? b = some o → h'.get? b = some o := fun b o hb e => hkeep b o hb (hk1 b o e)
  refine h _ D ys.toList (x.step hns (fun b o h1 _ e => kk b o h1 e) (x.t46k kk)) (by simpa using hL) ?_
  have := ints_of (f := fun i => (stepN num is i : Int)) ys.toList fun i y e => hG i y (by simpa using e)
  rwa [Array.length_toList, hsz] at this
end Mine
end
section -- LSt5
open PySem PySem.Calls PySem.W PySem.W.X PyProof.Rows PySem.Spec PySem.SeqAt
set_option Elab.async false
set_option maxRecDepth 100000
set_option maxHeartbeats 1000000
set_option linter.unusedVariables false
namespace Mine
noncomputable def bS (b : Bool) : Str := if b then "True" else "False"
noncomputable def GS (f : Nat → Bool) (C i : Nat) (y : Value) (h : Heap) : Prop := ∃ t, y = .str (bS (f i)) t
theorem kindS {scope : Scope} (f : Nat → Bool) (hp : ∀ h, pushCells h scope.names = h) : Kind scope 0 (fun _ _ => True) (GS f) := kind0 hp fun _ _ _ _ _ h _ => h
noncomputable def ifL : Stmt → Expr | .If (.Compare l _ _ _) .. => l | _ => default
noncomputable def ifR : Stmt → Expr | .If (.Compare _ _ (r :: _) _) .. => r | _ => default
noncomputable def c5 : Expr := ifL (stL 5)
noncomputable def d5 : Expr := ifR (stL 5)
noncomputable def StrsAre' (l : List Value) (bs : List Str) : Prop := l.length = bs.length ∧ ∀ (i : Nat) (y : Value), l[i]? = some y → ∃ t x, bs[i]? = some x ∧ y = Value.str x t
theorem reads_strs {h : Heap} : ∀ {l : List Value} {bs : List Str}, StrsAre' l bs → ReadsAll h l (bs.map PyData.str) []
  | [], [], _ => .nil
  | [], _ :: _, x => by simp [StrsAre'] at x
  | _ :: _, [], x => by simp [StrsAre'] at x
  | v :: l, b :: bs, x => by
    obtain ⟨t, y, e, rfl⟩ := x.2 0 v rfl
    have e' : b = y := by simpa using e
    subst e'
    have := ReadsAll.cons (Reads.str (h := h) b t) (reads_strs (h := h) (l := l) (bs := bs) ⟨by have := x.1; simpa using this, fun i y e => by simpa using x.2 (i + 1) y (by simpa using e)⟩)
    simpa using this
theorem shaped_strs (bs : List Str) (hb : ∀ b ∈ bs, PyData.strOk b = true) : shaped (.list (bs.map PyData.str)) = true := by
  have h1 : PyData.canLayAll0 (bs.map PyData.str) = true := by
    induction bs with
    | nil => simp [PyData.canLayAll0]
    | cons b bs ih => simp [PyData.canLayAll0, PyData.canLay0, ih fun b h => hb b (.tail _ h), hb b (.head _)]
  have h2 : PyData.depthAll (bs.map PyData.str) ≤ 1 := by
    clear h1 hb
    induction bs with
    | nil => simp [PyData.depthAll]
    | cons b bs ih =>
      simp only [List.map_cons, PyData.depthAll, PyData.depth]
      omega
  have h3 : PyData.depth (.list (bs.map PyData.str)) ≤ 64 := by simp only [PyData.depth]; omega
  show (PyData.canLay0 (.list (bs.map PyData.str)) && decide (PyData.depth (.list (bs.map PyData.str)) ≤ 64)) = true
  rw [Bool.and_eq_true]
  exact ⟨by simp only [PyData.canLay0]; exact h1, decide_eq_true h3⟩
theorem eqv_strs : ∀ bs : List Str, PyData.eqvAll (bs.map PyData.str) (bs.map PyData.str) = true
  | [] => by simp [PyData.eqvAll]
  | b :: bs => by simp [PyData.eqvAll, PyData.eqv, eqv_strs bs]
section
variable {w : World} {A : Around} {E : Value → Shared → Prop} {s : Shared} {a b : Addr} {xs ys : List Value} {bs : List Str} {Q : Value → Shared → Prop}
theorem bS_ok (cs : List Bool) : ∀ b ∈ cs.map bS, PyData.strOk b = true := fun b h => by
  obtain ⟨c, _, rfl⟩ := List.mem_map.mp h
  cases c <;> decide +kernel
theorem reads_strl (hx : StrsAre' xs bs) (ha : s.heap.IsList a xs.toArray) : Reads s.heap (.ref a) (.list (bs.map PyData.str)) [a] := by
  obtain ⟨o, e, hc, n, hd⟩ := ha
  exact .list e hc hd (reads_strs hx)
theorem ne_strs (hok : ∀ b ∈ bs, PyData.strOk b = true) (hu : A.units + 64 < cLine) (hx : StrsAre' xs bs) (hy : StrsAre' ys bs) (ha : s.heap.IsList a xs.toArray) (hb : s.heap.IsList b ys.toArray) (h : Q (.bool false) s) : wpAny (model prg w) A (compareOp .NotEq (.ref a) (.ref b)) Q E s := by
  refine compareNe_shaped (reads_strl hx ha) (reads_strl hy hb) (shaped_strs _ hok) (shaped_strs _ hok) hu ?_
  simp only [PyData.eqv, eqv_strs]
  exact h
theorem eq_strs (hok : ∀ b ∈ bs, PyData.strOk b = true) (hu : A.units + 64 < cLine) (hx : StrsAre' xs bs) (hy : StrsAre' ys bs) (ha : s.heap.IsList a xs.toArray) (hb : s.heap.IsList b ys.toArray) (h : Q (.bool true) s) : wpAny (model prg w) A (compareOp .Eq (.ref a) (.ref b)) Q E s := by
  refine compareEq_shaped (reads_strl hx ha) (reads_strl hy hb) (shaped_strs _ hok) (shaped_strs _ hok) hu ?_
  simp only [PyData.eqv, eqv_strs]
  exact h
end
theorem fn_21 {w : World} {h : Heap} (X : Base w h) : FnAt 21 h := ⟨_, _, _, _, X 21 _ rfl⟩
theorem turn5a {w : World} {g : Heap} {items : Array Value} {f : Nat → Nat} {n : Nat} (X : Base w g) (hi : IntsAre items.toList ((List.range n).map fun i => (f i : Int))) :
    Turn w (As 30) lawEnv (cElt c5) (cTgt c5) (cScp c5) [] 0 (fun _ _ => True) (GS fun i => isSingle (f i)) g items.size (fun i v _ => items[i]? = some v) := by
  rintro C i v s₃ E' hC hlt hv ⟨m, hm⟩ _ hz hk
  obtain ⟨h0, ge, dr, tk0, os⟩ := s₃
  dsimp only at hm hz hk
  have hsz : items.size = n := by have := hi.length; simpa using this
  obtain ⟨z, hz', t, rfl⟩ := ints_get hi (i := i) (v := v) (by simpa using hv)
  have ez : z = (f i : Int) := by
    rw [List.getElem?_map, List.getElem?_range (by omega)] at hz'
    exact (Option.some.inj hz').symm
  subst ez
  change wpAny _ _ (assign (.Name _ _) _ _) _ _ _
  refine wpAny_assign_Name (cStore (env := cEnv (cScp c5) [] C lawEnv) hm fun h₂ hn₂ hs₂ => ?_)
  have kk : ∀ (b : Nat) (o : Obj), b ≠ C → h0.get? b = some o → h₂.get? b = some o := fun b o hb e => hs₂.extBut b o hb e
  have kg : ∀ (b : Nat) (o : Obj), g.get? b = some o → h₂.get? b = some o := fun b o e => kk b o (ne_lt (Nat.lt_trans (Heap.lt_size e) hC)) (hk b o e)
  have X₂ : Base w h₂ := X.keeps kg
  change wpAny _ _ (eval (.Call _ _ _ _) _) _ _ _
  dsimp only
  iterate 1 walk1
  refine bname (w := w) X₂ (n_str _) (b_str _) ?_
  iterate 3 walk1
  refine gname (w := w) X₂ (g_single _) ?_
  refine callWith_F (fn_21 (w := w) X₂) ?_
  iterate 1 walk1
  refine cLoc hn₂ (if_pos rfl) ?_
  iterate 1 walk1
  refine ⟨fn_21 (w := w) X₂, ?_⟩
  refine useB (single_ok ⟨rfl, by decide, by decide⟩ X₂) fun h₃ tk₃ k₃ => ?_
  iterate 1 walk1
  refine PySem.P.str_of_bool ?_
  exact ⟨⟨_, _, rfl, fun b o hb e => k₃ b o (kk b o (by omega) e)⟩, ⟨_, hn₂.at' fun o e => k₃ _ o e⟩, trivial, _, rfl⟩
/-- the k-th bit of n -/
noncomputable def bitV (n : Nat) (k : Nat) : Int := ((n / 2 ^ k % 2 : Nat) : Int)
noncomputable def in5 : Expr := match cElt d5 with | .Call _ (.Compare (.Call _ (e :: _) _ _) _ _ _ :: _) _ _ => e | _ => default
theorem kindCell (f : Nat → Bool) : Kind (cScp d5) 1 (fun C h => ∃ v, h.IsCell (C + 1) v) (GS f) where
  hk := fun h => by
    show (h.push { cls := .type "cell", data := .cell none }).objs.size = _
    rw [Heap.size_push]
  hJ0 := fun h => by
    refine ⟨none, { cls := .type "cell", data := .cell none }, ?_, rfl⟩
    show ((h.push _).push { cls := .type "cell", data := .cell none }).get? (h.objs.size + 1) = _
    exact push_at (Heap.size_push ..) rfl
  hJk := fun C h h' ⟨v, o, e, r⟩ k => ⟨v, o, k _ _ (Nat.lt_succ_self _) (Nat.le_refl _) e, r⟩
  hJe := fun C h ⟨v, o, e, r⟩ _ => Heap.lt_size e
  hG := fun _ _ _ _ _ h _ => h
/-- the environment of the outer comprehension -/
noncomputable def oEnv (C : Nat) : Env := cEnv (cScp d5) [] C lawEnv
theorem turnIn {w : World} {A : Around} {g : Heap} {n C : Nat} {t : Tok} (hn : n < 2 ^ 24) (hc : g.IsCell (C + 1) (some (.int n t))) :
    Turn w A (oEnv C) (cElt in5) (cTgt in5) (cScp in5) [(Str.ofString "step", C + 1)] 0 (fun _ _ => True) (GI fun k => bitV n k) g 24 (fun i v _ => ∃ t, v = .int (0 + i) t) := by
  rintro D i v s₃ E' hC hlt ⟨u, rfl⟩ ⟨m, hm⟩ _ hz hk
  obtain ⟨h0, ge, dr, tk0, os⟩ := s₃
  dsimp only at hm hz hk
  change wpAny _ _ (assign (.Name _ _) _ _) _ _ _
  refine wpAny_assign_Name (cStore (env := cEnv (cScp in5) [(Str.ofString "step", C + 1)] D (oEnv C)) hm fun h₂ hn₂ hs₂ => ?_)
  have kk : ∀ (b : Nat) (o : Obj), b ≠ D → h0.get? b = some o → h₂.get? b = some o := fun b o hb e => hs₂.extBut b o hb e
  have kg : ∀ (b : Nat) (o : Obj), g.get? b = some o → h₂.get? b = some o := fun b o e => kk b o (ne_lt (Nat.lt_trans (Heap.lt_size e) hC)) (hk b o e)
  have hc2 : h₂.IsCell (C + 1) (some (.int n t)) := by obtain ⟨o, e, r⟩ := hc; exact ⟨o, kg _ _ e, r⟩
  change wpAny _ _ (eval (.BinOp _ _ _ _) _) _ _ _
  dsimp only
  iterate 2 walk1
  refine cCell hc2 ?_
  iterate 2 walk1
  refine cLoc hn₂ (if_pos rfl) ?_
  rw [show (0 : Int) + (i : Nat) = (i : Nat) by omega]
  refine pow2 (by omega) fun tk₁ u₁ => ?_
  dsimp only
  have hpow : ((2 : Int) ^ i).natAbs < 1073741824 := by
    rw [Int.natAbs_pow]
    exact Nat.lt_of_le_of_lt (Nat.pow_le_pow_right (by decide) (by omega : i ≤ 24)) (by decide)
  refine floordiv_int (Int.ne_of_gt (Int.pow_pos (by decide))) ?_ (Or.inl (PyProof.noPylong_small hpow))
  iterate 1 walk1
  refine mod_int' (by decide) ?_
  have e : ((n : Int).fdiv (2 ^ i)).fmod 2 = bitV n i := by
    rw [fdiv_pow, Int.fmod_eq_emod_of_nonneg _ (by decide)]
    unfold bitV
    omega
  exact ⟨⟨_, _, rfl, fun b o hb e => kk b o (by omega) e⟩, ⟨_, hn₂⟩, trivial, _, congrArg (fun z => Value.int z _) e⟩
theorem turn5b {w : World} {g : Heap} {items : Array Value} {f : Nat → Nat} {n : Nat} (X : Base w g) (hi : IntsAre items.toList ((List.range n).map fun i => (f i : Int))) (hf : ∀ i, i < n → f i < 2 ^ 24) :
    Turn w (As 30) lawEnv (cElt d5) (cTgt d5) (cScp d5) [] 1 (fun C h => ∃ v, h.IsCell (C + 1) v) (GS fun i => preSum (bitV (f i)) 24 == 1) g items.size (fun i v _ => items[i]? = some v) := by
  rintro C i v s₃ E' hC hlt hv ⟨m, hm⟩ ⟨v0, hJ⟩ hz hk
  obtain ⟨h0, ge, dr, tk0, os⟩ := s₃
  dsimp only at hm hz hk hJ
  have hsz : items.size = n := by have := hi.length; simpa using this
  obtain ⟨z, hz', t, rfl⟩ := ints_get hi (i := i) (v := v) (by simpa using hv)
  have ez : z = (f i : Int) := by
    rw [List.getElem?_map, List.getElem?_range (by omega)] at hz'
    exact (Option.some.inj hz').symm
  subst ez
  change wpAny _ _ (assign (.Name _ _) _ _) _ _ _
  refine wpAny_assign_Name (wpAny_storeName_cell (env := oEnv C) rfl rfl rfl hJ fun h₂ hv₂ hs₂ => ?_)
  have kk : ∀ (b : Nat) (o : Obj), b ≠ C + 1 → h0.get? b = some o → h₂.get? b = some o := fun b o hb e => hs₂.extBut b o hb e
  have kg : ∀ (b : Nat) (o : Obj), g.get? b = some o → h₂.get? b = some o := fun b o e => kk b o (ne_lt (Nat.lt_succ_of_lt (Nat.lt_trans (Heap.lt_size e) hC))) (hk b o e)
  have X₂ : Base w h₂ := X.keeps kg
  have hn₂ : h₂.Ns C m := hm.at' fun o e => kk _ o (ne_lt (Nat.lt_succ_self _)) e
  have hz2 : h₂.objs.size = h0.objs.size := hs₂.1
  change wpAny _ _ (eval (.Call _ _ _ _) _) _ _ _
  dsimp only
  iterate 1 walk1
  refine bname (w := w) X₂ (n_str _) (b_str _) ?_
  iterate 4 walk1
  refine bname (w := w) X₂ (n_sum _) (b_sum _) ?_
  iterate 2 walk1
  change wpAny _ _ (eval (.ListComp _ [⟨_, _, [], 0⟩] _ _) _) _ _ _
  refine comp_ev (kindI (fun k => bitV (f i) k) (fun h => rfl)) (cl := [(Str.ofString "step", C + 1)]) rfl rfl (by decide) ?_
  iterate 1 walk1
  refine bname (w := w) X₂ (n_range _) (b_range _) ?_
  iterate 4 walk1
  refine call_range_1 ?_
  dsimp only
  have hr : IsRange (h₂.push { cls := .type "range", data := .fields #[.int 0 (tk0 + 1), .int 24 tk0, .int 1 (tk0 + 1 + 1)] }) h₂.objs.size 0 24 1 (tk0 + 1) tk0 (tk0 + 1 + 1) := IsRange.new _ _ _ _ _ _ _
  have hk3 : ∀ b o, h₂.get? b = some o → (h₂.push { cls := .type "range", data := .fields #[.int 0 (tk0 + 1), .int 24 tk0, .int 1 (tk0 + 1 + 1)] }).get? b = some o := fun b o e => Heap.get?_push_of_some _ e
  have hz3 : (h₂.push { cls := .type "range", data := .fields #[.int 0 (tk0 + 1), .int 24 tk0, .int 1 (tk0 + 1 + 1)] }).objs.size = h₂.objs.size + 1 := Heap.size_push ..
  generalize (h₂.push { cls := .type "range", data := .fields #[.int 0 (tk0 + 1), .int 24 tk0, .int 1 (tk0 + 1 + 1)] }) = h₃ at *
  refine ⟨h₃, 24, _, by decide, src_range (s := { heap := h₃, gens := ge, drawn := dr, toks := _, os := os }) rfl hr (by decide) (by decide), turnIn (hf i (by omega)) (by obtain ⟨o, e, r⟩ := hv₂; exact ⟨o, hk3 _ _ e, r⟩), ?_⟩
  intro D C' h' tk ys hD hDC hpl hys hG hkeep
  have hL : h'.IsList D ys := hpl.isList
  have hDlt : D < h'.objs.size := by obtain ⟨_, e, _⟩ := hL; exact Heap.lt_size e
  iterate 1 walk1
  refine call_sum_walkG (wpAny_pyIter_list hL ?_)
  refine ⟨_, _, _, _, _, _, bitV (f i), rfl, Walks.list rfl h'.objs.size D (ne_lt hDlt) ys, ⟨⟨_, Heap.get?_push_size _ rfl, rfl, rfl⟩, hL.push _⟩, ?_, ?_, ?_⟩
  · intro b hb
    show b < (h'.push _).objs.size
    rw [Heap.size_push]
    rcases List.mem_cons.mp hb with rfl | hb
    · exact Nat.lt_succ_self _
    · rw [List.mem_singleton.mp hb]; exact Nat.lt_succ_of_lt hDlt
  · intro j v hv
    obtain ⟨t', e⟩ := hG j v hv
    exact ⟨t', e⟩
  · intro h4 tk4 t4 k4
    have kAll : ∀ (b : Nat) (o : Obj), h₂.get? b = some o → h4.get? b = some o := fun b o e => by
      have e2 := hkeep b o (hk3 b o e)
      refine k4 b o ?_ (Heap.get?_push_of_some _ e2)
      intro hm
      rw [List.mem_singleton.mp hm] at e2
      exact absurd (Heap.lt_size e2) (Nat.lt_irrefl _)
    iterate 3 walk1
    refine PySem.P.str_of_bool ?_
    rw [hys]
    dsimp only
    refine ⟨⟨_, _, rfl, fun b o hb e => kAll b o (kk b o (by omega) e)⟩, ⟨_, hn₂.at' fun o e => kAll _ o e⟩, ⟨some (.int (f i) t), ?_⟩, _, rfl⟩
    obtain ⟨o, e, r⟩ := hv₂
    exact ⟨o, kAll _ _ e, r⟩
end Mine
end
section -- LMath3
open PySem PySem.Calls PySem.W PySem.W.X PyProof.Rows PySem.Spec PySem.SeqAt
set_option Elab.async false
set_option maxRecDepth 100000
set_option linter.unusedVariables false
namespace Mine
theorem pop_pre (n : Nat) : ∀ m, preSum (bitV n) m = (((List.range m).foldl (fun s k => s + n / 2 ^ k % 2) 0 : Nat) : Int) := by
  intro m
  induction m with
  | zero => rfl
  | succ m ih =>
    rw [List.range_succ, List.foldl_append, List.foldl_cons, List.foldl_nil]
    show preSum (bitV n) m + bitV n m = _
    rw [ih]
    unfold bitV
    omega
noncomputable def popc (n m : Nat) : Nat := (List.range m).foldl (fun s k => s + n / 2 ^ k % 2) 0
theorem popc_acc (n : Nat) : ∀ (l : List Nat) (a : Nat), l.foldl (fun s k => s + n / 2 ^ k % 2) a = a + l.foldl (fun s k => s + n / 2 ^ k % 2) 0 := by
  intro l
  induction l with
  | nil => intro a; simp
  | cons k l ih =>
    intro a
    rw [List.foldl_cons, List.foldl_cons, ih, ih (0 + n / 2 ^ k % 2)]
    omega
theorem popc_succ (n m : Nat) : popc n (m + 1) = n % 2 + popc (n / 2) m := by
  unfold popc
  have e : (fun (x y : Nat) => x + n / 2 ^ y.succ % 2) = (fun s k => s + n / 2 / 2 ^ k % 2) := by
    funext s k
    rw [Nat.pow_succ', ← Nat.div_div_eq_div_mul]
  rw [List.range_succ_eq_map, List.foldl_cons, List.foldl_map, e, popc_acc (n / 2)]
  simp
theorem popc_zero : ∀ m c, c < 2 ^ m → (popc c m = 0 ↔ c = 0) := by
  intro m
  induction m with
  | zero => intro c h; simp [popc]; omega
  | succ m ih =>
    intro c h
    have := ih (c / 2) (by rw [Nat.pow_succ'] at h; omega)
    rw [popc_succ]
    omega
theorem and_pred : ∀ m n, 0 < n → n < 2 ^ m → (n &&& (n - 1) = 0 ↔ popc n m = 1) := by
  intro m
  induction m with
  | zero => intro n h1 h2; omega
  | succ m ih =>
    intro n h1 h2
    rw [Nat.pow_succ'] at h2
    have d : (n &&& (n - 1)) / 2 = n / 2 &&& (n - 1) / 2 := Nat.and_div_two
    have e4 : (n &&& (n - 1)) % 2 = 1 ↔ n % 2 = 1 ∧ (n - 1) % 2 = 1 := Nat.and_mod_two_eq_one
    have e5 : (n &&& (n - 1)) % 2 = 0 := by omega
    rw [popc_succ]
    by_cases r : n % 2 = 1
    · have c1 : (n - 1) / 2 = n / 2 := by omega
      rw [c1, Nat.and_self] at d
      have z := popc_zero m (n / 2) (by omega)
      omega
    · have c1 : (n - 1) / 2 = n / 2 - 1 := by omega
      rw [c1] at d
      have z := ih (n / 2) (by omega) (by omega)
      omega
theorem single_nat (n : Nat) : isSingle (n : Int) = (decide (n ≠ 0) && decide (n &&& (n - 1) = 0)) := by
  unfold isSingle
  by_cases h : n = 0
  · subst h; rfl
  · rw [if_neg (by omega), show ((n : Int) - 1) = ((n - 1 : Nat) : Int) by omega, bitAnd_nat]
    simp [h]
theorem single_pop {n m : Nat} (h : n < 2 ^ m) : isSingle (n : Int) = (popc n m == 1) := by
  rw [single_nat]
  by_cases h0 : n = 0
  · subst h0
    have := (popc_zero m 0 h).mpr rfl
    rw [this]; rfl
  · have := and_pred m n (by omega) h
    by_cases q : n &&& (n - 1) = 0
    · simp [h0, q, this.mp q]
    · have q2 : popc n m ≠ 1 := fun z => q (this.mpr z)
      simp [q, q2]
theorem single_sum {n : Nat} (h : n < 2 ^ 24) : isSingle (n : Int) = (preSum (bitV n) 24 == 1) := by
  rw [single_pop h, pop_pre]
  have : ((popc n 24 : Nat) : Int) = (((List.range 24).foldl (fun s k => s + n / 2 ^ k % 2) 0 : Nat) : Int) := rfl
  rw [← this]
  by_cases q : popc n 24 = 1
  · simp [q]
  · have : ((popc n 24 : Nat) : Int) ≠ 1 := by omega
    rw [beq_eq_false_iff_ne.mpr q, beq_eq_false_iff_ne.mpr this]
end Mine
end
section -- LSt5b
open PySem PySem.Calls PySem.W PySem.W.X PyProof.Rows PySem.Spec PySem.SeqAt
set_option Elab.async false
set_option maxRecDepth 100000
set_option maxHeartbeats 1000000
set_option linter.unusedVariables false
namespace Mine
theorem strs_of {f : Nat → Bool} {ys : Array Value} {n C : Nat} {h : Heap} (hn : ys.size = n) (hG : ∀ i y, ys[i]? = some y → GS f C i y h) : StrsAre' ys.toList (((List.range n).map f).map bS) := by
  refine ⟨by simp [hn], fun i y e => ?_⟩
  have hi : i < n := by
    have := (List.getElem?_eq_some_iff.mp e).1
    simpa [hn] using this
  obtain ⟨t, rfl⟩ := hG i y (by simpa using e)
  exact ⟨t, bS (f i), by rw [List.getElem?_map, List.getElem?_map, List.getElem?_range hi]; rfl, rfl⟩
theorem st5 {w : World} {E : Value → Shared → Prop} {s₁ s : Shared} {m : Str → Option Value} {cr : Option Value} {T : Addr} {ys : List Value} {f : Nat → Nat} {n : Nat} {e77 : Array Value} {Q : Flow → Shared → Prop} (X : Base w s₁.heap) (x : LS w s₁ s m cr none e77) (hm : m (Str.ofString "steps") = some (.ref T))
    (hl : s.heap.IsList T ys.toArray) (hi : IntsAre ys ((List.range n).map fun i => (f i : Int))) (hn : n ≤ 100) (hf : ∀ i, i < n → f i < 2 ^ 24)
    (h : ∀ s', LS w s₁ s' m cr none e77 → Q .next s') :
    wpAny (model prg w) (As 30) (exec (stL 5) lawEnv) Q E s := by
  change wpAny _ _ (exec (.If _ _ _ _) _) _ _ _
  have Xs := x.base X
  obtain ⟨h0, ge, dr, tk0, os⟩ := s
  have hys : ys.length = n := by have := hi.length; simpa using this
  iterate 2 walk1
  change wpAny _ _ (eval (.ListComp _ [⟨_, _, [], 0⟩] _ _) _) _ _ _
  refine comp_ev (kindS (fun i => isSingle (f i)) (fun h => rfl)) (cl := []) rfl rfl (by decide) ?_
  refine cLoc x.ns hm ?_
  refine ⟨h0, ys.toArray.size, _, by rw [List.size_toArray]; omega, src_list rfl hl, turn5a Xs (by simpa using hi), ?_⟩
  intro D C h1 tk1 zs hD hDC hpl hzs hG hkeep
  have x1 : LS w s₁ { heap := h1, gens := ge, drawn := dr, toks := tk1, os := os } m cr none e77 := x.step (x.ns.at' fun o e => hkeep _ o e) (fun b o _ _ e => hkeep b o e) (x.t46.keeps hkeep)
  have A1 : StrsAre' zs.toList (((List.range n).map fun i => isSingle (f i)).map bS) := strs_of (by rw [hzs, List.size_toArray, hys]) hG
  have L1 : h1.IsList D zs.toList.toArray := by simpa using hpl.isList
  change wpAny _ _ (eval (.ListComp _ [⟨_, _, [], 0⟩] _ _) _) _ _ _
  refine comp_ev (kindCell (fun i => preSum (bitV (f i)) 24 == 1)) (cl := []) rfl rfl (by decide) ?_
  refine cLoc x1.ns hm ?_
  have kl : ∀ l its, h0.IsList l its → h1.IsList l its := fun l its hl => hl.at fun o e => hkeep _ o e
  refine ⟨h1, ys.toArray.size, _, by rw [List.size_toArray]; omega, src_list (s := { heap := h1, gens := ge, drawn := dr, toks := tk1, os := os }) rfl (kl _ _ hl), turn5b (x1.base X) (by simpa using hi) hf, ?_⟩
  intro D' C' h2 tk2 zs' hD' hDC' hpl' hzs' hG' hkeep'
  have x2 : LS w s₁ { heap := h2, gens := ge, drawn := dr, toks := tk2, os := os } m cr none e77 := x1.step (x1.ns.at' fun o e => hkeep' _ o e) (fun b o _ _ e => hkeep' b o e) (x1.t46.keeps hkeep')
  have A2 : StrsAre' zs'.toList (((List.range n).map fun i => preSum (bitV (f i)) 24 == 1).map bS) := strs_of (by rw [hzs', List.size_toArray, hys]) hG'
  have L2 : h2.IsList D' zs'.toList.toArray := by simpa using hpl'.isList
  have eb : ((List.range n).map fun i => preSum (bitV (f i)) 24 == 1) = ((List.range n).map fun i => isSingle (f i)) := List.map_congr_left fun i hi => (single_sum (hf i (List.mem_range.mp hi))).symm
  rw [eb] at A2
  refine ne_strs (bS_ok _) (Nat.le_of_ble_eq_true rfl) A1 A2 (L1.at fun o e => hkeep' _ o e) L2 ?_
  refine wpAny_truthy_bool ?_
  rw [if_neg (by decide)]
  exact wpAny_execs_nil (h _ x2)
end Mine
end
section -- LSets
open PySem PySem.Calls PySem.W PySem.W.X PyProof.Rows PySem.Spec PySem.SeqAt
set_option Elab.async false
set_option maxRecDepth 100000
set_option maxHeartbeats 1000000
set_option linter.unusedVariables false
namespace Mine
/-- a new list of these ints comes back, all that stood stands -/
noncomputable def RetL (s : Shared) (zs : List Int) (v : Value) (s' : Shared) : Prop := ∃ D vs h' tk, v = .ref D ∧ s' = { s with heap := h', toks := tk } ∧ s.heap.objs.size ≤ D ∧ h'.IsList D (List.toArray vs) ∧ IntsAre vs zs ∧ ∀ b o, s.heap.get? b = some o → h'.get? b = some o
theorem useL {M : Model} {A : Around} {t : Sem Value} {zs : List Int} {Q E : Value → Shared → Prop} {s : Shared} (hc : wpAny M A t (RetL s zs) E s)
    (h : ∀ D vs h' tk, s.heap.objs.size ≤ D → h'.IsList D (List.toArray vs) → IntsAre vs zs → (∀ b o, s.heap.get? b = some o → h'.get? b = some o) → Q (.ref D) { s with heap := h', toks := tk }) : wpAny M A t Q E s :=
  wpAny_mono hc (fun v s' hv => by obtain ⟨D, vs, h', tk, rfl, rfl, a, b, c, d⟩ := hv; exact h D vs h' tk a b c d) fun _ _ e => e
noncomputable def setsL (ps : List Nat) : List Int := ps.foldl (fun S p => S ++ S.map fun z => z + 2 ^ p) [0]
theorem setsL_snoc (ps : List Nat) (p : Nat) : setsL (ps ++ [p]) = setsL ps ++ (setsL ps).map fun z => z + 2 ^ p := by simp [setsL]
theorem setsL_len (ps : List Nat) : (setsL ps).length = 2 ^ ps.length := by
  have h : ∀ (ps : List Nat) (S : List Int), (ps.foldl (fun S p => S ++ S.map fun z => z + 2 ^ p) S).length = S.length * 2 ^ ps.length := by
    intro ps
    induction ps with
    | nil => intro S; simp
    | cons p ps ih =>
      intro S
      rw [List.foldl_cons, ih, List.length_append, List.length_map, List.length_cons, Nat.pow_succ', Nat.add_mul]
      rw [Nat.two_mul, Nat.mul_add]
  rw [setsL, h]
  simp
theorem range_getD (S : List Int) (c : Int) : ((List.range S.length).map fun j => S.getD j 0 + c) = S.map fun z => z + c := by
  apply List.ext_getElem
  · simp
  · intro i h1 h2
    have hi : i < S.length := by simpa using h1
    simp [List.getD_eq_getElem?_getD, List.getElem?_eq_getElem hi]
theorem for_list {w : World} {A : Around} {E : Value → Shared → Prop} {s : Shared} {env : Env} {target : Expr} {body : List Stmt} {ax : Addr} {items : Array Value} {R : Result → Shared → Prop} (hh : A.handled = none) (hl : s.heap.IsList ax items) {own : Nat → Prop} (hI : ¬ own s.heap.objs.size) (hax : ¬ own ax) (Inv : Nat → Heap → Prop)
    (hst : ∀ i h h', Inv i h → (∀ (b : Nat) (o : Obj), b ≠ s.heap.objs.size → h.get? b = some o → h'.get? b = some o) → Inv i h') (h0 : Inv 0 s.heap)
    (turn : ∀ i v h tk, items[i]? = some v → Inv i h → s.heap.objs.size < h.objs.size → wpAny (model prg w) A (assign target env v) (fun _ s₂ => wpAny (model prg w) A (execs body env)
      (fun f s₃ => f = .next ∧ ∃ h' tk', s₃ = { s with heap := h', toks := tk' } ∧ Inv (i + 1) h' ∧ ∀ (b : Nat) (o : Obj), ¬ own b → h.get? b = some o → h'.get? b = some o) (fun _ _ => False) s₂) (fun _ _ => False) { s with heap := h, toks := tk })
    (done : ∀ h tk, Inv items.size h → R (.ok .next) { s with heap := h, toks := tk }) :
    wpAny (model prg w) A (pyIter (.ref ax)) (fun it s₂ => codeAny (model prg w) A (.forLoop target it body [] env) R s₂) E s := by
  have hlt : ax < s.heap.objs.size := by obtain ⟨_, e, _⟩ := hl; exact Heap.lt_size e
  have W := Walks.list (prog := prg) (w := w) (A := A) hh s.heap.objs.size ax (ne_lt hlt) items
  refine wpAny_pyIter_list hl ?_
  refine codeAny_forLoop_any (fun j s' => ∃ h tk i, s' = { s with heap := h, toks := tk } ∧ (h.IsListIter s.heap.objs.size ax i ∧ h.IsList ax items) ∧ Inv i h ∧ i ≤ items.size ∧ j = items.size - i) ?_ items.size
    ⟨_, _, 0, rfl, ⟨⟨_, Heap.get?_push_size _ rfl, rfl, rfl⟩, hl.push _⟩, hst _ _ _ h0 fun b o _ e => Heap.get?_push_of_some _ e, Nat.zero_le _, rfl⟩
  rintro j s' ⟨h, tk, i, rfl, st, inv, hi, rfl⟩
  by_cases hlt' : i < items.size
  · refine W.item i _ _ _ hlt' st fun v h₁ tk₁ hv st₁ hk₁ => ?_
    dsimp only at hk₁
    have inv₁ := hst _ _ _ inv fun (b : Nat) o hb e => hk₁ b o (fun hm => hb (List.mem_singleton.mp hm)) e
    refine letGo_listiter st₁.1 ?_
    refine wpAny_mono (turn i v h₁ tk₁ hv inv₁ (by obtain ⟨_, e, _⟩ := st₁.1; exact Heap.lt_size e)) (fun _ s₂ h₂ => wpAny_mono h₂ (fun f s₃ h₃ => ?_) fun _ _ e => e.elim) fun _ _ e => e.elim
    obtain ⟨rfl, h', tk', rfl, inv', k'⟩ := h₃
    exact ⟨items.size - (i + 1), by omega, h', tk', i + 1, rfl, ⟨st₁.1.at fun o e => k' _ o hI e, st₁.2.at fun o e => k' _ o hax e⟩, inv', hlt', rfl⟩
  · obtain rfl : i = items.size := by omega
    refine W.done _ _ _ st fun h₁ tk₁ hk₁ => wpAny_execs_nil ?_
    exact done h₁ tk₁ (hst _ _ _ inv fun (b : Nat) o hb e => hk₁ b o (fun hm => hb (List.mem_singleton.mp hm)) e)
noncomputable def forB : Stmt → List Stmt | .For _ _ b _ _ => b | _ => []
noncomputable def asgV : Stmt → Expr | .Assign _ e _ => e | _ => default
noncomputable def binR : Expr → Expr | .BinOp _ _ r _ => r | _ => default
noncomputable def cS : Expr := binR (asgV ((forB ((bodyS (st 11)).getD 1 default)).getD 0 default))
noncomputable def sEnv (L : Nat) : Env := envOfC (nmS (st 11)) (scopeS (st 11)) L 70 (.ref 69)
theorem turnS {w : World} {A : Around} {g : Heap} {items : Array Value} {zs : List Int} {L p : Nat} {t : Tok} (hp : p ≤ 64) (hc : g.IsCell (L + 1) (some (.int p t))) (hi : IntsAre items.toList zs) :
    Turn w A (sEnv L) (cElt cS) (cTgt cS) (cScp cS) [(Str.ofString "place", L + 1)] 0 (fun _ _ => True) (GI fun i => zs.getD i 0 + 2 ^ p) g items.size (fun i v _ => items[i]? = some v) := by
  rintro D i v s₃ E' hC hlt hv ⟨m, hm⟩ _ hz hk
  obtain ⟨z, hz', u, rfl⟩ := ints_get hi (i := i) (v := v) (by simpa using hv)
  obtain ⟨h0, ge, dr, tk0, os⟩ := s₃
  dsimp only at hm hz hk
  change wpAny _ _ (assign (.Name _ _) _ _) _ _ _
  refine wpAny_assign_Name (cStore (env := cEnv (cScp cS) [(Str.ofString "place", L + 1)] D (sEnv L)) hm fun h₂ hn₂ hs₂ => ?_)
  have kk : ∀ (b : Nat) (o : Obj), b ≠ D → h0.get? b = some o → h₂.get? b = some o := fun b o hb e => hs₂.extBut b o hb e
  have kg : ∀ (b : Nat) (o : Obj), g.get? b = some o → h₂.get? b = some o := fun b o e => kk b o (ne_lt (Nat.lt_trans (Heap.lt_size e) hC)) (hk b o e)
  have hc2 : h₂.IsCell (L + 1) (some (.int p t)) := by obtain ⟨o, e, r⟩ := hc; exact ⟨o, kg _ _ e, r⟩
  change wpAny _ _ (eval (.BinOp _ _ _ _) _) _ _ _
  dsimp only
  iterate 1 walk1
  refine cLoc hn₂ (if_pos rfl) ?_
  iterate 2 walk1
  refine cCell hc2 ?_
  refine pow2 hp fun tk₁ u₁ => ?_
  dsimp only
  iterate 1 walk1
  have e : z = zs.getD i 0 := by rw [List.getD_eq_getElem?_getD, hz']; rfl
  exact ⟨⟨_, _, rfl, fun b o hb e => kk b o (by omega) e⟩, ⟨_, hn₂⟩, trivial, _, congrArg (fun z => Value.int (z + 2 ^ p) _) e⟩
theorem f_setsx {w : World} {h : Heap} (X : Base w h) : ∃ o pm doc, h.get? 70 = some o ∧ o.data = .func (fn 11 pm (.ref 69) doc) ∧ h.CodeRec (.ref 69) (nmS (st 11)) := ⟨_, _, _, X 70 _ rfl, rfl, 69, _, _, _, rfl, X 69 _ rfl, rfl, rfl⟩
theorem sets_ok {w : World} {A : Around} {E : Value → Shared → Prop} {s : Shared} {l : Addr} {vs : List Value} {ps : List Nat} (hA : Ok 1 A) (X : Base w s.heap) (hl : s.heap.IsList l vs.toArray) (hi : IntsAre vs (ps.map fun (p : Nat) => (p : Int))) (hps : ∀ p ∈ ps, p ≤ 64) (h4 : ps.length ≤ 4) :
    wpAny (model prg w) A (call (.ref 70) [.ref l]) (RetL s (setsL ps)) E s := by
  refine hA.run ?_
  obtain ⟨o, pm, doc, ho, hd, hcd⟩ := f_setsx X
  refine wpAny_call (call_cellsN_ret (binds := [(Str.ofString "places", .ref l)]) (by decide) ho hd (nolim X) hcd rfl ?_ (by decide) (fun h₁ tk cells F N C => ?_))
  · intro x hx
    rw [List.mem_singleton.mp hx]
    exact .inl rfl
  change wpAny _ _ (execs [_, _, _] _) _ _ _
  obtain ⟨oc, rfl, hoc⟩ := CellsAre.one C
  change Fr _ _ _ (fun y => if y = Str.ofString "places" then some (.ref l) else none) at F
  have hcell : h₁.IsCell (s.heap.objs.size + 1) none := ⟨oc, (N _ (.head _)).1, hoc⟩
  clear C N
  have hn1 := F.ns
  have k1 := F.keep
  clear F hoc
  generalize hL : s.heap.objs.size = L at *
  change wpAny _ _ (execs _ (sEnv L)) _ _ _
  change h₁.Ns L _ at hn1
  refine wpAny_execs_cons ?_
  change wpAny _ _ (exec (.Assign [_] (.List _ _) _) _) _ _ _
  iterate 1 walk1
  refine List_ ?_
  iterate 3 walk1
  refine wpAny_newList ?_ (by show 1 ≤ sizeLine; rw [sizeLine_eq]; decide)
  dsimp only
  refine cStore (env := sEnv L) (hn1.push _) fun h₂ hn₂ hs₂ => ?_
  change h₂.Ns L _ at hn₂
  have hLz : L < h₁.objs.size := hn1.lt
  have kk2 : ∀ (b : Nat) (o : Obj), b ≠ L → h₁.get? b = some o → h₂.get? b = some o := fun b o hb e => hs₂.extBut b o hb (Heap.get?_push_of_some _ e)
  have hS2 : h₂.IsList h₁.objs.size (List.toArray [.int 0 tk]) := ⟨_, hs₂.extBut _ _ (ne_gt hLz) (Heap.get?_push_size _ rfl), rfl, _, rfl⟩
  have hc2 : h₂.IsCell (L + 1) none := by obtain ⟨o, e, r⟩ := hcell; exact ⟨o, kk2 _ _ (ne_gt (Nat.lt_succ_self _)) e, r⟩
  refine wpAny_execs_cons (wpAny_For ?_)
  refine cLoc (env := sEnv L) hn₂ ((if_neg (by decide)).trans (if_pos rfl)) ?_
  obtain ⟨h00, ge, dr, tk00, os⟩ := s
  dsimp only at hL hl X k1 ⊢
  have hLs : L < h₂.objs.size := hn₂.lt
  have hkl : ∀ (b : Nat) (o : Obj), h00.get? b = some o → h₂.get? b = some o := fun b o e => kk2 b o (ne_lt (Nat.lt_of_lt_of_eq (Heap.lt_size e) hL)) (k1 b o e)
  have hl2 : h₂.IsList l vs.toArray := hl.at fun o e => hkl _ o e
  have hlL : l < L := by obtain ⟨_, e, _⟩ := hl; exact Nat.lt_of_lt_of_eq (Heap.lt_size e) hL
  refine for_list (s := { heap := h₂, gens := ge, drawn := dr, toks := _, os := os }) (own := fun b => b = L ∨ b = L + 1) rfl hl2 (fun q => ?_) (fun q => ?_)
    (fun i h => ∃ S zs m, h.Ns L m ∧ m (Str.ofString "sets") = some (.ref S) ∧ L < S ∧ S ≠ h₂.objs.size ∧ h.IsList S (List.toArray zs) ∧ IntsAre zs (setsL (ps.take i)) ∧ (∃ v, h.IsCell (L + 1) v) ∧ ∀ (b : Nat) (o : Obj), h00.get? b = some o → h.get? b = some o) ?_ ?_ ?_ ?_
  · have hc' : L + 1 < h₂.objs.size := by obtain ⟨o, e, _⟩ := hc2; exact Heap.lt_size e
    rcases q with q | q
    · exact absurd q (ne_gt hLs)
    · exact absurd q (ne_gt hc')
  · rcases q with q | q
    · exact absurd q (ne_lt hlL)
    · exact absurd q (ne_lt (Nat.lt_succ_of_lt hlL))
  · rintro i h h' ⟨S, zs, m, a1, a2, a3, a4, a5, a6, ⟨v, o, e, r⟩, a8⟩ k
    have hc' : L + 1 < h₂.objs.size := by obtain ⟨o, e, _⟩ := hc2; exact Heap.lt_size e
    exact ⟨S, zs, m, a1.at' fun o e => k _ o (ne_lt hLs) e, a2, a3, a4, a5.at fun o e => k _ o a4 e, a6, ⟨v, o, k _ _ (ne_lt hc') e, r⟩, fun b o e => k b o (ne_lt (Nat.lt_trans (Nat.lt_of_lt_of_eq (Heap.lt_size e) hL) hLs)) (a8 b o e)⟩
  · exact ⟨_, _, _, hn₂, if_pos rfl, hLz, ne_lt (Nat.lt_of_lt_of_eq (Nat.lt_succ_self _) (by rw [hs₂.1, Heap.size_push])), hS2, .cons _ _ .nil, ⟨none, hc2⟩, hkl⟩
  · rintro i v h tkk hv ⟨S, zs, m, a1, a2, a3, a4, a5, a6, ⟨v0, a7⟩, a8⟩ hsz
    obtain ⟨z, hz, t, rfl⟩ := ints_get hi (i := i) (v := v) (by simpa using hv)
    rw [List.getElem?_map] at hz
    obtain ⟨p, hp, rfl⟩ := Option.map_eq_some_iff.mp hz
    have hpm : p ∈ ps := List.mem_of_getElem? hp
    have hcL : L + 1 < h.objs.size := by obtain ⟨o, e, _⟩ := a7; exact Heap.lt_size e
    refine wpAny_assign_Name (wpAny_storeName_cell (env := sEnv L) rfl rfl rfl a7 fun h3 hv3 hs3 => ?_)
    have kk3 : ∀ (b : Nat) (o : Obj), b ≠ L + 1 → h.get? b = some o → h3.get? b = some o := fun b o hb e => hs3.extBut b o hb e
    have hn3 : h3.Ns L m := a1.at' fun o e => kk3 _ o (ne_lt (Nat.lt_succ_self _)) e
    have hS3 : h3.IsList S (List.toArray zs) := cell_list a7 a5 hs3
    refine wpAny_execs_cons ?_
    change wpAny _ _ (exec (.Assign [_] (.BinOp _ _ _ _) _) _) _ _ _
    dsimp only
    iterate 2 walk1
    refine cLoc (env := sEnv L) hn3 a2 ?_
    change wpAny _ _ (eval (.ListComp _ [⟨_, _, [], 0⟩] _ _) _) _ _ _
    have hzl : zs.length ≤ 16 := by
      rw [a6.length, setsL_len]
      have : (ps.take i).length ≤ 4 := by
        rw [List.length_take]
        exact Nat.le_trans (Nat.min_le_right _ _) h4
      exact Nat.le_trans (Nat.pow_le_pow_right (by decide) this) (by decide)
    refine comp_ev (env := sEnv L) (kindI (fun j => (setsL (ps.take i)).getD j 0 + 2 ^ p) (fun h => rfl)) (cl := [(Str.ofString "place", L + 1)]) rfl rfl (by decide) ?_
    refine cLoc (env := sEnv L) hn3 a2 ?_
    refine ⟨h3, zs.toArray.size, _, by rw [List.size_toArray]; omega, src_list (s := { heap := h3, gens := ge, drawn := dr, toks := _, os := os }) rfl hS3, turnS (hps p hpm) hv3 (by simpa using a6), ?_⟩
    intro D C h5 tk5 ws hD hDC hpl hws hG hkeep
    have hz3 : h3.objs.size = h.objs.size := hs3.1
    have hD3 : h3.objs.size ≤ D := hD
    have k5 : ∀ (b : Nat) (o : Obj), h3.get? b = some o → h5.get? b = some o := fun b o e => hkeep b o e
    have hDl : h5.IsList D ws.toList.toArray := by simpa using hpl.isList
    have hD5 : D < h5.objs.size := by obtain ⟨_, e, _⟩ := hDl; exact Heap.lt_size e
    have hwi : IntsAre ws.toList ((setsL (ps.take i)).map fun z => z + 2 ^ p) := by
      have := ints_of (f := fun j => (setsL (ps.take i)).getD j 0 + 2 ^ p) ws.toList fun i y e => hG i y (by simpa using e)
      rw [Array.length_toList, hws, List.size_toArray, a6.length, range_getD] at this
      exact this
    have hS5 : h5.IsList S (List.toArray zs) := hS3.at fun o e => k5 _ o e
    have hwl : ws.toList.length = zs.length := by rw [Array.length_toList, hws, List.size_toArray]
    refine add_raw (vs := zs) (ws := ws.toList) hS5 hDl ?_ (by rw [sizeLine_eq, hwl]; omega)
    dsimp only
    have hsz' : h₂.objs.size < h.objs.size := hsz
    have hL5 : L < h5.objs.size := by omega
    refine cStore (env := sEnv L) ((hn3.at' fun o e => k5 _ o e).push _) fun h6 hn6 hs6 => wpAny_execs_nil ?_
    have k6 : ∀ (b : Nat) (o : Obj), b ≠ L → h5.get? b = some o → h6.get? b = some o := fun b o hb e => hs6.extBut b o hb (Heap.get?_push_of_some _ e)
    have kAll : ∀ (b : Nat) (o : Obj), ¬(b = L ∨ b = L + 1) → h.get? b = some o → h6.get? b = some o := fun b o hb e => k6 b o (fun q => hb (.inl q)) (k5 b o (kk3 b o (fun q => hb (.inr q)) e))
    refine ⟨rfl, h6, _, rfl, ⟨h5.objs.size, zs ++ ws.toList, _, hn6, if_pos rfl, hL5, ne_gt (by omega), ⟨_, hs6.extBut _ _ (ne_gt hL5) (Heap.get?_push_size _ rfl), rfl, _, rfl⟩, ?_, ?_, ?_⟩, kAll⟩
    · rw [List.take_add_one, hp, Option.toList_some, setsL_snoc]
      exact ints_append a6 hwi
    · obtain ⟨o, e, r⟩ := hv3
      exact ⟨_, o, k6 _ _ (ne_gt (Nat.lt_succ_self _)) (k5 _ _ e), r⟩
    · exact fun b o e => kAll b o (by
        have hb : b < L := Nat.lt_of_lt_of_eq (Heap.lt_size e) hL
        omega) (a8 b o e)
  · rintro h tkk ⟨S, zs, m, a1, a2, a3, a4, a5, a6, ⟨v, a7⟩, a8⟩
    iterate 2 walk1
    refine cLoc (env := sEnv L) a1 a2 ?_
    have hlen : vs.toArray.size = ps.length := by have := hi.length; simpa using this
    rw [hlen, List.take_length] at a6
    exact ⟨S, zs, h, _, rfl, rfl, by show h00.objs.size ≤ S; omega, a5, a6, a8⟩
end Mine
end
section -- LWalk
open PySem PySem.Calls PySem.W PySem.W.X PyProof.Rows PySem.Spec PySem.SeqAt
set_option Elab.async false
set_option maxRecDepth 100000
set_option maxHeartbeats 1000000
set_option linter.unusedVariables false
namespace Mine
noncomputable def walkL (ps : List Nat) : List Int := ps.foldl (fun S p => S ++ S.reverse.map fun z => z + 2 ^ p) [0]
theorem walkL_snoc (ps : List Nat) (p : Nat) : walkL (ps ++ [p]) = walkL ps ++ (walkL ps).reverse.map fun z => z + 2 ^ p := by simp [walkL]
theorem walkL_len (ps : List Nat) : (walkL ps).length = 2 ^ ps.length := by
  have h : ∀ (ps : List Nat) (S : List Int), (ps.foldl (fun S p => S ++ S.reverse.map fun z => z + 2 ^ p) S).length = S.length * 2 ^ ps.length := by
    intro ps
    induction ps with
    | nil => intro S; simp
    | cons p ps ih =>
      intro S
      rw [List.foldl_cons, ih, List.length_append, List.length_map, List.length_reverse, List.length_cons, Nat.pow_succ', Nat.add_mul]
      rw [Nat.two_mul, Nat.mul_add]
  rw [walkL, h]
  simp
noncomputable def cW : Expr := binR (asgV ((forB ((bodyS (st 12)).getD 1 default)).getD 0 default))
noncomputable def wEnv (L : Nat) : Env := envOfC (nmS (st 12)) (scopeS (st 12)) L 75 (.ref 74)
theorem turnW {w : World} {A : Around} {g : Heap} {items : Array Value} {zs : List Int} {L p : Nat} {t : Tok} (hp : p ≤ 64) (hc : g.IsCell (L + 1) (some (.int p t))) (hi : IntsAre items.toList zs) :
    Turn w A (wEnv L) (cElt cW) (cTgt cW) (cScp cW) [(Str.ofString "place", L + 1)] 0 (fun _ _ => True) (GI fun i => zs.getD i 0 + 2 ^ p) g items.size (fun i v _ => items[i]? = some v) := by
  rintro D i v s₃ E' hC hlt hv ⟨m, hm⟩ _ hz hk
  obtain ⟨z, hz', u, rfl⟩ := ints_get hi (i := i) (v := v) (by simpa using hv)
  obtain ⟨h0, ge, dr, tk0, os⟩ := s₃
  dsimp only at hm hz hk
  change wpAny _ _ (assign (.Name _ _) _ _) _ _ _
  refine wpAny_assign_Name (cStore (env := cEnv (cScp cW) [(Str.ofString "place", L + 1)] D (wEnv L)) hm fun h₂ hn₂ hs₂ => ?_)
  have kk : ∀ (b : Nat) (o : Obj), b ≠ D → h0.get? b = some o → h₂.get? b = some o := fun b o hb e => hs₂.extBut b o hb e
  have kg : ∀ (b : Nat) (o : Obj), g.get? b = some o → h₂.get? b = some o := fun b o e => kk b o (ne_lt (Nat.lt_trans (Heap.lt_size e) hC)) (hk b o e)
  have hc2 : h₂.IsCell (L + 1) (some (.int p t)) := by obtain ⟨o, e, r⟩ := hc; exact ⟨o, kg _ _ e, r⟩
  change wpAny _ _ (eval (.BinOp _ _ _ _) _) _ _ _
  dsimp only
  iterate 1 walk1
  refine cLoc hn₂ (if_pos rfl) ?_
  iterate 2 walk1
  refine cCell hc2 ?_
  refine pow2 hp fun tk₁ u₁ => ?_
  dsimp only
  iterate 1 walk1
  have e : z = zs.getD i 0 := by rw [List.getD_eq_getElem?_getD, hz']; rfl
  exact ⟨⟨_, _, rfl, fun b o hb e => kk b o (by omega) e⟩, ⟨_, hn₂⟩, trivial, _, congrArg (fun z => Value.int (z + 2 ^ p) _) e⟩
theorem f_walkx {w : World} {h : Heap} (X : Base w h) : ∃ o pm doc, h.get? 75 = some o ∧ o.data = .func (fn 12 pm (.ref 74) doc) ∧ h.CodeRec (.ref 74) (nmS (st 12)) := ⟨_, _, _, X 75 _ rfl, rfl, 74, _, _, _, rfl, X 74 _ rfl, rfl, rfl⟩
theorem walk_ok {w : World} {A : Around} {E : Value → Shared → Prop} {s : Shared} {l : Addr} {vs : List Value} {ps : List Nat} (hA : Ok 1 A) (X : Base w s.heap) (hl : s.heap.IsList l vs.toArray) (hi : IntsAre vs (ps.map fun (p : Nat) => (p : Int))) (hps : ∀ p ∈ ps, p ≤ 64) (h4 : ps.length ≤ 4) :
    wpAny (model prg w) A (call (.ref 75) [.ref l]) (RetL s (walkL ps)) E s := by
  refine hA.run ?_
  obtain ⟨o, pm, doc, ho, hd, hcd⟩ := f_walkx X
  refine wpAny_call (call_cellsN_ret (binds := [(Str.ofString "places", .ref l)]) (by decide) ho hd (nolim X) hcd rfl ?_ (by decide) (fun h₁ tk cells F N C => ?_))
  · intro x hx
    rw [List.mem_singleton.mp hx]
    exact .inl rfl
  change wpAny _ _ (execs [_, _, _] _) _ _ _
  obtain ⟨oc, rfl, hoc⟩ := CellsAre.one C
  change Fr _ _ _ (fun y => if y = Str.ofString "places" then some (.ref l) else none) at F
  have hcell : h₁.IsCell (s.heap.objs.size + 1) none := ⟨oc, (N _ (.head _)).1, hoc⟩
  clear C N
  have hn1 := F.ns
  have k1 := F.keep
  clear F hoc
  generalize hL : s.heap.objs.size = L at *
  change wpAny _ _ (execs _ (wEnv L)) _ _ _
  change h₁.Ns L _ at hn1
  refine wpAny_execs_cons ?_
  change wpAny _ _ (exec (.Assign [_] (.List _ _) _) _) _ _ _
  iterate 1 walk1
  refine List_ ?_
  iterate 3 walk1
  refine wpAny_newList ?_ (by show 1 ≤ sizeLine; rw [sizeLine_eq]; decide)
  dsimp only
  refine cStore (env := wEnv L) (hn1.push _) fun h₂ hn₂ hs₂ => ?_
  change h₂.Ns L _ at hn₂
  have hLz : L < h₁.objs.size := hn1.lt
  have kk2 : ∀ (b : Nat) (o : Obj), b ≠ L → h₁.get? b = some o → h₂.get? b = some o := fun b o hb e => hs₂.extBut b o hb (Heap.get?_push_of_some _ e)
  have hS2 : h₂.IsList h₁.objs.size (List.toArray [.int 0 tk]) := ⟨_, hs₂.extBut _ _ (ne_gt hLz) (Heap.get?_push_size _ rfl), rfl, _, rfl⟩
  have hc2 : h₂.IsCell (L + 1) none := by obtain ⟨o, e, r⟩ := hcell; exact ⟨o, kk2 _ _ (ne_gt (Nat.lt_succ_self _)) e, r⟩
  refine wpAny_execs_cons (wpAny_For ?_)
  refine cLoc (env := wEnv L) hn₂ ((if_neg (by decide)).trans (if_pos rfl)) ?_
  obtain ⟨h00, ge, dr, tk00, os⟩ := s
  dsimp only at hL hl X k1 ⊢
  have hLs : L < h₂.objs.size := hn₂.lt
  have hkl : ∀ (b : Nat) (o : Obj), h00.get? b = some o → h₂.get? b = some o := fun b o e => kk2 b o (ne_lt (Nat.lt_of_lt_of_eq (Heap.lt_size e) hL)) (k1 b o e)
  have hl2 : h₂.IsList l vs.toArray := hl.at fun o e => hkl _ o e
  have hlL : l < L := by obtain ⟨_, e, _⟩ := hl; exact Nat.lt_of_lt_of_eq (Heap.lt_size e) hL
  refine for_list (s := { heap := h₂, gens := ge, drawn := dr, toks := _, os := os }) (own := fun b => b = L ∨ b = L + 1) rfl hl2 (fun q => ?_) (fun q => ?_)
    (fun i h => ∃ S zs m, h.Ns L m ∧ m (Str.ofString "walk") = some (.ref S) ∧ L < S ∧ S ≠ h₂.objs.size ∧ h.IsList S (List.toArray zs) ∧ IntsAre zs (walkL (ps.take i)) ∧ (∃ v, h.IsCell (L + 1) v) ∧ ∀ (b : Nat) (o : Obj), h00.get? b = some o → h.get? b = some o) ?_ ?_ ?_ ?_
  · have hc' : L + 1 < h₂.objs.size := by obtain ⟨o, e, _⟩ := hc2; exact Heap.lt_size e
    rcases q with q | q
    · exact absurd q (ne_gt hLs)
    · exact absurd q (ne_gt hc')
  · rcases q with q | q
    · exact absurd q (ne_lt hlL)
    · exact absurd q (ne_lt (Nat.lt_succ_of_lt hlL))
  · rintro i h h' ⟨S, zs, m, a1, a2, a3, a4, a5, a6, ⟨v, o, e, r⟩, a8⟩ k
    have hc' : L + 1 < h₂.objs.size := by obtain ⟨o, e, _⟩ := hc2; exact Heap.lt_size e
    exact ⟨S, zs, m, a1.at' fun o e => k _ o (ne_lt hLs) e, a2, a3, a4, a5.at fun o e => k _ o a4 e, a6, ⟨v, o, k _ _ (ne_lt hc') e, r⟩, fun b o e => k b o (ne_lt (Nat.lt_trans (Nat.lt_of_lt_of_eq (Heap.lt_size e) hL) hLs)) (a8 b o e)⟩
  · exact ⟨_, _, _, hn₂, if_pos rfl, hLz, ne_lt (Nat.lt_of_lt_of_eq (Nat.lt_succ_self _) (by rw [hs₂.1, Heap.size_push])), hS2, .cons _ _ .nil, ⟨none, hc2⟩, hkl⟩
  · rintro i v h tkk hv ⟨S, zs, m, a1, a2, a3, a4, a5, a6, ⟨v0, a7⟩, a8⟩ hsz
    obtain ⟨z, hz, t, rfl⟩ := ints_get hi (i := i) (v := v) (by simpa using hv)
    rw [List.getElem?_map] at hz
    obtain ⟨p, hp, rfl⟩ := Option.map_eq_some_iff.mp hz
    have hpm : p ∈ ps := List.mem_of_getElem? hp
    have hcL : L + 1 < h.objs.size := by obtain ⟨o, e, _⟩ := a7; exact Heap.lt_size e
    refine wpAny_assign_Name (wpAny_storeName_cell (env := wEnv L) rfl rfl rfl a7 fun h3 hv3 hs3 => ?_)
    have kk3 : ∀ (b : Nat) (o : Obj), b ≠ L + 1 → h.get? b = some o → h3.get? b = some o := fun b o hb e => hs3.extBut b o hb e
    have hn3 : h3.Ns L m := a1.at' fun o e => kk3 _ o (ne_lt (Nat.lt_succ_self _)) e
    have hS3 : h3.IsList S (List.toArray zs) := cell_list a7 a5 hs3
    refine wpAny_execs_cons ?_
    change wpAny _ _ (exec (.Assign [_] (.BinOp _ _ _ _) _) _) _ _ _
    dsimp only
    iterate 2 walk1
    refine cLoc (env := wEnv L) hn3 a2 ?_
    change wpAny _ _ (eval (.ListComp _ [⟨_, _, [], 0⟩] _ _) _) _ _ _
    have hzl : zs.length ≤ 16 := by
      rw [a6.length, walkL_len]
      have : (ps.take i).length ≤ 4 := by
        rw [List.length_take]
        exact Nat.le_trans (Nat.min_le_right _ _) h4
      exact Nat.le_trans (Nat.pow_le_pow_right (by decide) this) (by decide)
    refine comp_ev (env := wEnv L) (kindI (fun j => (walkL (ps.take i)).reverse.getD j 0 + 2 ^ p) (fun h => rfl)) (cl := [(Str.ofString "place", L + 1)]) rfl rfl (by decide) ?_
    refine wpAny_Subscript_Slice_step (T := "list") list_getitem_lookup (cLoc (env := wEnv L) hn3 a2 (wpAny_Slice (wpAny_evalPart_none (wpAny_evalPart_none (wpAny_evalPart_some ?_)))))
    iterate 3 walk1
    dsimp only
    refine ⟨(hS3.push _).typeIs, wpAny_getItem_list_slice (hS3.push _) (Heap.IsSliceOf.new ..) .none .none (.int _ _) (by decide) ?_ (by rw [sizeLine_eq, List.size_toArray]; omega)⟩
    rw [show (-(1 : Int)) = -1 from rfl, krv_pick]
    dsimp only
    have hp1 : ∀ o : Obj, (h3.push o).objs.size = h3.objs.size + 1 := fun o => Heap.size_push ..
    have k4 : ∀ (b : Nat) (o : Obj), h3.get? b = some o → ((h3.push { cls := .type "slice", data := .fields #[.none, .none, .int (-1) (tkk + 1)] }).push { cls := .type "list", data := .seq zs.reverse.toArray }).get? b = some o := fun b o e => Heap.get?_push_of_some _ (Heap.get?_push_of_some _ e)
    have hz4 : ((h3.push { cls := .type "slice", data := .fields #[.none, .none, .int (-1) (tkk + 1)] }).push { cls := .type "list", data := .seq zs.reverse.toArray }).objs.size = h3.objs.size + 2 := by rw [Heap.size_push, Heap.size_push]
    have hl4 : ((h3.push { cls := .type "slice", data := .fields #[.none, .none, .int (-1) (tkk + 1)] }).push { cls := .type "list", data := .seq zs.reverse.toArray }).IsList (h3.objs.size + 1) zs.reverse.toArray := ⟨_, push_at (hp1 _) rfl, rfl, _, rfl⟩
    simp only [hp1]
    generalize ((h3.push { cls := .type "slice", data := .fields #[.none, .none, .int (-1) (tkk + 1)] }).push { cls := .type "list", data := .seq zs.reverse.toArray }) = h4 at *
    refine ⟨h4, zs.reverse.toArray.size, _, by rw [List.size_toArray, List.length_reverse]; omega, src_list (s := { heap := h4, gens := ge, drawn := dr, toks := _, os := os }) rfl hl4, turnW (t := t) (hps p hpm) (by obtain ⟨o, e, r⟩ := hv3; exact ⟨o, k4 _ _ e, r⟩) (by simpa using a6.reverse), ?_⟩
    intro D C h5 tk5 ws hD hDC hpl hws hG hkeep
    have hz3 : h3.objs.size = h.objs.size := hs3.1
    have hD3 : h3.objs.size ≤ D := by have : h4.objs.size ≤ D := hD; omega
    have k5 : ∀ (b : Nat) (o : Obj), h3.get? b = some o → h5.get? b = some o := fun b o e => hkeep b o (k4 b o e)
    have hDl : h5.IsList D ws.toList.toArray := by simpa using hpl.isList
    have hD5 : D < h5.objs.size := by obtain ⟨_, e, _⟩ := hDl; exact Heap.lt_size e
    have hwi : IntsAre ws.toList ((walkL (ps.take i)).reverse.map fun z => z + 2 ^ p) := by
      have := ints_of (f := fun j => (walkL (ps.take i)).reverse.getD j 0 + 2 ^ p) ws.toList fun i y e => hG i y (by simpa using e)
      rw [Array.length_toList, hws, List.size_toArray, List.length_reverse, a6.length, ← List.length_reverse, range_getD] at this
      exact this
    have hS5 : h5.IsList S (List.toArray zs) := hS3.at fun o e => k5 _ o e
    have hwl : ws.toList.length = zs.length := by rw [Array.length_toList, hws, List.size_toArray, List.length_reverse]
    refine add_raw (vs := zs) (ws := ws.toList) hS5 hDl ?_ (by rw [sizeLine_eq, hwl]; omega)
    dsimp only
    have hsz' : h₂.objs.size < h.objs.size := hsz
    have hL5 : L < h5.objs.size := by omega
    refine cStore (env := wEnv L) ((hn3.at' fun o e => k5 _ o e).push _) fun h6 hn6 hs6 => wpAny_execs_nil ?_
    have k6 : ∀ (b : Nat) (o : Obj), b ≠ L → h5.get? b = some o → h6.get? b = some o := fun b o hb e => hs6.extBut b o hb (Heap.get?_push_of_some _ e)
    have kAll : ∀ (b : Nat) (o : Obj), ¬(b = L ∨ b = L + 1) → h.get? b = some o → h6.get? b = some o := fun b o hb e => k6 b o (fun q => hb (.inl q)) (k5 b o (kk3 b o (fun q => hb (.inr q)) e))
    refine ⟨rfl, h6, _, rfl, ⟨h5.objs.size, zs ++ ws.toList, _, hn6, if_pos rfl, hL5, ne_gt (by omega), ⟨_, hs6.extBut _ _ (ne_gt hL5) (Heap.get?_push_size _ rfl), rfl, _, rfl⟩, ?_, ?_, ?_⟩, kAll⟩
    · rw [List.take_add_one, hp, Option.toList_some, walkL_snoc]
      exact ints_append a6 hwi
    · obtain ⟨o, e, r⟩ := hv3
      exact ⟨_, o, k6 _ _ (ne_gt (Nat.lt_succ_self _)) (k5 _ _ e), r⟩
    · exact fun b o e => kAll b o (by
        have hb : b < L := Nat.lt_of_lt_of_eq (Heap.lt_size e) hL
        omega) (a8 b o e)
  · rintro h tkk ⟨S, zs, m, a1, a2, a3, a4, a5, a6, ⟨v, a7⟩, a8⟩
    iterate 2 walk1
    refine cLoc (env := wEnv L) a1 a2 ?_
    have hlen : vs.toArray.size = ps.length := by have := hi.length; simpa using this
    rw [hlen, List.take_length] at a6
    exact ⟨S, zs, h, _, rfl, rfl, by show h00.objs.size ≤ S; omega, a5, a6, a8⟩
end Mine
end
section -- LPlaces
open PySem PySem.Calls PySem.W PySem.W.X PyProof.Rows PySem.Spec PySem.SeqAt
set_option Elab.async false
set_option maxRecDepth 100000
set_option maxHeartbeats 1000000
set_option linter.unusedVariables false
namespace Mine
noncomputable def plStep (acc : List Int) (x : Int) : List Int := if (!(acc.any (· == x.fmod 40)) && decide (acc.length < 4)) = true then acc ++ [x.fmod 40] else acc
noncomputable def plL (xs : List Int) : List Int := xs.foldl plStep []
theorem plL_snoc (xs : List Int) (x : Int) : plL (xs ++ [x]) = plStep (plL xs) x := by simp [plL]
theorem plL_le (xs : List Int) : (plL xs).length ≤ 4 := by
  have h : ∀ (xs acc : List Int), acc.length ≤ 4 → (xs.foldl plStep acc).length ≤ 4 := by
    intro xs
    induction xs with
    | nil => intro acc h; exact h
    | cons x xs ih =>
      intro acc h
      rw [List.foldl_cons]
      refine ih _ ?_
      unfold plStep
      split
      · rename_i q
        rw [Bool.and_eq_true] at q
        have := of_decide_eq_true q.2
        rw [List.length_append, List.length_singleton]
        omega
      · exact h
  exact h xs [] (by decide)
theorem places_ok {w : World} {A : Around} {E : Value → Shared → Prop} {s : Shared} {l : Addr} {vs : List Value} {xs : List Int} (hA : Ok 1 A) (X : Base w s.heap) (hl : s.heap.IsList l vs.toArray) (hi : IntsAre vs xs) :
    wpAny (model prg w) A (call (.ref 65) [.ref l]) (RetL s (plL xs)) E s := by
  refine hA.run ?_
  obtain ⟨o, pm, cd, doc, ho, hd, hcd⟩ := f_places X
  refine wpAny_call (call_plain_ret (binds := [(Str.ofString "numbers", .ref l)]) (by decide) ho hd (nolim X) hcd rfl (locs rfl) (fun h₁ F => ?_))
  change wpAny _ _ (execs [_, _, _] _) _ _ _
  have hn1 := F.ns
  have k1 := F.keep
  clear F
  generalize hL : s.heap.objs.size = L at *
  obtain ⟨h00, ge, dr, tk00, os⟩ := s
  dsimp only at hL hl X k1 ⊢
  change h₁.Ns L (fun y => List.lookup y [(Str.ofString "numbers", Value.ref l)]) at hn1
  refine wpAny_execs_cons ?_
  change wpAny _ _ (exec (.Assign [_] (.List _ _) _) _) _ _ _
  iterate 1 walk1
  refine List_ ?_
  iterate 1 walk1
  refine wpAny_newList ?_ (by show 0 ≤ sizeLine; rw [sizeLine_eq]; decide)
  dsimp only
  refine cStore (hn1.push _) fun h₂ hn₂ hs₂ => ?_
  change h₂.Ns L _ at hn₂
  have hLz : L < h₁.objs.size := hn1.lt
  have kk2 : ∀ (b : Nat) (o : Obj), b ≠ L → h₁.get? b = some o → h₂.get? b = some o := fun b o hb e => hs₂.extBut b o hb (Heap.get?_push_of_some _ e)
  have hS2 : h₂.PlainList h₁.objs.size (List.toArray []) := ⟨_, hs₂.extBut _ _ (ne_gt hLz) (Heap.get?_push_size _ rfl)⟩
  refine wpAny_execs_cons (wpAny_For ?_)
  refine cLoc hn₂ ((if_neg (by decide)).trans rfl) ?_
  have hLs : L < h₂.objs.size := hn₂.lt
  have hkl : ∀ (b : Nat) (o : Obj), h00.get? b = some o → h₂.get? b = some o := fun b o e => kk2 b o (ne_lt (Nat.lt_of_lt_of_eq (Heap.lt_size e) hL)) (k1 b o e)
  have hl2 : h₂.IsList l vs.toArray := hl.at fun o e => hkl _ o e
  have hlL : l < L := by obtain ⟨_, e, _⟩ := hl; exact Nat.lt_of_lt_of_eq (Heap.lt_size e) hL
  have hP : h₁.objs.size < h₂.objs.size := by obtain ⟨_, e⟩ := hS2; exact Heap.lt_size e
  generalize h₁.objs.size = P at *
  refine for_list (s := { heap := h₂, gens := ge, drawn := dr, toks := _, os := os }) (own := fun b => b = L ∨ b = P) rfl hl2 (fun q => ?_) (fun q => ?_)
    (fun i h => ∃ zs m, h.Ns L m ∧ m (Str.ofString "places") = some (.ref P) ∧ h.PlainList P (List.toArray zs) ∧ IntsAre zs (plL (xs.take i)) ∧ ∀ (b : Nat) (o : Obj), h00.get? b = some o → h.get? b = some o) ?_ ?_ ?_ ?_
  · rcases q with q | q
    · exact absurd q (ne_gt hLs)
    · exact absurd q (ne_gt hP)
  · rcases q with q | q
    · exact absurd q (ne_lt hlL)
    · exact absurd q (ne_lt (Nat.lt_trans hlL hLz))
  · rintro i h h' ⟨zs, m, a1, a2, a5, a6, a8⟩ k
    exact ⟨zs, m, a1.at' fun o e => k _ o (ne_lt hLs) e, a2, a5.at fun o e => k _ o (ne_lt hP) e, a6, fun b o e => k b o (ne_lt (Nat.lt_trans (Nat.lt_of_lt_of_eq (Heap.lt_size e) hL) hLs)) (a8 b o e)⟩
  · exact ⟨[], _, hn₂, if_pos rfl, hS2, .nil, hkl⟩
  · rintro i v h tkk hv ⟨zs, m, a1, a2, a5, a6, a8⟩ hsz
    obtain ⟨x, hx, t, rfl⟩ := ints_get hi (i := i) (v := v) (by simpa using hv)
    refine wpAny_assign_Name (cStore a1 fun h3 hn3 hs3 => ?_)
    have kk3 : ∀ (b : Nat) (o : Obj), b ≠ L → h.get? b = some o → h3.get? b = some o := fun b o hb e => hs3.extBut b o hb e
    have hp3 : h3.PlainList P (List.toArray zs) := a5.at fun o e => kk3 _ o (ne_gt hLz) e
    refine wpAny_execs_cons ?_
    dsimp only
    iterate 4 walk1
    refine cLoc hn3 (if_pos rfl) ?_
    iterate 1 walk1
    refine mod_int' (by decide) ?_
    refine cLoc hn3 ((if_neg (by decide)).trans a2) ?_
    refine notin_list_ints hp3.isList a6 ?_
    refine wpAny_truthy_bool ?_
    have hsz' : h₂.objs.size < h.objs.size := hsz
    have hfin : ∀ (zs' : List Value) (h6 : Heap) (m' : Str → Option Value) (tk6 : Nat), h6.Ns L m' → m' (Str.ofString "places") = some (.ref P) → h6.PlainList P (List.toArray zs') → IntsAre zs' (plStep (plL (xs.take i)) x) → (∀ (b : Nat) (o : Obj), ¬(b = L ∨ b = P) → h.get? b = some o → h6.get? b = some o) →
        ∃ h' tk', ({ heap := h6, gens := ge, drawn := dr, toks := tk6, os := os } : Shared) = { heap := h', gens := ge, drawn := dr, toks := tk', os := os } ∧ (∃ zs m, h'.Ns L m ∧ m (Str.ofString "places") = some (.ref P) ∧ h'.PlainList P (List.toArray zs) ∧ IntsAre zs (plL (xs.take (i + 1))) ∧ ∀ (b : Nat) (o : Obj), h00.get? b = some o → h'.get? b = some o) ∧
          ∀ (b : Nat) (o : Obj), ¬(b = L ∨ b = P) → h.get? b = some o → h'.get? b = some o := fun zs' h6 m' tk6 b1 b2 b3 b4 b5 => by
      refine ⟨h6, tk6, rfl, ⟨zs', m', b1, b2, b3, ?_, fun b o e => b5 b o ?_ (a8 b o e)⟩, b5⟩
      · rw [List.take_add_one, hx, Option.toList_some, plL_snoc]
        exact b4
      · have hb : b < L := Nat.lt_of_lt_of_eq (Heap.lt_size e) hL
        omega
    by_cases hq : (plL (xs.take i)).any (· == x.fmod 40) = true
    · rw [if_neg (by simp [hq]), if_neg (by decide)]
      refine wpAny_execs_nil (wpAny_execs_nil ⟨rfl, hfin zs h3 _ _ hn3 ((if_neg (by decide)).trans a2) hp3 ?_ fun b o hb e => kk3 b o (fun q => hb (.inl q)) e⟩)
      unfold plStep
      rw [if_neg (by simp [hq])]
      exact a6
    · rw [if_pos (by simp [hq])]
      iterate 3 walk1
      refine bname (w := w) (X.keeps fun b o e => kk3 b o (ne_lt (Nat.lt_of_lt_of_eq (Heap.lt_size e) hL)) (a8 b o e)) (n_len _) (b_len _) ?_
      iterate 2 walk1
      refine cLoc hn3 ((if_neg (by decide)).trans a2) ?_
      iterate 1 walk1
      have hzl : zs.toArray.size = (plL (xs.take i)).length := by rw [List.size_toArray, a6.length]
      have hle := plL_le (xs.take i)
      refine call_len_list hp3.isList (by rw [hzl]; omega) ?_
      iterate 2 walk1
      refine wpAny_truthy_bool ?_
      rw [hzl]
      dsimp only
      by_cases hq2 : (plL (xs.take i)).length < 4
      · rw [if_pos (by simp; omega)]
        iterate 1 walk1
        rw [if_pos rfl]
        iterate 3 walk1
        refine cLoc hn3 ((if_neg (by decide)).trans a2) ?_
        obtain ⟨ep, eo⟩ := id hp3
        refine getMethod_list_append eo rfl rfl ?_
        refine callWith_method1 ?_
        iterate 2 walk1
        refine cLoc hn3 (if_pos rfl) ?_
        iterate 1 walk1
        refine mod_int' (by decide) ?_
        iterate 1 walk1
        refine wpAny_list_append_plain (hsz := by rw [List.size_toArray, a6.length, sizeLine_eq]; omega) hp3 fun h6 hp6 hs6 => ?_
        have hPL : @Ne Addr L P := ne_lt hLz
        refine wpAny_execs_nil (wpAny_execs_nil ⟨rfl, hfin (zs ++ [.int (x.fmod 40) _]) h6 _ _ (hn3.sameBut hs6 hPL) ((if_neg (by decide)).trans a2) (by simpa using hp6) ?_ fun b o hb e => hs6.extBut b o (fun q => hb (.inr q)) (kk3 b o (fun q => hb (.inl q)) e)⟩)
        unfold plStep
        rw [if_pos (by simp [hq, hq2])]
        exact ints_append a6 (.cons _ _ .nil)
      · rw [if_neg (by simp; omega), if_neg (by decide)]
        refine wpAny_execs_nil (wpAny_execs_nil ⟨rfl, hfin zs h3 _ _ hn3 ((if_neg (by decide)).trans a2) hp3 ?_ fun b o hb e => kk3 b o (fun q => hb (.inl q)) e⟩)
        unfold plStep
        rw [if_neg (by simp [hq2])]
        exact a6
  · rintro h tkk ⟨zs, m, a1, a2, a5, a6, a8⟩
    iterate 2 walk1
    refine cLoc a1 a2 ?_
    have hlen : vs.toArray.size = xs.length := by have := hi.length; simpa using this
    rw [hlen, List.take_length] at a6
    exact ⟨P, zs, h, _, rfl, rfl, by show h00.objs.size ≤ P; omega, a5.isList, a6, a8⟩
end Mine
end
section -- LSt6
open PySem PySem.Calls PySem.W PySem.W.X PyProof.Rows PySem.Spec PySem.SeqAt
set_option Elab.async false
set_option maxRecDepth 100000
set_option maxHeartbeats 1000000
set_option linter.unusedVariables false
namespace Mine
theorem fn_65 {w : World} {h : Heap} (X : Base w h) : FnAt 65 h := ⟨_, _, _, _, X 65 _ rfl⟩
theorem fn_70 {w : World} {h : Heap} (X : Base w h) : FnAt 70 h := ⟨_, _, _, _, X 70 _ rfl⟩
theorem fn_75 {w : World} {h : Heap} (X : Base w h) : FnAt 75 h := ⟨_, _, _, _, X 75 _ rfl⟩
noncomputable def xs6 (ns : List Int) : List Int := ns.take 4 ++ [3, 0, 8]
noncomputable def tail3 (k : Tok) : List Value := [.int 3 (k + 1), .int 0 (k + 1 + 1), .int 8 (k + 1 + 1 + 1)]
theorem st6 {w : World} {E : Value → Shared → Prop} {s₁ s : Shared} {m : Str → Option Value} {cr : Option Value} {e77 : Array Value} {vals : List Value} {ns : List Int} {Q : Flow → Shared → Prop} (X : Base w s₁.heap) (x : LS w s₁ s m cr none e77) (hm : m (Str.ofString "script") = some (.ref 81))
    (hl : s₁.heap.IsList 81 vals.toArray) (hi : IntsAre vals ns) (hlen : ns.length ≤ 63)
    (h : ∀ s' P vs, LS w s₁ s' (fun y => if y = Str.ofString "places" then some (.ref P) else m y) cr none e77 → s'.heap.IsList P (List.toArray vs) → IntsAre vs (plL (xs6 ns)) → Q .next s') :
    wpAny (model prg w) (As 30) (exec (stL 6) lawEnv) Q E s := by
  change wpAny _ _ (exec (.Assign [.Name _ _] (.Call _ _ _ _) _) _) _ _ _
  have Xs := x.base X
  obtain ⟨h0, ge, dr, tk0, os⟩ := s
  have hl0 : h0.IsList 81 vals.toArray := hl.at fun o e => x.keep _ o (by decide) (by decide) (by decide) e
  have hv64 : vals.length ≤ 63 := by rw [hi.length]; exact hlen
  iterate 2 walk1
  refine gname (w := w) Xs (g_places _) ?_
  refine callWith_F (fn_65 (w := w) Xs) ?_
  iterate 2 walk1
  refine wpAny_Subscript_list_slice (cLoc x.ns hm (wpAny_evalPart_none (wpAny_evalPart_some ?_)))
  iterate 1 walk1
  refine ⟨81, vals.toArray, none, some 4, rfl, hl0, by rw [List.size_toArray, sizeLine_eq]; omega, .none, .int _ _, ?_⟩
  dsimp only
  have hs8 := slice_ints_uptoW hi (y := 4) (by decide)
  generalize slicePick vals.toArray none (some 4) none = sl at *
  refine List_ ?_
  iterate 7 walk1
  refine wpAny_newList ?_ (by show 3 ≤ sizeLine; rw [sizeLine_eq]; decide)
  dsimp only
  have hSz : sl.toList.length ≤ 4 := by
    rw [hs8.length, List.length_take]
    exact Nat.min_le_left _ _
  have g2 : ((h0.push { cls := .type "slice", data := .fields #[.none, .int 4 tk0, .none] }).push { cls := .type "list", data := .seq sl }).IsList (h0.objs.size + 1) sl.toList.toArray := ⟨_, push_at (Heap.size_push ..) rfl, rfl, _, rfl⟩
  refine add_raw (vs := sl.toList) (ws := tail3 tk0) (g2.push _) ⟨_, Heap.get?_push_size _ rfl, rfl, _, rfl⟩ ?_ (by show sl.toList.length + 3 ≤ sizeLine; rw [sizeLine_eq]; omega)
  have hI : IntsAre (sl.toList ++ tail3 tk0) (xs6 ns) := ints_append hs8 (.cons _ _ (.cons _ _ (.cons _ _ .nil)))
  have k3 : ∀ o1 o2 o3 o4, ∀ b o, h0.get? b = some o → ((((h0.push o1).push o2).push o3).push o4).get? b = some o := fun _ _ _ _ b o e => Heap.get?_push_of_some _ (Heap.get?_push_of_some _ (Heap.get?_push_of_some _ (Heap.get?_push_of_some _ e)))
  iterate 1 walk1
  refine ⟨fn_65 (w := w) (Xs.keeps (k3 _ _ _ _)), ?_⟩
  refine useL (places_ok (vs := sl.toList ++ tail3 tk0) ⟨rfl, by decide, by decide⟩ (Xs.keeps (k3 _ _ _ _)) ⟨_, Heap.get?_push_size _ rfl, rfl, _, rfl⟩ hI) fun D vs h' tk hD hL hIv hk => ?_
  have kk : ∀ b o, h0.get? b = some o → h'.get? b = some o := fun b o e => hk b o (k3 _ _ _ _ b o e)
  have hn' : h'.Ns 82 m := x.ns.at' fun o e => kk _ o e
  refine cStore (env := lawEnv) hn' fun h2 hn2 hs2 => ?_
  have hD82 : D ≠ 82 := by
    rintro rfl
    have h82 : 82 < h0.objs.size := x.ns.lt
    have : h0.objs.size ≤ 82 := Nat.le_trans (by simp only [Heap.size_push]; omega) hD
    omega
  refine h _ D vs (x.step hn2 (fun b o a _ e => hs2.extBut b o a (kk b o e)) (x.t46k fun b o a e => hs2.extBut b o a (kk b o e))) (hL.at fun o e => hs2.extBut _ o hD82 e) hIv
end Mine
end
section -- LUnp
open PySem PySem.Calls PySem.W PySem.W.X PyProof.Rows PySem.Spec PySem.SeqAt
set_option Elab.async false
set_option maxRecDepth 100000
set_option maxHeartbeats 1000000
set_option linter.unusedVariables false
namespace Mine
section
variable {w : World} {A : Around} {E : Value → Shared → Prop} {s : Shared} {env : Env}
theorem draw_l {it l : Addr} {items : Array Value} (hne : l ≠ it) : ∀ (n i : Nat) (s : Shared) (Q : List Value → Shared → Prop), s.heap.IsListIter it l i → s.heap.IsList l items → i + n ≤ items.size →
    (∀ h', h'.IsListIter it l (i + n) → h'.IsList l items → (∀ b o, b ≠ it → s.heap.get? b = some o → h'.get? b = some o) → Q ((items.toList.drop i).take n) { s with heap := h' }) → wpAny (model prg w) A (draw (.ref it) n) Q E s := by
  intro n
  induction n with
  | zero =>
    intro i s Q hit hl _ hQ
    show wpAny _ _ (pure []) Q E s
    exact wpAny_pure (by simpa using hQ s.heap hit hl fun _ _ _ e => e)
  | succ n ih =>
    intro i s Q hit hl hle hQ
    have hlt : i < items.size := by omega
    show wpAny _ _ (pyNext (.ref it) >>= _) Q E s
    refine wpAny_bind (wpAny_pyNext_list_item hit hl (x := items[i]) (by simp [hlt]) fun h₁ hit₁ hs₁ => ?_)
    refine wpAny_bind (wpAny_holding (ih (i + 1) _ _ hit₁ (hl.extBut hs₁.extBut hne) (by omega) fun h₂ hit₂ hl₂ k₂ => wpAny_pure ?_))
    have hd : items.toList.drop i = items[i] :: items.toList.drop (i + 1) := by simp [List.drop_eq_getElem_cons, hlt]
    have := hQ h₂ (by rw [show i + (n + 1) = i + 1 + n by omega]; exact hit₂) hl₂ (fun b o hb e => k₂ b o hb (hs₁.extBut b o hb e))
    rw [hd, List.take_succ_cons] at this
    exact this
theorem unp2 {t : Addr} {a b : Value} {Q : Unit → Shared → Prop} {elts : List Expr} {x1 : Nat} {pos : Pos} (hh : A.handled = none) (ht : s.heap.IsList t #[a, b]) (hn : (assignEach elts env).length = 2) (hstar : (assignEach elts env).findIdx? (·.1) = none)
    (h : ∀ h', Heap.ExtBut s.heap.objs.size s.heap h' → wpAny (model prg w) A (assignInOrder ((assignEach elts env).map (·.2)) [a, b]) Q E { s with heap := h' }) :
    wpAny (model prg w) A (assign (.Tuple elts x1 pos) env (.ref t)) Q E s := by
  rw [assign_Tuple]
  refine wpAny_bind (wpAny_standAt ?_)
  have hlt : t ≠ s.heap.objs.size := by obtain ⟨o, ho, _⟩ := ht; exact ne_lt (Heap.lt_size ho)
  unfold unpack
  rw [hn, hstar]
  refine wpAny_bind (wpAny_holding ?_)
  unfold unpackItems
  refine wpAny_bind ?_
  unfold notIterableAtAll
  refine wpAny_bind (wpAny_specialOf ht.typeIs slot_list_iter.lookup ?_)
  refine wpAny_pure ?_
  simp only [Bool.false_eq_true, if_false]
  refine wpAny_bind (wpAny_holding (wpAny_pyIter_list ht ?_))
  refine wpAny_bind (wpAny_holding (draw_l hlt 2 0 _ _ ⟨_, Heap.get?_push_size _ rfl, rfl, rfl⟩ (ht.push _) (by show 2 ≤ 2; exact Nat.le_refl _) fun h₁ hit₁ hl₁ hs₁ => ?_))
  rw [show List.take 2 (List.drop 0 (#[a, b] : Array Value).toList) = [a, b] from rfl]
  rw [if_neg (show ¬ ([a, b].length < 2) from Nat.lt_irrefl 2)]
  refine wpAny_bind (wpAny_holding (wpAny_pyNext_list_end hh hit₁ hl₁ rfl fun h₂ he₂ => ?_))
  simp only [Option.isSome_none, Bool.false_eq_true, if_false]
  exact wpAny_pure (h h₂ fun b o hb e => he₂ b o hb (hs₁ b o hb (Heap.get?_push_of_some _ e)))
end
end Mine
end
section -- LSt7
open PySem PySem.Calls PySem.W PySem.W.X PyProof.Rows PySem.Spec PySem.SeqAt
set_option Elab.async false
set_option maxRecDepth 100000
set_option maxHeartbeats 1000000
set_option linter.unusedVariables false
namespace Mine
noncomputable def c7 : Expr := asgV (stL 7)
noncomputable def callA : Expr → Expr | .Call _ (e :: _) _ _ => e | _ => default
noncomputable def d7 : Expr := callA (cItr c7)
noncomputable def G7 (zs : List Int) (C i : Nat) (y : Value) (h : Heap) : Prop := ∃ (T : Nat) (t u : Tok), y = .ref T ∧ C < T ∧ h.IsList T #[.int (zs.getD i 0) t, .int 0 u]
theorem kind7 (zs : List Int) : Kind (cScp d7) 0 (fun _ _ => True) (G7 zs) := kind0 (fun h => rfl) (by
  rintro C i y h h' ⟨T, t, u, rfl, hT, l⟩ hk
  exact ⟨T, t, u, rfl, hT, l.at fun o e => hk T o hT e⟩)
theorem turn7 {w : World} {A : Around} {g : Heap} {items : Array Value} {zs : List Int} (hi : IntsAre items.toList zs) :
    Turn w A lawEnv (cElt d7) (cTgt d7) (cScp d7) [] 0 (fun _ _ => True) (G7 zs) g items.size (fun i v _ => items[i]? = some v) := by
  rintro D i v s₃ E' hC hlt hv ⟨m, hm⟩ _ hz hk
  obtain ⟨z, hz', u, rfl⟩ := ints_get hi (i := i) (v := v) (by simpa using hv)
  obtain ⟨h0, ge, dr, tk0, os⟩ := s₃
  dsimp only at hm hz hk
  change wpAny _ _ (assign (.Name _ _) _ _) _ _ _
  refine wpAny_assign_Name (cStore (env := cEnv (cScp d7) [] D lawEnv) hm fun h₂ hn₂ hs₂ => ?_)
  have kk : ∀ (b : Nat) (o : Obj), b ≠ D → h0.get? b = some o → h₂.get? b = some o := fun b o hb e => hs₂.extBut b o hb e
  change wpAny _ _ (eval (.List [_, _] _) _) _ _ _
  dsimp only
  refine List_ ?_
  iterate 1 walk1
  refine cLoc hn₂ (if_pos rfl) ?_
  iterate 3 walk1
  refine wpAny_newList ?_ (by show 2 ≤ sizeLine; rw [sizeLine_eq]; decide)
  dsimp only
  have hC3 : D < h₂.objs.size := hn₂.lt
  have e : z = zs.getD i 0 := by rw [List.getD_eq_getElem?_getD, hz']; rfl
  rw [e]
  exact ⟨⟨_, _, rfl, fun b o hb e => Heap.get?_push_of_some _ (kk b o (by omega) e)⟩, ⟨_, hn₂.push _⟩, trivial, h₂.objs.size, _, _, rfl, hC3, ⟨_, Heap.get?_push_size _ rfl, rfl, _, rfl⟩⟩
theorem turn7b {w : World} {A : Around} {g : Heap} {vs : List Value} {num : Nat → Nat} {snd : Nat → Int} {is : List Nat} (hh : A.handled = none) (hf : Pairs vs num snd g) (hi : ∀ i ∈ is, i < vs.length) :
    Turn w A lawEnv (cElt c7) (cTgt c7) (cScp c7) [] 0 (fun _ _ => True) (GI fun i => (num (is.getD i 0) : Int)) g (is.map fun i => vs.getD i .none).toArray.size (fun i v _ => (is.map fun i => vs.getD i .none).toArray[i]? = some v) := by
  rintro D i v s₃ E' hC hlt hv ⟨m, hm⟩ _ hz hk
  obtain ⟨h0, ge, dr, tk0, os⟩ := s₃
  dsimp only at hm hz hk
  have hj' : i < is.length := by simpa using hlt
  have h1 := hi (is[i]) (List.getElem_mem _)
  obtain ⟨_, la, t, u, e, l⟩ := hf is[i] vs[is[i]] (List.getElem?_eq_getElem h1)
  have ev : v = .ref la := by
    have : (is.map fun i => vs.getD i .none).toArray[i]? = some (.ref la) := by
      simp [List.getElem?_map, List.getElem?_eq_getElem hj', List.getD_eq_getElem?_getD, List.getElem?_eq_getElem h1]; exact e
    rw [this] at hv
    exact (Option.some.inj hv).symm
  subst ev
  have l0 : h0.IsList la #[.int (num is[i]) t, .int (snd is[i]) u] := l.at fun o e => hk _ o e
  change wpAny _ _ (assign (.Tuple [_, _] _ _) _ _) _ _ _
  refine unp2 hh l0 rfl rfl fun h₁ he₁ => ?_
  dsimp only at he₁
  have k1 : ∀ b o, h0.get? b = some o → h₁.get? b = some o := fun b o e => he₁ b o (ne_lt (Heap.lt_size e)) e
  refine assignInOrder_cons (wpAny_assign_Name (cStore (env := cEnv (cScp c7) [] D lawEnv) (hm.at' fun o e => k1 _ o e) fun h₂ hn₂ hs₂ => ?_))
  refine assignInOrder_cons (wpAny_assign_Name (cStore (env := cEnv (cScp c7) [] D lawEnv) hn₂ fun h₃ hn₃ hs₃ => ?_))
  refine assignInOrder_nil ?_
  have kk : ∀ (b : Nat) (o : Obj), b ≠ D → h0.get? b = some o → h₃.get? b = some o := fun b o hb e => hs₃.extBut b o hb (hs₂.extBut b o hb (k1 b o e))
  change wpAny _ _ (eval (.Name _ _) _) _ _ _
  refine cLoc hn₃ ((if_neg (by decide)).trans (if_pos rfl)) ?_
  have e2 : is.getD i 0 = is[i] := by rw [List.getD_eq_getElem?_getD, List.getElem?_eq_getElem hj']; rfl
  exact ⟨⟨_, _, rfl, fun b o hb e => kk b o (by omega) e⟩, ⟨_, hn₃⟩, trivial, t, by show Value.int (num is[i]) t = Value.int (num (is.getD i 0)) t; rw [e2]⟩
noncomputable def setsN (ps : List Nat) : List Nat := ps.foldl (fun S p => S ++ S.map fun z => z + 2 ^ p) [0]
theorem setsN_snoc (ps : List Nat) (p : Nat) : setsN (ps ++ [p]) = setsN ps ++ (setsN ps).map fun z => z + 2 ^ p := by simp [setsN]
theorem setsL_N (ps : List Nat) : setsL ps = (setsN ps).map fun (z : Nat) => (z : Int) := by
  have h : ∀ (ps : List Nat) (S : List Nat), ps.foldl (fun S p => S ++ S.map fun z => z + 2 ^ p) (S.map fun (z : Nat) => (z : Int)) = (ps.foldl (fun S p => S ++ S.map fun z => z + 2 ^ p) S).map fun (z : Nat) => (z : Int) := by
    intro ps
    induction ps with
    | nil => intro S; rfl
    | cons p ps ih =>
      intro S
      rw [List.foldl_cons, List.foldl_cons, ← ih, List.map_append, List.map_map, List.map_map]
      have e : List.map ((fun (z : Int) => z + 2 ^ p) ∘ fun (z : Nat) => (z : Int)) S = List.map ((fun (z : Nat) => (z : Int)) ∘ fun z => z + 2 ^ p) S := by
        apply List.map_congr_left
        intro z _
        show (z : Int) + 2 ^ p = ((z + 2 ^ p : Nat) : Int)
        simp
      rw [e]
  exact h ps [0]
theorem setsN_len (ps : List Nat) : (setsN ps).length = 2 ^ ps.length := by
  have := setsL_len ps
  rw [setsL_N, List.length_map] at this
  exact this
theorem setsN_le {ps : List Nat} (hp : ∀ p ∈ ps, p ≤ 40) : ∀ z ∈ setsN ps, z ≤ ps.length * 2 ^ 40 := by
  have h : ∀ (ps : List Nat), (∀ p ∈ ps, p ≤ 40) → ∀ (S : List Nat) (c : Nat), (∀ z ∈ S, z ≤ c) → ∀ z ∈ ps.foldl (fun S p => S ++ S.map fun z => z + 2 ^ p) S, z ≤ c + ps.length * 2 ^ 40 := by
    intro ps
    induction ps with
    | nil => intro _ S c hS z hz; have := hS z hz; simpa using this
    | cons p ps ih =>
      intro hp S c hS z hz
      rw [List.foldl_cons] at hz
      have hpp : 2 ^ p ≤ 2 ^ 40 := Nat.pow_le_pow_right (by decide) (hp p (.head _))
      have := ih (fun q hq => hp q (.tail _ hq)) _ (c + 2 ^ 40) (fun y hy => by
        rcases List.mem_append.mp hy with hy | hy
        · have := hS y hy; omega
        · obtain ⟨x, hx, rfl⟩ := List.mem_map.mp hy
          have := hS x hx
          omega) z hz
      rw [List.length_cons]
      omega
  intro z hz
  have := h ps hp [0] 0 (by simp) z hz
  simpa using this
theorem map_getD {is : List Nat} (f : Nat → Int) : ((List.range is.length).map fun i => f (is.getD i 0)) = is.map f := by
  apply List.ext_getElem
  · simp
  · intro i h1 h2
    have hi : i < is.length := by simpa using h1
    simp [List.getD_eq_getElem?_getD, List.getElem?_eq_getElem hi]
noncomputable def num7 (ps : List Nat) (i : Nat) : Nat := (setsN ps).getD i 0
noncomputable def ord7 (ps : List Nat) : List Nat := srt (2 ^ ps.length) fun i j => decide (turnV (num7 ps i) (num7 ps j) < 0)
theorem st7 {w : World} {E : Value → Shared → Prop} {s₁ s : Shared} {m : Str → Option Value} {cr : Option Value} {e77 : Array Value} {P : Addr} {vs : List Value} {ps : List Nat} {Q : Flow → Shared → Prop} (X : Base w s₁.heap) (x : LS w s₁ s m cr none e77) (hm : m (Str.ofString "places") = some (.ref P)) (hkm : m (Str.ofString "key") = some (.ref 152))
    (hl : s.heap.IsList P vs.toArray) (hi : IntsAre vs (ps.map fun (p : Nat) => (p : Int))) (hps : ∀ p ∈ ps, p ≤ 40) (h1' : 1 ≤ ps.length) (h4 : ps.length ≤ 4)
    (h : ∀ s' W ws, LS w s₁ s' m cr (some (.ref W)) e77 → s'.heap.IsList P vs.toArray → s'.heap.IsList W (List.toArray ws) → IntsAre ws ((ord7 ps).map fun i => (num7 ps i : Int)) → Q .next s') :
    wpAny (model prg w) (As 30) (exec (stL 7) lawEnv) Q E s := by
  change wpAny _ _ (exec (.Assign [.Name _ _] (.ListComp _ [⟨_, _, [], 0⟩] _ _) _) _) _ _ _
  have Xs := x.base X
  obtain ⟨h0, ge, dr, tk0, os⟩ := s
  iterate 1 walk1
  change wpAny _ _ (eval (.ListComp _ [⟨_, _, [], 0⟩] _ _) _) _ _ _
  refine comp_ev (kindI (fun i => (num7 ps ((ord7 ps).getD i 0) : Int)) (fun h => rfl)) (cl := []) rfl rfl (by decide) ?_
  iterate 1 walk1
  refine bname (w := w) Xs (n_sorted _) (b_sorted _) ?_
  iterate 2 walk1
  change wpAny _ _ (eval (.ListComp _ [⟨_, _, [], 0⟩] _ _) _) _ _ _
  refine comp_ev (kind7 (setsL ps)) (cl := []) rfl rfl (by decide) ?_
  iterate 1 walk1
  refine gname (w := w) Xs (g_sets _) ?_
  refine callWith_F (fn_70 (w := w) Xs) ?_
  iterate 1 walk1
  refine cLoc x.ns hm ?_
  iterate 1 walk1
  refine ⟨fn_70 (w := w) Xs, ?_⟩
  refine useL (sets_ok (vs := vs) ⟨rfl, by decide, by decide⟩ Xs hl hi (fun p hp => Nat.le_trans (hps p hp) (by decide)) h4) fun D zs h1 tk1 hD1 hL1 hI1 hk1 => ?_
  have hzl : zs.length = 2 ^ ps.length := by rw [hI1.length, setsL_len]
  have h16 : 2 ^ ps.length ≤ 16 := Nat.le_trans (Nat.pow_le_pow_right (by decide) h4) (by decide)
  have h2n : 2 ≤ 2 ^ ps.length := Nat.le_trans (by decide : 2 ≤ 2 ^ 1) (Nat.pow_le_pow_right (by decide) h1')
  refine ⟨h1, zs.toArray.size, _, by rw [List.size_toArray]; omega, src_list (s := { heap := h1, gens := ge, drawn := dr, toks := tk1, os := os }) rfl hL1, turn7 (by simpa using hI1), ?_⟩
  intro D2 C2 h2 tk2 ys hD2 hDC2 hpl2 hys2 hG2 hk2
  have k2 : ∀ b o, h0.get? b = some o → h2.get? b = some o := fun b o e => hk2 b o (hk1 b o e)
  have x2 : LS w s₁ { heap := h2, gens := ge, drawn := dr, toks := tk2, os := os } m cr none e77 := x.step (x.ns.at' fun o e => k2 _ o e) (fun b o _ _ e => k2 b o e) (x.t46.keeps k2)
  have hL2 : h2.IsList D2 ys.toList.toArray := by simpa using hpl2.isList
  have hyl : ys.toList.length = 2 ^ ps.length := by rw [Array.length_toList, hys2, List.size_toArray, hzl]
  have hP : Pairs ys.toList (num7 ps) (fun _ => 0) h2 := by
    intro i v e
    have hlt : i < (setsN ps).length := by
      have := (List.getElem?_eq_some_iff.mp e).1
      rw [hyl] at this
      rw [setsN_len]; exact this
    have eN : num7 ps i = (setsN ps)[i] := by rw [num7, List.getD_eq_getElem?_getD, List.getElem?_eq_getElem hlt]; rfl
    have hb : num7 ps i ≤ ps.length * 2 ^ 40 := by rw [eN]; exact setsN_le hps _ (List.getElem_mem _)
    refine ⟨by omega, ?_⟩
    obtain ⟨T, t, u, rfl, _, l⟩ := hG2 i v (by simpa using e)
    refine ⟨T, t, u, rfl, ?_⟩
    have e2 : (setsL ps).getD i 0 = (num7 ps i : Int) := by
      rw [setsL_N, eN, List.getD_eq_getElem?_getD, List.getElem?_map, List.getElem?_eq_getElem hlt]; rfl
    rw [e2] at l
    exact l
  iterate 2 walk1
  refine cLoc x2.ns hkm ?_
  iterate 1 walk1
  obtain ⟨H, t0, Y⟩ := x2.kf
  change wpAny _ _ (call (.builtin "sorted") [.ref D2] [(Str.ofString "key", .ref 152)]) _ _ _
  refine sorted_K (vs := ys.toList) ⟨rfl, by decide, by decide⟩ (x2.base X) x2.t46 x2.lam Y hL2 hyl h2n (by omega) hP.firsts fun D3 h3 tk3 c3 K3 hD3 hd3 => ?_
  have x3 := x2.kp K3
  have hR : h3.IsList D3 ((ord7 ps).map fun i => ys.toList.getD i .none).toArray := ⟨_, hd3, rfl, c3, rfl⟩
  have hP3 : Pairs ys.toList (num7 ps) (fun _ => 0) h3 := hP.up fun l its hl => K3.list x2.t46 hl
  have hl3 : h3.IsList P vs.toArray := K3.list x2.t46 (hl.at fun o e => k2 _ o e)
  have hbd : ∀ i ∈ ord7 ps, i < ys.toList.length := fun i hi => by rw [hyl]; exact (srt_bd (by omega) _).2 i hi
  have hol : (ord7 ps).length = 2 ^ ps.length := (srt_bd (by omega) _).1
  refine ⟨h3, _, _, by rw [List.size_toArray, List.length_map]; omega, src_list (s := { heap := h3, gens := ge, drawn := dr, toks := tk3, os := os }) rfl hR, turn7b rfl hP3 hbd, ?_⟩
  intro D4 C4 h4' tk4 ws hD4 hDC4 hpl4 hws4 hG4 hk4
  have x4 : LS w s₁ { heap := h4', gens := ge, drawn := dr, toks := tk4, os := os } m cr none e77 := x3.step (x3.ns.at' fun o e => hk4 _ o e) (fun b o _ _ e => hk4 b o e) (x3.t46.keeps hk4)
  refine wpAny_storeName_cell (env := lawEnv) rfl rfl rfl x4.wlk fun h5 hv5 hs5 => ?_
  refine h _ D4 ws.toList (x4.setWalk hv5 hs5) (cell_list x4.wlk (hl3.at fun o e => hk4 _ o e) hs5) (cell_list x4.wlk (by simpa using hpl4.isList) hs5) ?_
  have := ints_of (f := fun i => (num7 ps ((ord7 ps).getD i 0) : Int)) ws.toList fun i y e => hG4 i y (by simpa using e)
  rw [Array.length_toList, hws4, List.size_toArray, List.length_map] at this
  rw [map_getD (fun i => (num7 ps i : Int))] at this
  exact this
end Mine
end
section -- LSt8
open PySem PySem.Calls PySem.W PySem.W.X PyProof.Rows PySem.Spec PySem.SeqAt
set_option Elab.async false
set_option maxRecDepth 100000
set_option maxHeartbeats 1000000
set_option linter.unusedVariables false
namespace Mine
theorem nats_of {ps : List Nat} {ns : List Int} (hp : ns.Perm (ps.map fun (p : Nat) => (p : Int))) (hs : ns.Pairwise (· ≤ ·)) : ∃ qs : List Nat, ns = qs.map (fun (p : Nat) => (p : Int)) ∧ qs.Perm ps ∧ qs.Pairwise (· ≤ ·) := by
  have e : ns = (ns.map Int.toNat).map (fun (p : Nat) => (p : Int)) := by
    rw [List.map_map]
    conv => lhs; rw [← List.map_id ns]
    apply List.map_congr_left
    intro z hz
    obtain ⟨p, _, rfl⟩ := List.mem_map.mp (hp.mem_iff.mp hz)
    rfl
  refine ⟨ns.map Int.toNat, e, ?_, ?_⟩
  · have := hp.map Int.toNat
    rw [List.map_map] at this
    have e2 : List.map (Int.toNat ∘ fun (p : Nat) => (p : Int)) ps = ps := by
      conv => rhs; rw [← List.map_id ps]
      apply List.map_congr_left
      intro z _
      rfl
    rwa [e2] at this
  · rw [List.pairwise_map]
    exact hs.imp fun h => by omega
theorem st8 {w : World} {E : Value → Shared → Prop} {s₁ s : Shared} {m : Str → Option Value} {cr : Option Value} {e77 : Array Value} {P W : Addr} {vs ws : List Value} {ps : List Nat} {zs : List Int} {Q : Flow → Shared → Prop} (X : Base w s₁.heap) (x : LS w s₁ s m cr (some (.ref W)) e77) (hm : m (Str.ofString "places") = some (.ref P))
    (hl : s.heap.IsList P vs.toArray) (hi : IntsAre vs (ps.map fun (p : Nat) => (p : Int))) (hps : ∀ p ∈ ps, p ≤ 40) (h4 : ps.length ≤ 4) (hW : s.heap.IsList W ws.toArray) (hI : IntsAre ws zs)
    (hz : ∀ qs : List Nat, qs.Perm ps → qs.Pairwise (· ≤ ·) → zs = walkL qs)
    (h : ∀ (qs : List Nat) s', qs.Perm ps → qs.Pairwise (· ≤ ·) → LS w s₁ s' m cr (some (.ref W)) e77 → s'.heap.IsList W ws.toArray → Q .next s') :
    wpAny (model prg w) (As 30) (exec (stL 8) lawEnv) Q E s := by
  change wpAny _ _ (exec (.If _ _ _ _) _) _ _ _
  have Xs := x.base X
  have hvl : vs.length = ps.length := by have := hi.length; simpa using this
  obtain ⟨h0, ge, dr, tk0, os⟩ := s
  iterate 2 walk1
  refine cCell x.wlk ?_
  iterate 1 walk1
  refine gname (w := w) Xs (g_walk _) ?_
  refine callWith_F (fn_75 (w := w) Xs) ?_
  iterate 2 walk1
  refine bname (w := w) Xs (n_sorted _) (b_sorted _) ?_
  iterate 2 walk1
  refine cLoc x.ns hm ?_
  iterate 1 walk1
  refine sorted_ints hl hi (by omega) fun out ns' hO hperm hpw => ?_
  obtain ⟨qs, rfl, hq, hqs⟩ := nats_of hperm hpw
  obtain ⟨e, he⟩ := sortedAll_at h0 vs out
  have k1 : ∀ b o, h0.get? b = some o → (sortedAll h0 vs out).get? b = some o := fun b o e => sortedAll_old e
  dsimp only
  iterate 1 walk1
  refine ⟨fn_75 (w := w) (Xs.keeps k1), ?_⟩
  refine useL (walk_ok (vs := out.toList) (ps := qs) ⟨rfl, by decide, by decide⟩ (Xs.keeps k1) ⟨_, by simpa using he, rfl, e, by simp⟩ hO (fun p hp => Nat.le_trans (hps p (hq.mem_iff.mp hp)) (by decide)) (by rw [hq.length_eq]; exact h4)) fun D us h2 tk2 hD hL hU hk2 => ?_
  have k2 : ∀ b o, h0.get? b = some o → h2.get? b = some o := fun b o e => hk2 b o (k1 b o e)
  have x2 : LS w s₁ { heap := h2, gens := ge, drawn := dr, toks := tk2, os := os } m cr (some (.ref W)) e77 := x.step (x.ns.at' fun o e => k2 _ o e) (fun b o _ _ e => k2 b o e) (x.t46.keeps k2)
  refine ne_intsK (hW.at fun o e => k2 _ o e) hI hL hU (Nat.le_of_ble_eq_true rfl) ?_
  rw [hz qs hq hqs]
  refine wpAny_truthy_bool ?_
  rw [if_neg (by simp)]
  exact wpAny_execs_nil (h qs _ hq hqs x2 (hW.at fun o e => k2 _ o e))
end Mine
end
section -- LSt9
open PySem PySem.Calls PySem.W PySem.W.X PyProof.Rows PySem.Spec PySem.SeqAt
set_option Elab.async false
set_option maxRecDepth 100000
set_option maxHeartbeats 1000000
set_option linter.unusedVariables false
namespace Mine
theorem sub_any {w : World} {A : Around} {E : Value → Shared → Prop} {s : Shared} {value slice : PySem.Expr} {l : Addr} {vs : Array Value} {k : Int} {u : Tok} {v : Value} {Q : Value → Shared → Prop}
    (hl : s.heap.IsList l vs) (h0 : -(vs.size : Int) ≤ k) (h1 : -(2 ^ 63) ≤ k) (hhi : k < 2 ^ 63) (hx : vs[(if k < 0 then k + vs.size else k).toNat]? = some v) (h : Q v s)
    (hs : subscripted slice false (.ref l) (.int k u) = operate [.ref l, .int k u] (getItem (.ref l) (.int k u)) := by with_unfolding_all rfl) :
    wpAny (model prg w) A (subscriptTail value slice (.ref l) (.int k u)) Q E s := by
  by_cases hk : k < 0
  · rw [if_pos hk] at hx
    exact tail_any hl.typeIs slot_list_getitem.lookup (wpAny_getItem_list_neg hl hk h0 h1 hx h) hs
  · rw [if_neg hk] at hx
    exact tail_any hl.typeIs slot_list_getitem.lookup (wpAny_getItem_list hl (by omega) hhi hx h) hs
noncomputable def nb (zs : List Nat) (off i : Nat) : Nat := zs.getD i 0 ^^^ zs.getD ((i + zs.length - off) % zs.length) 0
theorem nats_get {vs : List Value} {ns : List Nat} (hi : IntsAre vs (ns.map fun (z : Nat) => (z : Int))) {i : Nat} (h : i < ns.length) : ∃ t, vs.toArray[i]? = some (.int (ns.getD i 0) t) := by
  have hl : vs.length = ns.length := by have := hi.length; simpa using this
  obtain ⟨n, hn, t, e⟩ := ints_get hi (i := i) (v := vs[i]'(by omega)) (List.getElem?_eq_getElem _)
  refine ⟨t, ?_⟩
  have e2 : (ns.getD i 0 : Int) = n := by
    rw [List.getElem?_map, List.getElem?_eq_getElem h] at hn
    rw [List.getD_eq_getElem?_getD, List.getElem?_eq_getElem h]
    exact Option.some.inj hn
  rw [List.getElem?_toArray, List.getElem?_eq_getElem (by omega), e, e2]
noncomputable def c9 : Expr := cmpV (stL 9)
theorem turn9 {w : World} {g : Heap} {vs : List Value} {zs : List Nat} {W : Addr} (X : Base w g) (hW : g.IsList W vs.toArray) (hi : IntsAre vs (zs.map fun (z : Nat) => (z : Int))) (h64 : zs.length < 64) (h2 : 2 ≤ zs.length) (hc : g.IsCell 84 (some (.ref W))) :
    Turn w (As 30) lawEnv (cElt c9) (cTgt c9) (cScp c9) [(Str.ofString "walk", 84)] 0 (fun _ _ => True) (GS fun i => isSingle (nb zs 1 i)) g zs.length (fun i v _ => ∃ t, v = .int (0 + i) t) := by
  rintro C i v s₃ E' hC hlt ⟨t, rfl⟩ ⟨m, hm⟩ _ hz hk
  obtain ⟨h0, ge, dr, tk0, os⟩ := s₃
  dsimp only at hm hz hk
  have hvl : vs.length = zs.length := by have := hi.length; simpa using this
  change wpAny _ _ (assign (.Name _ _) _ _) _ _ _
  refine wpAny_assign_Name (cStore (env := cEnv (cScp c9) [(Str.ofString "walk", 84)] C lawEnv) hm fun h₂ hn₂ hs₂ => ?_)
  have kk : ∀ (b : Nat) (o : Obj), b ≠ C → h0.get? b = some o → h₂.get? b = some o := fun b o hb e => hs₂.extBut b o hb e
  have kg : ∀ (b : Nat) (o : Obj), g.get? b = some o → h₂.get? b = some o := fun b o e => kk b o (ne_lt (Nat.lt_trans (Heap.lt_size e) hC)) (hk b o e)
  have hc2 : h₂.IsCell 84 (some (.ref W)) := by obtain ⟨o, e, r⟩ := hc; exact ⟨o, kg _ _ e, r⟩
  have X₂ : Base w h₂ := X.keeps kg
  obtain ⟨t1, e1⟩ := nats_get hi (i := i) hlt
  obtain ⟨t2, e2⟩ := nats_get hi (i := (i + zs.length - 1) % zs.length) (Nat.mod_lt _ (by omega))
  change wpAny _ _ (eval (.Call _ _ _ _) _) _ _ _
  dsimp only
  iterate 1 walk1
  refine bname (w := w) X₂ (n_str _) (b_str _) ?_
  iterate 3 walk1
  refine gname (w := w) X₂ (g_single _) ?_
  refine callWith_F (fn_21 (w := w) X₂) ?_
  iterate 3 walk1
  refine cCell hc2 ?_
  refine cLoc hn₂ (if_pos rfl) ?_
  refine sub_any (hW.at fun o e => kg _ o e) (by omega) (by omega) (by omega) (by rw [if_neg (by omega), show ((0 : Int) + (i : Nat)).toNat = i by omega]; exact e1) ?_
  iterate 1 walk1
  refine cCell hc2 ?_
  iterate 1 walk1
  refine cLoc hn₂ (if_pos rfl) ?_
  iterate 2 walk1
  refine sub_any (v := .int (zs.getD ((i + zs.length - 1) % zs.length) 0) t2) (hW.at fun o e => kg _ o e) (by rw [List.size_toArray]; omega) (by omega) (by omega) ?_ ?_
  · rw [← e2]
    congr 1
    rw [List.size_toArray, hvl]
    split
    · rw [Nat.mod_eq_of_lt (by omega)]; omega
    · rw [show i + zs.length - 1 = (i - 1) + zs.length by omega, Nat.add_mod_right, Nat.mod_eq_of_lt (by omega)]; omega
  show wpAny _ _ (binaryOp .BitXor (.int (zs.getD i 0) t1) (.int (zs.getD ((i + zs.length - 1) % zs.length) 0) t2)) _ _ _
  iterate 2 walk1
  refine ⟨fn_21 (w := w) X₂, ?_⟩
  rw [show Builtin.bitXor (zs.getD i 0 : Int) (zs.getD ((i + zs.length - 1) % zs.length) 0 : Int) = ((nb zs 1 i : Nat) : Int) from bitXor_nat _ _]
  refine useB (single_ok ⟨rfl, by decide, by decide⟩ X₂) fun h₃ tk₃ k₃ => ?_
  iterate 1 walk1
  refine PySem.P.str_of_bool ?_
  exact ⟨⟨_, _, rfl, fun b o hb e => k₃ b o (kk b o (by omega) e)⟩, ⟨_, hn₂.at' fun o e => k₃ _ o e⟩, trivial, _, rfl⟩
theorem st9 {w : World} {E : Value → Shared → Prop} {s₁ s : Shared} {m : Str → Option Value} {cr : Option Value} {W : Addr} {vs : List Value} {zs : List Nat} {e77 : Array Value} {Q : Flow → Shared → Prop} (X : Base w s₁.heap) (x : LS w s₁ s m cr (some (.ref W)) e77)
    (hW : s.heap.IsList W vs.toArray) (hi : IntsAre vs (zs.map fun (z : Nat) => (z : Int))) (h64 : zs.length < 64) (h2 : 2 ≤ zs.length)
    (h : ∀ s' T ys, LS w s₁ s' (fun y => if y = Str.ofString "singles" then some (.ref T) else m y) cr (some (.ref W)) e77 → s'.heap.IsList W vs.toArray → s'.heap.IsList T (List.toArray ys) → StrsAre' ys (((List.range zs.length).map fun i => isSingle (nb zs 1 i)).map bS) →
      (∀ l its, l ≠ 82 → s.heap.IsList l its → s'.heap.IsList l its) → Q .next s') :
    wpAny (model prg w) (As 30) (exec (stL 9) lawEnv) Q E s := by
  change wpAny _ _ (exec (.Assign [.Name _ _] (.ListComp _ [⟨_, _, [], 0⟩] _ _) _) _) _ _ _
  refine comp_as (kindS (fun i => isSingle (nb zs 1 i)) (fun h => rfl)) rfl rfl rfl (by decide) rfl rfl ?_
  have Xs := x.base X
  have hvl : vs.length = zs.length := by have := hi.length; simpa using this
  have hW82 := x.ne82 hW
  obtain ⟨h0, ge, dr, tk0, os⟩ := s
  iterate 1 walk1
  refine bname (w := w) Xs (n_range _) (b_range _) ?_
  iterate 3 walk1
  refine bname (w := w) Xs (n_len _) (b_len _) ?_
  iterate 2 walk1
  refine cCell x.wlk ?_
  iterate 1 walk1
  refine call_len_list hW (by rw [List.size_toArray]; omega) ?_
  rw [List.size_toArray, hvl]
  iterate 1 walk1
  refine call_range_1 ?_
  dsimp only
  have k1 : ∀ b o, h0.get? b = some o → (h0.push { cls := .type "range", data := .fields #[.int 0 (tk0 + 1 + 1), .int (zs.length : Nat) (tk0 + 1), .int 1 (tk0 + 1 + 1 + 1)] }).get? b = some o := fun b o e => Heap.get?_push_of_some _ e
  have hr : IsRange (h0.push { cls := .type "range", data := .fields #[.int 0 (tk0 + 1 + 1), .int (zs.length : Nat) (tk0 + 1), .int 1 (tk0 + 1 + 1 + 1)] }) h0.objs.size 0 (zs.length : Nat) 1 (tk0 + 1 + 1) (tk0 + 1) (tk0 + 1 + 1 + 1) := IsRange.new _ _ _ _ _ _ _
  generalize (h0.push { cls := .type "range", data := .fields #[.int 0 (tk0 + 1 + 1), .int (zs.length : Nat) (tk0 + 1), .int 1 (tk0 + 1 + 1 + 1)] }) = h1 at *
  have x1 : LS w s₁ { heap := h1, gens := ge, drawn := dr, toks := tk0, os := os } m cr (some (.ref W)) e77 := x.step (x.ns.at' fun o e => k1 _ o e) (fun b o _ _ e => k1 b o e) (x.t46.keeps k1)
  refine ⟨h1, zs.length, _, m, by omega, src_range (s := { heap := h1, gens := ge, drawn := dr, toks := _, os := os }) rfl hr (small_of (by omega) (by omega) (by omega) (by omega)) (by rw [rangeSize_one]; split <;> omega),
    turn9 (x1.base X) (hW.at fun o e => k1 _ o e) hi h64 h2 x1.wlk, x1.ns, ?_⟩
  intro D C h' tk ys hD hDC hpl hsz hG hns hkeep
  have hL : h'.IsList D ys := hpl.isList
  have kk : ∀ b o, b ≠ 82 → h0.get? b = some o → h'.get? b = some o := fun b o hb e => hkeep b o hb (k1 b o e)
  refine h _ D ys.toList (x.step hns (fun b o h1 _ e => kk b o h1 e) (x.t46k kk)) (hW.at fun o e => kk _ o hW82 e) (by simpa using hL) (strs_of hsz hG) fun l its hl hh => hh.at fun o e => kk _ o hl e
end Mine
end
section -- LSt10
open PySem PySem.Calls PySem.W PySem.W.X PyProof.Rows PySem.Spec PySem.SeqAt
set_option Elab.async false
set_option maxRecDepth 100000
set_option maxHeartbeats 1000000
set_option linter.unusedVariables false
namespace Mine
noncomputable def c10 : Expr := cmpV (stL 10)
theorem turn10 {w : World} {g : Heap} {vs : List Value} {zs : List Nat} {W : Addr} (X : Base w g) (hW : g.IsList W vs.toArray) (hi : IntsAre vs (zs.map fun (z : Nat) => (z : Int))) (h64 : zs.length < 64) (h2 : 2 ≤ zs.length) (hc : g.IsCell 84 (some (.ref W))) :
    Turn w (As 30) lawEnv (cElt c10) (cTgt c10) (cScp c10) [(Str.ofString "walk", 84)] 0 (fun _ _ => True) (GS fun i => isSingle (nb zs 2 i)) g zs.length (fun i v _ => ∃ t, v = .int (0 + i) t) := by
  rintro C i v s₃ E' hC hlt ⟨t, rfl⟩ ⟨m, hm⟩ _ hz hk
  obtain ⟨h0, ge, dr, tk0, os⟩ := s₃
  dsimp only at hm hz hk
  have hvl : vs.length = zs.length := by have := hi.length; simpa using this
  change wpAny _ _ (assign (.Name _ _) _ _) _ _ _
  refine wpAny_assign_Name (cStore (env := cEnv (cScp c10) [(Str.ofString "walk", 84)] C lawEnv) hm fun h₂ hn₂ hs₂ => ?_)
  have kk : ∀ (b : Nat) (o : Obj), b ≠ C → h0.get? b = some o → h₂.get? b = some o := fun b o hb e => hs₂.extBut b o hb e
  have kg : ∀ (b : Nat) (o : Obj), g.get? b = some o → h₂.get? b = some o := fun b o e => kk b o (ne_lt (Nat.lt_trans (Heap.lt_size e) hC)) (hk b o e)
  have hc2 : h₂.IsCell 84 (some (.ref W)) := by obtain ⟨o, e, r⟩ := hc; exact ⟨o, kg _ _ e, r⟩
  have X₂ : Base w h₂ := X.keeps kg
  obtain ⟨t1, e1⟩ := nats_get hi (i := i) hlt
  obtain ⟨t2, e2⟩ := nats_get hi (i := (i + zs.length - 2) % zs.length) (Nat.mod_lt _ (by omega))
  change wpAny _ _ (eval (.Call _ _ _ _) _) _ _ _
  dsimp only
  iterate 1 walk1
  refine bname (w := w) X₂ (n_str _) (b_str _) ?_
  iterate 3 walk1
  refine gname (w := w) X₂ (g_single _) ?_
  refine callWith_F (fn_21 (w := w) X₂) ?_
  iterate 3 walk1
  refine cCell hc2 ?_
  refine cLoc hn₂ (if_pos rfl) ?_
  refine sub_any (hW.at fun o e => kg _ o e) (by omega) (by omega) (by omega) (by rw [if_neg (by omega), show ((0 : Int) + (i : Nat)).toNat = i by omega]; exact e1) ?_
  iterate 1 walk1
  refine cCell hc2 ?_
  iterate 1 walk1
  refine cLoc hn₂ (if_pos rfl) ?_
  iterate 2 walk1
  refine sub_any (v := .int (zs.getD ((i + zs.length - 2) % zs.length) 0) t2) (hW.at fun o e => kg _ o e) (by rw [List.size_toArray]; omega) (by omega) (by omega) ?_ ?_
  · rw [← e2]
    congr 1
    rw [List.size_toArray, hvl]
    split
    · rw [Nat.mod_eq_of_lt (by omega)]; omega
    · rw [show i + zs.length - 2 = (i - 2) + zs.length by omega, Nat.add_mod_right, Nat.mod_eq_of_lt (by omega)]; omega
  show wpAny _ _ (binaryOp .BitXor (.int (zs.getD i 0) t1) (.int (zs.getD ((i + zs.length - 2) % zs.length) 0) t2)) _ _ _
  iterate 2 walk1
  refine ⟨fn_21 (w := w) X₂, ?_⟩
  rw [show Builtin.bitXor (zs.getD i 0 : Int) (zs.getD ((i + zs.length - 2) % zs.length) 0 : Int) = ((nb zs 2 i : Nat) : Int) from bitXor_nat _ _]
  refine useB (single_ok ⟨rfl, by decide, by decide⟩ X₂) fun h₃ tk₃ k₃ => ?_
  iterate 1 walk1
  refine PySem.P.str_of_bool ?_
  exact ⟨⟨_, _, rfl, fun b o hb e => k₃ b o (kk b o (by omega) e)⟩, ⟨_, hn₂.at' fun o e => k₃ _ o e⟩, trivial, _, rfl⟩
theorem st10 {w : World} {E : Value → Shared → Prop} {s₁ s : Shared} {m : Str → Option Value} {cr : Option Value} {W : Addr} {vs : List Value} {zs : List Nat} {e77 : Array Value} {Q : Flow → Shared → Prop} (X : Base w s₁.heap) (x : LS w s₁ s m cr (some (.ref W)) e77)
    (hW : s.heap.IsList W vs.toArray) (hi : IntsAre vs (zs.map fun (z : Nat) => (z : Int))) (h64 : zs.length < 64) (h2 : 2 ≤ zs.length)
    (h : ∀ s' T ys, LS w s₁ s' (fun y => if y = Str.ofString "doubles" then some (.ref T) else m y) cr (some (.ref W)) e77 → s'.heap.IsList W vs.toArray → s'.heap.IsList T (List.toArray ys) → StrsAre' ys (((List.range zs.length).map fun i => isSingle (nb zs 2 i)).map bS) →
      (∀ l its, l ≠ 82 → s.heap.IsList l its → s'.heap.IsList l its) → Q .next s') :
    wpAny (model prg w) (As 30) (exec (stL 10) lawEnv) Q E s := by
  change wpAny _ _ (exec (.Assign [.Name _ _] (.ListComp _ [⟨_, _, [], 0⟩] _ _) _) _) _ _ _
  refine comp_as (kindS (fun i => isSingle (nb zs 2 i)) (fun h => rfl)) rfl rfl rfl (by decide) rfl rfl ?_
  have Xs := x.base X
  have hvl : vs.length = zs.length := by have := hi.length; simpa using this
  have hW82 := x.ne82 hW
  obtain ⟨h0, ge, dr, tk0, os⟩ := s
  iterate 1 walk1
  refine bname (w := w) Xs (n_range _) (b_range _) ?_
  iterate 3 walk1
  refine bname (w := w) Xs (n_len _) (b_len _) ?_
  iterate 2 walk1
  refine cCell x.wlk ?_
  iterate 1 walk1
  refine call_len_list hW (by rw [List.size_toArray]; omega) ?_
  rw [List.size_toArray, hvl]
  iterate 1 walk1
  refine call_range_1 ?_
  dsimp only
  have k1 : ∀ b o, h0.get? b = some o → (h0.push { cls := .type "range", data := .fields #[.int 0 (tk0 + 1 + 1), .int (zs.length : Nat) (tk0 + 1), .int 1 (tk0 + 1 + 1 + 1)] }).get? b = some o := fun b o e => Heap.get?_push_of_some _ e
  have hr : IsRange (h0.push { cls := .type "range", data := .fields #[.int 0 (tk0 + 1 + 1), .int (zs.length : Nat) (tk0 + 1), .int 1 (tk0 + 1 + 1 + 1)] }) h0.objs.size 0 (zs.length : Nat) 1 (tk0 + 1 + 1) (tk0 + 1) (tk0 + 1 + 1 + 1) := IsRange.new _ _ _ _ _ _ _
  generalize (h0.push { cls := .type "range", data := .fields #[.int 0 (tk0 + 1 + 1), .int (zs.length : Nat) (tk0 + 1), .int 1 (tk0 + 1 + 1 + 1)] }) = h1 at *
  have x1 : LS w s₁ { heap := h1, gens := ge, drawn := dr, toks := tk0, os := os } m cr (some (.ref W)) e77 := x.step (x.ns.at' fun o e => k1 _ o e) (fun b o _ _ e => k1 b o e) (x.t46.keeps k1)
  refine ⟨h1, zs.length, _, m, by omega, src_range (s := { heap := h1, gens := ge, drawn := dr, toks := _, os := os }) rfl hr (small_of (by omega) (by omega) (by omega) (by omega)) (by rw [rangeSize_one]; split <;> omega),
    turn10 (x1.base X) (hW.at fun o e => k1 _ o e) hi h64 h2 x1.wlk, x1.ns, ?_⟩
  intro D C h' tk ys hD hDC hpl hsz hG hns hkeep
  have hL : h'.IsList D ys := hpl.isList
  have kk : ∀ b o, b ≠ 82 → h0.get? b = some o → h'.get? b = some o := fun b o hb e => hkeep b o hb (k1 b o e)
  refine h _ D ys.toList (x.step hns (fun b o h1 _ e => kk b o h1 e) (x.t46k kk)) (hW.at fun o e => kk _ o hW82 e) (by simpa using hL) (strs_of hsz hG) fun l its hl hh => hh.at fun o e => kk _ o hl e
end Mine
end
section -- LSt11
open PySem PySem.Calls PySem.W PySem.W.X PyProof.Rows PySem.Spec PySem.SeqAt
set_option Elab.async false
set_option maxRecDepth 100000
set_option maxHeartbeats 1000000
set_option linter.unusedVariables false
namespace Mine
theorem mul_raw {w : World} {A : Around} {E : Value → Shared → Prop} {s : Shared} {l : Addr} {vs : List Value} {x : Int} {u : Tok} {Q : Value → Shared → Prop}
    (hl : s.heap.IsList l vs.toArray) (hlo : -(2 ^ 63 : Int) ≤ x) (hhi : x < 2 ^ 63) (hsz : vs.length * x.toNat ≤ 2 ^ 24)
    (h : ∀ o, (s.heap.push o).IsList s.heap.objs.size (List.replicate x.toNat vs).flatten.toArray → Q (.ref s.heap.objs.size) { s with heap := s.heap.push o }) :
    wpAny (model prg w) A (binaryOp .Mult (.ref l) (.int x u)) Q E s := by
  obtain ⟨⟨cls, d, data, sl⟩, ho, hcl, k, hd⟩ := id hl
  simp only at hcl hd
  subst hcl hd
  have hsz' : vs.toArray.size * x.toNat ≤ 2 ^ 24 := by simpa using hsz
  refine wpAny_binaryOp_repeat_ref (T := "list") (U := "int") (by decide) ⟨_, ho, rfl⟩ (fun s' => typeIs_int s' x u) noFill_list_mul F.fills_int_mul F.slot_int_rmul repeat_list F.slot_int_index.lookup
    (call_meets F.slot_int_rmul (typeIs_int s x u) F.entry_int_rmul (F.args_int_rmul_2 _ _) (lm_int_rmul_list_any x u l vs.toArray k d sl)
      ⟨ho, rfl, ⟨_, ho, rfl⟩, call_meets F.slot_list_mul ⟨_, ho, rfl⟩ F.entry_list_mul (F.args_list_mul_2 _ _)
        (lm_list_mul_any l vs.toArray k d sl x u (by simp [Builtin.List.listFitsIndex]; omega) (by omega) (by simp [Builtin.List.listTooLong, sizeLine]; omega))
        ⟨ho, ?_⟩⟩)
  refine h _ ⟨_, Heap.get?_push_size _ rfl, rfl, 0, ?_⟩
  simp only [listMul_foldl_if]
theorem rep_strs (b : Bool) (t : Tok) (n : Nat) : StrsAre' (List.replicate n [Value.str (bS b) t]).flatten ((List.replicate n b).map bS) := by
  have e : (List.replicate n [Value.str (bS b) t]).flatten = List.replicate n (Value.str (bS b) t) := by
    induction n with
    | zero => rfl
    | succ n ih => rw [List.replicate_succ, List.flatten_cons, ih, List.replicate_succ]; rfl
  rw [e]
  refine ⟨by simp, fun i y hy => ?_⟩
  rw [List.getElem?_replicate] at hy
  split at hy
  · rename_i hlt
    exact ⟨t, bS b, by rw [List.getElem?_map, List.getElem?_replicate, if_pos hlt]; rfl, (Option.some.inj hy).symm⟩
  · cases hy
noncomputable def andA : Stmt → Nat → Expr | .Return (some (.BoolOp _ es _)) _, i => es.getD i default | _, _ => default
noncomputable def e11a : Expr := andA (stL 11) 0
noncomputable def e11b : Expr := andA (stL 11) 1
theorem sgl {w : World} {E : Value → Shared → Prop} {s₁ s : Shared} {m : Str → Option Value} {cr : Option Value} {W S : Addr} {vs ss : List Value} {n : Nat} {e77 : Array Value} {Q : Value → Shared → Prop} (X : Base w s₁.heap) (x : LS w s₁ s m cr (some (.ref W)) e77)
    (hS : m (Str.ofString "singles") = some (.ref S)) (hW : s.heap.IsList W vs.toArray) (hn : vs.length = n) (h64 : n < 64) (lS : s.heap.IsList S ss.toArray) (aS : StrsAre' ss ((List.replicate n true).map bS))
    (h : ∀ s', LS w s₁ s' m cr (some (.ref W)) e77 → (∀ l its, s.heap.IsList l its → s'.heap.IsList l its) → Q (.bool true) s') :
    wpAny (model prg w) (As 30) (eval e11a lawEnv) Q E s := by
  change wpAny _ _ (eval (.Compare _ _ _ _) _) _ _ _
  have Xs := x.base X
  obtain ⟨h0, ge, dr, tk0, os⟩ := s
  have hvs : vs.toArray.size = n := by rw [List.size_toArray, hn]
  iterate 1 walk1
  refine cLoc x.ns hS ?_
  iterate 1 walk1
  refine List_ ?_
  iterate 3 walk1
  refine wpAny_newList ?_ (by show 1 ≤ sizeLine; rw [sizeLine_eq]; decide)
  dsimp only
  iterate 1 walk1
  have p0 : ∀ b o, h0.get? b = some o → (h0.push { cls := .type "list", data := .seq (List.toArray [Value.str (bS true) tk0]) }).get? b = some o := fun b o e => Heap.get?_push_of_some _ e
  have lN0 : (h0.push { cls := .type "list", data := .seq (List.toArray [Value.str (bS true) tk0]) }).IsList h0.objs.size (List.toArray [Value.str (bS true) tk0]) := ⟨_, Heap.get?_push_size _ rfl, rfl, _, rfl⟩
  refine bname (w := w) (Xs.keeps p0) (n_len _) (b_len _) ?_
  iterate 2 walk1
  refine cCell (c := 84) (v := .ref W) (by obtain ⟨o, e, r⟩ := x.wlk; exact ⟨o, p0 _ _ e, r⟩) ?_
  iterate 1 walk1
  refine call_len_list (items := vs.toArray) (hW.at fun o e => p0 _ o e) (by rw [List.size_toArray]; omega) ?_
  rw [hvs]
  refine mul_raw (vs := [Value.str (bS true) tk0]) lN0 (by omega) (by omega) (by simp; omega) fun o0 lM0 => ?_
  have q0 : ∀ b o, h0.get? b = some o → ((h0.push { cls := .type "list", data := .seq (List.toArray [Value.str (bS true) tk0]) }).push o0).get? b = some o := fun b o e => Heap.get?_push_of_some _ (p0 b o e)
  rw [Int.toNat_natCast] at lM0
  refine eq_strs (bS_ok _) (Nat.le_of_ble_eq_true rfl) aS (rep_strs true tk0 n) (lS.at fun o e => q0 _ o e) lM0 ?_
  exact h _ (x.step (x.ns.at' fun o e => q0 _ o e) (fun b o _ _ e => q0 b o e) (x.t46.keeps q0)) fun l its hl => hl.at fun o e => q0 _ o e
theorem dbl {w : World} {E : Value → Shared → Prop} {s₁ s : Shared} {m : Str → Option Value} {cr : Option Value} {W S : Addr} {vs ss : List Value} {n : Nat} {e77 : Array Value} {Q : Value → Shared → Prop} (X : Base w s₁.heap) (x : LS w s₁ s m cr (some (.ref W)) e77)
    (hS : m (Str.ofString "doubles") = some (.ref S)) (hW : s.heap.IsList W vs.toArray) (hn : vs.length = n) (h64 : n < 64) (lS : s.heap.IsList S ss.toArray) (aS : StrsAre' ss ((List.replicate n false).map bS))
    (h : ∀ s', LS w s₁ s' m cr (some (.ref W)) e77 → (∀ l its, s.heap.IsList l its → s'.heap.IsList l its) → Q (.bool true) s') :
    wpAny (model prg w) (As 30) (eval e11b lawEnv) Q E s := by
  change wpAny _ _ (eval (.Compare _ _ _ _) _) _ _ _
  have Xs := x.base X
  obtain ⟨h0, ge, dr, tk0, os⟩ := s
  have hvs : vs.toArray.size = n := by rw [List.size_toArray, hn]
  iterate 1 walk1
  refine cLoc x.ns hS ?_
  iterate 1 walk1
  refine List_ ?_
  iterate 3 walk1
  refine wpAny_newList ?_ (by show 1 ≤ sizeLine; rw [sizeLine_eq]; decide)
  dsimp only
  iterate 1 walk1
  have p0 : ∀ b o, h0.get? b = some o → (h0.push { cls := .type "list", data := .seq (List.toArray [Value.str (bS false) tk0]) }).get? b = some o := fun b o e => Heap.get?_push_of_some _ e
  have lN0 : (h0.push { cls := .type "list", data := .seq (List.toArray [Value.str (bS false) tk0]) }).IsList h0.objs.size (List.toArray [Value.str (bS false) tk0]) := ⟨_, Heap.get?_push_size _ rfl, rfl, _, rfl⟩
  refine bname (w := w) (Xs.keeps p0) (n_len _) (b_len _) ?_
  iterate 2 walk1
  refine cCell (c := 84) (v := .ref W) (by obtain ⟨o, e, r⟩ := x.wlk; exact ⟨o, p0 _ _ e, r⟩) ?_
  iterate 1 walk1
  refine call_len_list (items := vs.toArray) (hW.at fun o e => p0 _ o e) (by rw [List.size_toArray]; omega) ?_
  rw [hvs]
  refine mul_raw (vs := [Value.str (bS false) tk0]) lN0 (by omega) (by omega) (by simp; omega) fun o0 lM0 => ?_
  have q0 : ∀ b o, h0.get? b = some o → ((h0.push { cls := .type "list", data := .seq (List.toArray [Value.str (bS false) tk0]) }).push o0).get? b = some o := fun b o e => Heap.get?_push_of_some _ (p0 b o e)
  rw [Int.toNat_natCast] at lM0
  refine eq_strs (bS_ok _) (Nat.le_of_ble_eq_true rfl) aS (rep_strs false tk0 n) (lS.at fun o e => q0 _ o e) lM0 ?_
  exact h _ (x.step (x.ns.at' fun o e => q0 _ o e) (fun b o _ _ e => q0 b o e) (x.t46.keeps q0)) fun l its hl => hl.at fun o e => q0 _ o e
theorem st11 {w : World} {E : Value → Shared → Prop} {s₁ s : Shared} {m : Str → Option Value} {cr : Option Value} {W S D : Addr} {vs ss ds : List Value} {n : Nat} {e77 : Array Value} {Q : Flow → Shared → Prop} (X : Base w s₁.heap) (x : LS w s₁ s m cr (some (.ref W)) e77)
    (hS : m (Str.ofString "singles") = some (.ref S)) (hD : m (Str.ofString "doubles") = some (.ref D))
    (hW : s.heap.IsList W vs.toArray) (hn : vs.length = n) (h64 : n < 64) (lS : s.heap.IsList S ss.toArray) (lD : s.heap.IsList D ds.toArray) (aS : StrsAre' ss ((List.replicate n true).map bS)) (aD : StrsAre' ds ((List.replicate n false).map bS))
    (h : ∀ s', LS w s₁ s' m cr (some (.ref W)) e77 → Q (.ret (.bool true)) s') :
    wpAny (model prg w) (As 30) (exec (stL 11) lawEnv) Q E s := by
  change wpAny _ _ (exec (.Return _ _) _) _ _ _
  obtain ⟨h0, ge, dr, tk0, os⟩ := s
  iterate 2 walk1
  change wpAny _ _ (eval e11a lawEnv) _ _ _
  refine sgl X x hS hW hn h64 lS aS fun s₂ x₂ k₂ => ?_
  refine wpAny_truthy_bool ?_
  rw [if_pos rfl]
  obtain ⟨h2, ge2, dr2, tk2, os2⟩ := s₂
  iterate 1 walk1
  change wpAny _ _ (eval e11b lawEnv) _ _ _
  refine dbl X x₂ hD (k₂ _ _ hW) hn h64 (k₂ _ _ lD) aD fun s₃ x₃ k₃ => ?_
  exact h _ x₃
end Mine
end
section -- LMathW
open PySem PySem.Calls PySem.W PySem.W.X PyProof.Rows PySem.Spec PySem.SeqAt
set_option Elab.async false
set_option maxRecDepth 100000
set_option maxHeartbeats 1000000
set_option linter.unusedVariables false
namespace Mine
/-- the number whose bits are those of c, set apart to the places qs -/
noncomputable def emb : List Nat → Nat → Nat
  | [], _ => 0
  | q :: qs, c => c % 2 * 2 ^ q + emb qs (c / 2)
noncomputable def cr : Nat → Nat → Nat
  | 0, _ => 0
  | k + 1, c => 2 * cr k (c / 2) + (c % 2 + cr k (c / 2)) % 2
theorem emb_zero : ∀ qs, emb qs 0 = 0
  | [] => rfl
  | q :: qs => by simp [emb, emb_zero qs]
theorem emb_shift (d : Nat) : ∀ (qs : List Nat) (c : Nat), (∀ x ∈ qs, d ≤ x) → emb qs c = 2 ^ d * emb (qs.map (· - d)) c
  | [], c, _ => by simp [emb]
  | q :: qs, c, h => by
    have h1 := h q (.head _)
    have ih := emb_shift d qs (c / 2) fun x hx => h x (.tail _ hx)
    rw [List.map_cons, emb, emb, ih, Nat.mul_add]
    congr 1
    rw [show q = d + (q - d) by omega, Nat.pow_add]
    rw [show d + (q - d) - d = q - d by omega]
    rw [← Nat.mul_assoc, ← Nat.mul_assoc, Nat.mul_comm (c % 2)]
theorem rank_two (M b : Nat) (hb : b < 2) : rankN (2 * M + b) = 2 * rankN M + (b + rankN M) % 2 := by
  have h1 := rankN_half (2 * M + b)
  have h2 := rankN_par (2 * M + b)
  rw [show (2 * M + b) / 2 = M by omega] at h1 h2
  rw [show (2 * M + b) % 2 = b by omega] at h2
  omega
theorem rank_low (M b : Nat) (hb : b < 2) : ∀ q, rankN (2 ^ (q + 1) * M + b * 2 ^ q) = 2 ^ (q + 1) * rankN M + (2 ^ (q + 1) - 1) * ((b + rankN M) % 2)
  | 0 => by simpa using rank_two M b hb
  | q + 1 => by
    have ih := rank_low M b hb q
    have e : 2 ^ (q + 1 + 1) * M + b * 2 ^ (q + 1) = 2 * (2 ^ (q + 1) * M + b * 2 ^ q) + 0 := by
      have a1 : 2 ^ (q + 1 + 1) * M = 2 * (2 ^ (q + 1) * M) := by rw [Nat.pow_succ' , Nat.mul_assoc]
      have a2 : b * 2 ^ (q + 1) = 2 * (b * 2 ^ q) := by rw [Nat.pow_succ', Nat.mul_left_comm]
      omega
    rw [e, rank_two _ 0 (by decide), ih]
    have hK : 2 ^ (q + 1) = 2 * 2 ^ q := Nat.pow_succ'
    have hK2 : 2 ^ (q + 1 + 1) = 2 * (2 * 2 ^ q) := by rw [Nat.pow_succ', hK]
    have hp : 0 < 2 ^ q := Nat.pow_pos (by decide)
    rw [hK2, hK]
    generalize 2 ^ q = K at *
    generalize rankN M = r at *
    have ht : (b + r) % 2 = 0 ∨ (b + r) % 2 = 1 := by omega
    rw [Nat.mul_assoc 2 (2 * K) r]
    generalize hX : 2 * K * r = X
    have hXe : X % 2 = 0 := by rw [← hX, Nat.mul_assoc]; omega
    rcases ht with ht | ht <;> rw [ht] <;> omega
theorem emb_top (q : Nat) (qs : List Nat) (c : Nat) (h : ∀ x ∈ qs, q < x) : emb (q :: qs) c = 2 ^ (q + 1) * emb (qs.map (· - (q + 1))) (c / 2) + c % 2 * 2 ^ q := by
  rw [emb, emb_shift (q + 1) qs _ h, Nat.add_comm]
theorem sub_sorted {d : Nat} {qs : List Nat} (h : ∀ x ∈ qs, d ≤ x) (hs : qs.Pairwise (· < ·)) : (qs.map (· - d)).Pairwise (· < ·) := by
  rw [List.pairwise_map]
  exact hs.imp_of_mem fun {a b} ha hb hab => by have := h a ha; have := h b hb; omega
theorem rank_emb : ∀ (k : Nat) (qs : List Nat), qs.length = k → qs.Pairwise (· < ·) → (∀ a b, rankN (emb qs a) < rankN (emb qs b) ↔ cr k a < cr k b) ∧ ∀ a, rankN (emb qs a) % 2 = cr k a % 2
  | 0, [], _, _ => ⟨fun a b => by simp [emb, cr], fun a => by simp [emb, cr, rankN_zero]⟩
  | k + 1, q :: qs, hl, hs => by
    obtain ⟨h1, h2⟩ := List.pairwise_cons.mp hs
    have hl' : (qs.map (· - (q + 1))).length = k := by simpa using hl
    obtain ⟨i1, i2⟩ := rank_emb k _ hl' (sub_sorted (d := q + 1) (fun x hx => h1 x hx) h2)
    have R : ∀ a, rankN (emb (q :: qs) a) = 2 ^ (q + 1) * rankN (emb (qs.map (· - (q + 1))) (a / 2)) + (2 ^ (q + 1) - 1) * ((a % 2 + cr k (a / 2)) % 2) := fun a => by
      rw [emb_top q qs a h1, rank_low _ _ (Nat.mod_lt _ (by decide))]
      congr 2
      have := i2 (a / 2)
      omega
    have hK : 2 ^ (q + 1) = 2 * 2 ^ q := Nat.pow_succ'
    have hp : 0 < 2 ^ q := Nat.pow_pos (by decide)
    refine ⟨fun a b => ?_, fun a => ?_⟩
    · rw [R a, R b, cr, cr]
      have j1 := i1 (a / 2) (b / 2)
      have j2 := i1 (b / 2) (a / 2)
      generalize rankN (emb (qs.map (· - (q + 1))) (a / 2)) = x at *
      generalize rankN (emb (qs.map (· - (q + 1))) (b / 2)) = y at *
      generalize cr k (a / 2) = u at *
      generalize cr k (b / 2) = v at *
      generalize 2 ^ (q + 1) = K at *
      have ht : (a % 2 + u) % 2 = 0 ∨ (a % 2 + u) % 2 = 1 := by omega
      have ht' : (b % 2 + v) % 2 = 0 ∨ (b % 2 + v) % 2 = 1 := by omega
      generalize (a % 2 + u) % 2 = t at *
      generalize (b % 2 + v) % 2 = t' at *
      rcases Nat.lt_trichotomy x y with hxy | hxy | hxy
      · have : K * x + K ≤ K * y := by rw [← Nat.mul_succ]; exact Nat.mul_le_mul_left _ hxy
        rcases ht with rfl | rfl <;> rcases ht' with rfl | rfl <;> omega
      · subst hxy
        rcases ht with rfl | rfl <;> rcases ht' with rfl | rfl <;> omega
      · have : K * y + K ≤ K * x := by rw [← Nat.mul_succ]; exact Nat.mul_le_mul_left _ hxy
        rcases ht with rfl | rfl <;> rcases ht' with rfl | rfl <;> omega
    · rw [R a, cr, hK]
      generalize rankN (emb (qs.map (· - (q + 1))) (a / 2)) = x at *
      generalize cr k (a / 2) = u at *
      have ht : (a % 2 + u) % 2 = 0 ∨ (a % 2 + u) % 2 = 1 := by omega
      generalize hX : 2 * 2 ^ q * x = X
      have hXe : X % 2 = 0 := by rw [← hX, Nat.mul_assoc]; omega
      rcases ht with ht | ht <;> rw [ht] <;> omega
end Mine
end
section -- LMathX
open PySem PySem.Calls PySem.W PySem.W.X PyProof.Rows PySem.Spec PySem.SeqAt
set_option Elab.async false
set_option maxRecDepth 100000
set_option maxHeartbeats 1000000
set_option linter.unusedVariables false
namespace Mine
theorem emb_add : ∀ (qs : List Nat) (p c : Nat), p < qs.length → c / 2 ^ p % 2 = 0 → emb qs (c + 2 ^ p) = emb qs c + 2 ^ qs.getD p 0
  | [], p, c, h, _ => absurd h (Nat.not_lt_zero _)
  | q :: qs, 0, c, _, h => by
    have h' : c % 2 = 0 := by simpa using h
    rw [emb, emb, show (c + 2 ^ 0) / 2 = c / 2 by omega, show (c + 2 ^ 0) % 2 = 1 by omega, h']
    simp [Nat.add_comm]
  | q :: qs, p + 1, c, hl, h => by
    have ih := emb_add qs p (c / 2) (by simpa using hl) (by rw [Nat.div_div_eq_div_mul, ← Nat.pow_succ']; exact h)
    rw [emb, emb, Nat.pow_succ', show (c + 2 * 2 ^ p) / 2 = c / 2 + 2 ^ p by omega, show (c + 2 * 2 ^ p) % 2 = c % 2 by omega, ih]
    simp [Nat.add_assoc]
noncomputable def rv (r : Bool) (S : List Nat) : List Nat := if r then S.reverse else S
theorem rv_map (r : Bool) (f : Nat → Nat) (S : List Nat) : rv r (S.map f) = (rv r S).map f := by cases r <;> simp [rv]
theorem rv_mem {r : Bool} {S : List Nat} {x : Nat} : x ∈ rv r S → x ∈ S := by cases r <;> simp [rv]
noncomputable def bld (r : Bool) (S : List Nat) (ps : List Nat) : List Nat := ps.foldl (fun S p => S ++ (rv r S).map fun z => z + 2 ^ p) S
noncomputable def okF (r : Bool) (k : Nat) : List Nat → List Nat → Bool
  | _, [] => true
  | S, p :: σ => S.all (fun c => c / 2 ^ p % 2 == 0) && decide (p < k) && okF r k (S ++ (rv r S).map fun z => z + 2 ^ p) σ
theorem bld_emb (r : Bool) (qs : List Nat) : ∀ (σ S : List Nat), okF r qs.length S σ = true → bld r (S.map (emb qs)) (σ.map fun p => qs.getD p 0) = (bld r S σ).map (emb qs)
  | [], S, _ => rfl
  | p :: σ, S, h => by
    rw [okF, Bool.and_eq_true, Bool.and_eq_true] at h
    obtain ⟨⟨h1, h2⟩, h3⟩ := h
    have ih := bld_emb r qs σ _ h3
    rw [List.map_cons, bld, List.foldl_cons, rv_map, List.map_map]
    rw [List.map_append, List.map_map] at ih
    have e : List.map ((fun z => z + 2 ^ qs.getD p 0) ∘ emb qs) (rv r S) = List.map (emb qs ∘ fun z => z + 2 ^ p) (rv r S) := by
      apply List.map_congr_left
      intro z hz
      have := List.all_eq_true.mp h1 z (rv_mem hz)
      exact (emb_add qs p z (of_decide_eq_true h2) (by simpa using this)).symm
    rw [e]
    exact ih
noncomputable def insAll (a : Nat) : List Nat → List (List Nat)
  | [] => [[a]]
  | b :: l => (a :: b :: l) :: (insAll a l).map (b :: ·)
noncomputable def perms : List Nat → List (List Nat)
  | [] => [[]]
  | a :: l => (perms l).flatMap (insAll a)
theorem insAll_mem (a : Nat) : ∀ (l1 l2 : List Nat), l1 ++ a :: l2 ∈ insAll a (l1 ++ l2)
  | [], [] => by simp [insAll]
  | [], b :: l2 => by simp [insAll]
  | b :: l1, l2 => by
    simp only [List.cons_append, insAll, List.mem_cons]
    exact .inr (List.mem_map.mpr ⟨_, insAll_mem a l1 l2, rfl⟩)
theorem perms_mem : ∀ (l ps : List Nat), ps.Perm l → ps ∈ perms l
  | [], ps, h => by rw [h.eq_nil]; simp [perms]
  | a :: l, ps, h => by
    obtain ⟨l1, l2, rfl⟩ := List.append_of_mem (h.mem_iff.mpr (.head _))
    have h2 : (l1 ++ l2).Perm l := (List.perm_middle.symm.trans h).cons_inv
    rw [perms, List.mem_flatMap]
    exact ⟨_, perms_mem l _ h2, insAll_mem a l1 l2⟩
theorem insAll_map (f : Nat → Nat) (a : Nat) : ∀ l, insAll (f a) (l.map f) = (insAll a l).map (List.map f)
  | [] => rfl
  | b :: l => by
    rw [List.map_cons, insAll, insAll_map f a l, insAll, List.map_cons, List.map_map, List.map_map]
    rfl
theorem perms_map (f : Nat → Nat) : ∀ l, perms (l.map f) = (perms l).map (List.map f)
  | [] => rfl
  | a :: l => by
    rw [List.map_cons, perms, perms_map f l, perms, List.map_flatMap, List.flatMap_map]
    congr 1
    funext x
    exact insAll_map f a x
theorem range_map {qs : List Nat} : (List.range qs.length).map (fun p => qs.getD p 0) = qs := by
  apply List.ext_getElem
  · simp
  · intro i h1 h2
    simp [List.getD_eq_getElem?_getD, List.getElem?_eq_getElem h2]
theorem perm_of {ps qs : List Nat} (h : ps.Perm qs) : ∃ σ ∈ perms (List.range qs.length), ps = σ.map fun p => qs.getD p 0 := by
  have := perms_mem _ _ h
  rw [← range_map (qs := qs), perms_map] at this
  obtain ⟨σ, hσ, rfl⟩ := List.mem_map.mp this
  exact ⟨σ, hσ, rfl⟩
noncomputable def gray (k : Nat) : List Nat := bld true [0] (List.range k)
noncomputable def ordC (k : Nat) (σ : List Nat) : List Nat := srt (2 ^ k) fun i j => decide (cr k ((bld false [0] σ).getD i 0) < cr k ((bld false [0] σ).getD j 0))
noncomputable def chk (k : Nat) : Bool := okF true k [0] (List.range k) && (perms (List.range k)).all fun σ => okF false k [0] σ && (σ.length == k) && ((ordC k σ).map (fun i => (bld false [0] σ).getD i 0) == gray k)
theorem chk3 : chk 3 = true := by decide +kernel
theorem chk4 : chk 4 = true := by decide +kernel
end Mine
end
section -- LMathY
open PySem PySem.Calls PySem.W PySem.W.X PyProof.Rows PySem.Spec PySem.SeqAt
set_option Elab.async false
set_option maxRecDepth 100000
set_option maxHeartbeats 1000000
set_option linter.unusedVariables false
namespace Mine
theorem num7_bld (ps : List Nat) (i : Nat) : num7 ps i = (bld false [0] ps).getD i 0 := rfl
theorem walkL_N (ps : List Nat) : walkL ps = (bld true [0] ps).map fun (z : Nat) => (z : Int) := by
  have h : ∀ (ps : List Nat) (S : List Nat), ps.foldl (fun S p => S ++ S.reverse.map fun z => z + 2 ^ p) (S.map fun (z : Nat) => (z : Int)) = (bld true S ps).map fun (z : Nat) => (z : Int) := by
    intro ps
    induction ps with
    | nil => intro S; rfl
    | cons p ps ih =>
      intro S
      rw [bld, List.foldl_cons, List.foldl_cons]
      have := ih (S ++ (rv true S).map fun z => z + 2 ^ p)
      rw [bld] at this
      rw [← this, List.map_append, List.map_map, ← List.map_reverse, List.map_map]
      have e : List.map ((fun (z : Int) => z + 2 ^ p) ∘ fun (z : Nat) => (z : Int)) S.reverse = List.map ((fun (z : Nat) => (z : Int)) ∘ fun z => z + 2 ^ p) (rv true S) := by
        apply List.map_congr_left
        intro z _
        show (z : Int) + 2 ^ p = ((z + 2 ^ p : Nat) : Int)
        simp
      rw [e]
  exact h ps [0]
/-- three or four places -/
noncomputable def K34 (k : Nat) : Prop := k = 3 ∨ k = 4
theorem chkK {k : Nat} (h : K34 k) : chk k = true := by
  rcases h with rfl | rfl
  · exact chk3
  · exact chk4
theorem gray_emb {qs : List Nat} (h : K34 qs.length) : bld true [0] qs = (gray qs.length).map (emb qs) := by
  have c := chkK h
  rw [chk, Bool.and_eq_true] at c
  have := bld_emb true qs (List.range qs.length) [0] c.1
  rw [range_map] at this
  rw [show [0].map (emb qs) = [0] by simp [emb_zero]] at this
  exact this
theorem lt_of_sorted {qs : List Nat} (h : qs.Pairwise (· ≤ ·)) (hn : qs.Nodup) : qs.Pairwise (· < ·) := by
  have : qs.Pairwise (fun a b => a ≤ b ∧ a ≠ b) := h.and hn
  exact this.imp fun h => by omega
theorem walk_eq {ps qs : List Nat} (hk : K34 ps.length) (hn : ps.Nodup) (hq : qs.Perm ps) (hs : qs.Pairwise (· ≤ ·)) : (ord7 ps).map (fun i => (num7 ps i : Int)) = walkL qs := by
  have hs' := lt_of_sorted hs (hq.nodup_iff.mpr hn)
  have hl : qs.length = ps.length := hq.length_eq
  have hk' : K34 qs.length := hl ▸ hk
  obtain ⟨σ, hσ, rfl⟩ := perm_of hq.symm
  have c := chkK hk'
  rw [chk, Bool.and_eq_true, List.all_eq_true] at c
  have c2 := c.2 σ hσ
  rw [Bool.and_eq_true, Bool.and_eq_true] at c2
  obtain ⟨⟨c3, c4⟩, c5⟩ := c2
  have c4' : σ.length = qs.length := by simpa using c4
  have c5' : (ordC qs.length σ).map (fun i => (bld false [0] σ).getD i 0) = gray qs.length := by simpa using c5
  have e := bld_emb false qs σ [0] c3
  have e0 : [0].map (emb qs) = [0] := by simp [emb_zero]
  rw [e0] at e
  have en : ∀ i, num7 (σ.map fun p => qs.getD p 0) i = emb qs ((bld false [0] σ).getD i 0) := fun i => by
    rw [num7_bld, e, List.getD_eq_getElem?_getD, List.getD_eq_getElem?_getD, List.getElem?_map]
    cases (bld false [0] σ)[i]? with
    | none => simp [emb_zero]
    | some v => rfl
  have eo : ord7 (σ.map fun p => qs.getD p 0) = ordC qs.length σ := by
    rw [ord7, ordC, List.length_map, c4']
    refine srt_congr (Nat.pow_pos (by decide)) fun i j _ _ => ?_
    have t := @turn_lt (num7 (σ.map fun p => qs.getD p 0) i) (num7 (σ.map fun p => qs.getD p 0) j)
    rw [decide_eq_decide, t, en, en]
    exact (rank_emb _ qs rfl hs').1 _ _
  rw [eo, walkL_N, gray_emb hk', ← c5', List.map_map, List.map_map]
  apply List.map_congr_left
  intro i _
  show ((num7 _ i : Nat) : Int) = ((emb qs _ : Nat) : Int)
  rw [en]
theorem xor_step (x y b b' : Nat) (hb : b < 2) (hb' : b' < 2) : (2 * x + b) ^^^ (2 * y + b') = 2 * (x ^^^ y) + (b ^^^ b') := by
  have d : ((2 * x + b) ^^^ (2 * y + b')) / 2 = x ^^^ y := by
    rw [Nat.xor_div_two, show (2 * x + b) / 2 = x by omega, show (2 * y + b') / 2 = y by omega]
  have m : ((2 * x + b) ^^^ (2 * y + b')) % 2 = 1 ↔ ¬ ((2 * x + b) % 2 = 1 ↔ (2 * y + b') % 2 = 1) := Nat.xor_mod_two_eq_one
  have m2 : b ^^^ b' = (b + b') % 2 := xor_bits b b' hb hb'
  rw [m2]
  have : ((2 * x + b) ^^^ (2 * y + b')) % 2 = (b + b') % 2 := by
    rcases (show b = 0 ∨ b = 1 by omega) with rfl | rfl <;> rcases (show b' = 0 ∨ b' = 1 by omega) with rfl | rfl <;> omega
  omega
theorem xor_pow (x y : Nat) : ∀ q, (2 ^ q * x) ^^^ (2 ^ q * y) = 2 ^ q * (x ^^^ y)
  | 0 => by simp
  | q + 1 => by
    have := xor_step (2 ^ q * x) (2 ^ q * y) 0 0 (by decide) (by decide)
    rw [xor_pow x y q] at this
    rw [Nat.pow_succ', Nat.mul_assoc, Nat.mul_assoc, Nat.mul_assoc]
    simpa using this
theorem emb_xor : ∀ (k : Nat) (qs : List Nat), qs.length = k → qs.Pairwise (· < ·) → ∀ a b, emb qs a ^^^ emb qs b = emb qs (a ^^^ b)
  | 0, [], _, _, a, b => by simp [emb]
  | k + 1, q :: qs, hl, hs, a, b => by
    obtain ⟨h1, h2⟩ := List.pairwise_cons.mp hs
    have hl' : (qs.map (· - (q + 1))).length = k := by simpa using hl
    have ih := emb_xor k _ hl' (sub_sorted (d := q + 1) (fun x hx => h1 x hx) h2)
    have R : ∀ a, emb (q :: qs) a = 2 ^ q * (2 * emb (qs.map (· - (q + 1))) (a / 2) + a % 2) := fun a => by
      rw [emb_top q qs a h1, Nat.mul_add, Nat.pow_succ, Nat.mul_assoc, Nat.mul_comm (a % 2)]
    rw [R a, R b, R (a ^^^ b), xor_pow, xor_step _ _ _ _ (Nat.mod_lt _ (by decide)) (Nat.mod_lt _ (by decide)), ih, Nat.xor_div_two]
    congr 2
    rw [xor_bits _ _ (Nat.mod_lt _ (by decide)) (Nat.mod_lt _ (by decide))]
    have m : (a ^^^ b) % 2 = 1 ↔ ¬ (a % 2 = 1 ↔ b % 2 = 1) := Nat.xor_mod_two_eq_one
    omega
theorem popc_nil : ∀ m, popc 0 m = 0
  | 0 => rfl
  | m + 1 => by rw [popc_succ]; simp [popc_nil m]
theorem popc_emb : ∀ (m : Nat) (qs : List Nat) (c : Nat), qs.Pairwise (· < ·) → (∀ q ∈ qs, q < m) → popc (emb qs c) m = popc c qs.length
  | m, [], c, _, _ => by simp [emb, popc_nil]; rfl
  | 0, q :: qs, c, _, h => absurd (h q (.head _)) (Nat.not_lt_zero _)
  | m + 1, q :: qs, c, hs, h => by
    obtain ⟨h1, h2⟩ := List.pairwise_cons.mp hs
    rw [popc_succ]
    by_cases hq : q = 0
    · subst hq
      have ih := popc_emb m (qs.map (· - 1)) (c / 2) (sub_sorted (d := 1) (fun x hx => h1 x hx) h2) (fun x hx => by
        obtain ⟨y, hy, rfl⟩ := List.mem_map.mp hx
        have := h1 y hy; have := h y (.tail _ hy); omega)
      rw [emb_top 0 qs c h1, List.length_cons, popc_succ]
      rw [List.length_map] at ih
      simp only [Nat.zero_add, Nat.pow_one, Nat.pow_zero, Nat.mul_one]
      rw [show (2 * emb (qs.map (· - 1)) (c / 2) + c % 2) / 2 = emb (qs.map (· - 1)) (c / 2) by omega, ih]
      omega
    · have ha : ∀ x ∈ q :: qs, 1 ≤ x := fun x hx => by
        rcases List.mem_cons.mp hx with rfl | hx
        · omega
        · have := h1 x hx; omega
      have ih := popc_emb m ((q :: qs).map (· - 1)) c (sub_sorted ha hs) (fun x hx => by
        obtain ⟨y, hy, rfl⟩ := List.mem_map.mp hx
        have := ha y hy; have := h y hy; omega)
      rw [List.length_map] at ih
      rw [emb_shift 1 (q :: qs) c ha, Nat.pow_one, Nat.mul_mod_right, Nat.mul_div_cancel_left _ (by decide), ih, Nat.zero_add]
theorem emb_lt : ∀ (m : Nat) (qs : List Nat) (c : Nat), qs.Pairwise (· < ·) → (∀ q ∈ qs, q < m) → emb qs c < 2 ^ m
  | m, [], c, _, _ => Nat.pow_pos (by decide)
  | 0, q :: qs, c, _, h => absurd (h q (.head _)) (Nat.not_lt_zero _)
  | m + 1, q :: qs, c, hs, h => by
    obtain ⟨h1, h2⟩ := List.pairwise_cons.mp hs
    by_cases hq : q = 0
    · subst hq
      have ih := emb_lt m (qs.map (· - 1)) (c / 2) (sub_sorted (d := 1) (fun x hx => h1 x hx) h2) (fun x hx => by
        obtain ⟨y, hy, rfl⟩ := List.mem_map.mp hx
        have := h1 y hy; have := h y (.tail _ hy); omega)
      rw [emb_top 0 qs c h1, Nat.pow_succ']
      simp only [Nat.zero_add, Nat.pow_zero, Nat.mul_one]
      omega
    · have ha : ∀ x ∈ q :: qs, 1 ≤ x := fun x hx => by
        rcases List.mem_cons.mp hx with rfl | hx
        · omega
        · have := h1 x hx; omega
      have ih := emb_lt m ((q :: qs).map (· - 1)) c (sub_sorted ha hs) (fun x hx => by
        obtain ⟨y, hy, rfl⟩ := List.mem_map.mp hx
        have := ha y hy; have := h y hy; omega)
      rw [emb_shift 1 (q :: qs) c ha, Nat.pow_one, Nat.pow_succ']
      omega
noncomputable def chkN (k off : Nat) (b : Bool) : Bool := (List.range (gray k).length).all fun i => (popc (nb (gray k) off i) k == 1) == b
theorem chkN_1 {k : Nat} (h : K34 k) : chkN k 1 true = true ∧ (gray k).length = 2 ^ k := by rcases h with rfl | rfl <;> constructor <;> decide +kernel
theorem chkN_2 {k : Nat} (h : K34 k) : chkN k 2 false = true := by rcases h with rfl | rfl <;> decide +kernel
theorem nb_emb {qs : List Nat} (hs : qs.Pairwise (· < ·)) (off i : Nat) : nb ((gray qs.length).map (emb qs)) off i = emb qs (nb (gray qs.length) off i) := by
  have g : ∀ j, ((gray qs.length).map (emb qs)).getD j 0 = emb qs ((gray qs.length).getD j 0) := fun j => by
    rw [List.getD_eq_getElem?_getD, List.getD_eq_getElem?_getD, List.getElem?_map]
    cases (gray qs.length)[j]? with
    | none => simp [emb_zero]
    | some v => rfl
  rw [nb, nb, g, g, List.length_map, emb_xor _ qs rfl hs]
theorem nb_all {qs : List Nat} {off : Nat} {b : Bool} (hs : qs.Pairwise (· < ·)) (h41 : ∀ q ∈ qs, q < 41) (hc : chkN qs.length off b = true) :
    ((List.range ((gray qs.length).map (emb qs)).length).map fun i => isSingle (nb ((gray qs.length).map (emb qs)) off i)) = List.replicate ((gray qs.length).map (emb qs)).length b := by
  rw [List.eq_replicate_iff]
  refine ⟨by simp, fun y hy => ?_⟩
  obtain ⟨i, hi, rfl⟩ := List.mem_map.mp hy
  rw [List.length_map] at hi
  rw [nb_emb hs, single_pop (emb_lt 41 qs _ hs h41), popc_emb 41 qs _ hs h41]
  have := List.all_eq_true.mp hc i hi
  simpa using this
end Mine
end
section -- LMathP
open PySem PySem.Calls PySem.W PySem.W.X PyProof.Rows PySem.Spec PySem.SeqAt
set_option Elab.async false
set_option maxRecDepth 100000
set_option maxHeartbeats 1000000
set_option linter.unusedVariables false
namespace Mine
noncomputable def PlOk (acc : List Int) : Prop := acc.Nodup ∧ (∀ z ∈ acc, 0 ≤ z ∧ z < 40) ∧ acc.length ≤ 4
theorem pl_step {acc : List Int} (h : PlOk acc) (x : Int) : PlOk (plStep acc x) ∧ (∀ z ∈ acc, z ∈ plStep acc x) ∧ (x.fmod 40 ∈ plStep acc x ∨ 4 ≤ (plStep acc x).length) ∧ acc.length ≤ (plStep acc x).length := by
  obtain ⟨a, b, c⟩ := h
  unfold plStep
  by_cases hc : (!(acc.any (· == x.fmod 40)) && decide (acc.length < 4)) = true
  · rw [if_pos hc]
    rw [Bool.and_eq_true, decide_eq_true_eq, Bool.not_eq_true'] at hc
    have hm : x.fmod 40 ∉ acc := fun hm => by
      have : acc.any (· == x.fmod 40) = true := List.any_eq_true.mpr ⟨_, hm, beq_self_eq_true _⟩
      rw [hc.1] at this
      cases this
    have hf : 0 ≤ x.fmod 40 ∧ x.fmod 40 < 40 := by
      rw [Int.fmod_eq_emod_of_nonneg _ (by decide)]
      omega
    refine ⟨⟨?_, ?_, ?_⟩, fun z hz => List.mem_append.mpr (.inl hz), .inl (by simp), by simp⟩
    · rw [List.nodup_append]
      refine ⟨a, by simp, fun z hz y hy q => ?_⟩
      rw [List.mem_singleton.mp hy] at q
      exact hm (q ▸ hz)
    · intro z hz
      rcases List.mem_append.mp hz with hz | hz
      · exact b z hz
      · rw [List.mem_singleton.mp hz]; exact hf
    · rw [List.length_append, List.length_singleton]; omega
  · rw [if_neg hc]
    refine ⟨⟨a, b, c⟩, fun _ h => h, ?_, Nat.le_refl _⟩
    rw [Bool.and_eq_true, decide_eq_true_eq, Bool.not_eq_true'] at hc
    by_cases h4 : acc.length < 4
    · refine .inl ?_
      have : acc.any (· == x.fmod 40) = true := by
        cases hh : acc.any (· == x.fmod 40) with
        | true => rfl
        | false => exact absurd ⟨hh, h4⟩ hc
      obtain ⟨y, hy, e⟩ := List.any_eq_true.mp this
      rw [← eq_of_beq e]; exact hy
    · exact .inr (by omega)
theorem pl_ok (xs : List Int) : PlOk (plL xs) := by
  have h : ∀ (xs acc : List Int), PlOk acc → PlOk (xs.foldl plStep acc) := by
    intro xs
    induction xs with
    | nil => intro acc h; exact h
    | cons x xs ih => intro acc h; exact ih _ (pl_step h x).1
  exact h xs [] ⟨by simp, by simp, by simp⟩
theorem pl_len (xs : List Int) : 3 ≤ (plL (xs ++ [3, 0, 8])).length := by
  rw [show xs ++ [3, 0, 8] = ((xs ++ [3]) ++ [0]) ++ [8] by simp, plL_snoc, plL_snoc, plL_snoc]
  obtain ⟨a1, a2, a3, a4⟩ := pl_step (pl_ok xs) 3
  obtain ⟨b1, b2, b3, b4⟩ := pl_step a1 0
  obtain ⟨c1, c2, c3, c4⟩ := pl_step b1 8
  generalize plStep (plL xs) 3 = A at *
  generalize plStep A 0 = B at *
  generalize plStep B 8 = C at *
  by_cases h4 : 4 ≤ C.length
  · omega
  have m3 : (3 : Int) ∈ C := by
    rcases a3 with h | h
    · exact c2 _ (b2 _ h)
    · omega
  have m0 : (0 : Int) ∈ C := by
    rcases b3 with h | h
    · exact c2 _ h
    · omega
  have m8 : (8 : Int) ∈ C := by
    rcases c3 with h | h
    · exact h
    · omega
  match C, m3, m0, m8 with
  | [], h, _, _ => cases h
  | [x], h, h', _ => simp at h h'; omega
  | [x, y], h, h', h'' => simp at h h' h''; omega
  | _ :: _ :: _ :: _, _, _, _ => simp
theorem places_nat (ns : List Int) : ∃ ps : List Nat, plL (xs6 ns) = ps.map (fun (p : Nat) => (p : Int)) ∧ ps.Nodup ∧ (∀ p ∈ ps, p ≤ 40) ∧ K34 ps.length := by
  obtain ⟨a, b, c⟩ := pl_ok (xs6 ns)
  have d := pl_len (ns.take 4)
  have e : plL (xs6 ns) = ((plL (xs6 ns)).map Int.toNat).map (fun (p : Nat) => (p : Int)) := by
    rw [List.map_map]
    conv => lhs; rw [← List.map_id (plL (xs6 ns))]
    apply List.map_congr_left
    intro z hz
    have := b z hz
    show z = ((z.toNat : Nat) : Int)
    omega
  refine ⟨(plL (xs6 ns)).map Int.toNat, e, ?_, ?_, ?_⟩
  · have h : (plL (xs6 ns)).Pairwise (fun x y => x.toNat ≠ y.toNat) := a.imp_of_mem fun {x y} hx hy h q => by
      have := b x hx; have := b y hy
      exact h (by omega)
    exact List.pairwise_map.mpr h
  · intro p hp
    obtain ⟨z, hz, rfl⟩ := List.mem_map.mp hp
    have := b z hz
    omega
  · rw [List.length_map]
    show (plL (xs6 ns)).length = 3 ∨ (plL (xs6 ns)).length = 4
    have d' : 3 ≤ (plL (xs6 ns)).length := d
    omega
end Mine
end
section -- LBody
open PySem PySem.Calls PySem.W PySem.W.X PyProof.Rows PySem.Spec PySem.SeqAt
set_option Elab.async false
set_option maxRecDepth 100000
set_option maxHeartbeats 1000000
set_option linter.unusedVariables false
namespace Mine
theorem body_eq : bodyS (st 13) = [stL 0, stL 1, stL 2, stL 3, stL 4, stL 5, stL 6, stL 7, stL 8, stL 9, stL 10, stL 11] := by with_unfolding_all rfl
theorem xs1_len (ns : List Int) : (xs1 ns).length ≤ 13 ∧ 5 ≤ (xs1 ns).length := by
  rw [xs1, List.length_append, List.length_take]
  simp only [List.length_cons, List.length_nil]
  omega
theorem num1_lt (xs : List Int) (i : Nat) : num1 xs i < 2 ^ 24 := by
  unfold num1
  have h1 := Int.emod_nonneg (xs.getD i 0) (b := 2 ^ 24) (by decide)
  have h2 := Int.emod_lt_of_pos (xs.getD i 0) (b := 2 ^ 24) (by decide)
  omega
theorem body_ok {w : World} {E : Value → Shared → Prop} {s₁ s : Shared} {vals : List Value} {ns : List Int} (X : HT w s₁.heap) (hgens : s₁.gens = #[]) (hsz₁ : s₁.heap.objs.size = 82) (hl : s₁.heap.IsList 81 vals.toArray) (hi : IntsAre vals ns) (hlen : ns.length ≤ 63)
    (hs : ∃ h tk, s = { s₁ with heap := h, toks := tk }) (hsz : s.heap.objs.size = 85) (hn : s.heap.Ns 82 (fun x => if x = Str.ofString "script" then some (.ref 81) else none)) (h83 : s.heap.IsCell 83 none) (h84 : s.heap.IsCell 84 none) (hk : ∀ b o, s₁.heap.get? b = some o → s.heap.get? b = some o) :
    wpAny (model prg w) (As 30) (execs (bodyS (st 13)) lawEnv) (fun f s' => f = .ret (.bool true) ∧ ∃ m cr cw e77, LS w s₁ s' m cr cw e77) E s := by
  rw [body_eq]
  have Xb := X.kb
  have h13 := xs1_len ns
  refine wpAny_execs_cons (st0 X hgens hsz₁ hs hsz hn h83 h84 hk fun s0 x0 => ?_)
  refine wpAny_execs_cons (st1 Xb x0 (by rfl) hl hi hlen fun s1 T vs x1 lT hvs hP => ?_)
  refine wpAny_execs_cons (st2 Xb x1 (by rfl) (by rfl) lT hvs (by omega) (by omega) hP fun s2 R x2 lT2 hP2 lR2 => ?_)
  refine wpAny_execs_cons (st3 Xb x2 (by rfl) lT2 hvs (by omega) (by omega) hP2 lR2 fun s3 e77 x3 hP3 lR3 => ?_)
  have hsb := srt_bd (n := (xs1 ns).length) (by omega) fun i j => decide (turnV (num1 (xs1 ns) i) (num1 (xs1 ns) j) < 0)
  refine wpAny_execs_cons (st4 Xb x3 (n := (xs1 ns).length) hsb.1 (by omega) (by omega) (fun i hi => by rw [hvs]; exact hsb.2 i hi) hP3 lR3 fun s4 T4 ys4 x4 lT4 hI4 => ?_)
  refine wpAny_execs_cons (st5 Xb x4 (by rfl) lT4 hI4 (by omega) (fun i _ => Nat.xor_lt_two_pow (num1_lt _ _) (num1_lt _ _)) fun s5 x5 => ?_)
  refine wpAny_execs_cons (st6 Xb x5 (by rfl) hl hi hlen fun s6 P vP x6 lP hIP => ?_)
  obtain ⟨ps, eps, hnd, h40, hK⟩ := places_nat ns
  rw [eps] at hIP
  have hK' : ps.length ≤ 4 ∧ 3 ≤ ps.length := by rcases hK with h | h <;> omega
  refine wpAny_execs_cons (st7 Xb x6 (by rfl) (by rfl) lP hIP h40 (by omega) hK'.1 fun s7 W ws x7 lP7 lW7 hI7 => ?_)
  refine wpAny_execs_cons (st8 Xb x7 (by rfl) lP7 hIP h40 hK'.1 lW7 hI7 (fun qs hq hqs => walk_eq hK hnd hq hqs) fun qs s8 hq hqs x8 lW8 => ?_)
  have hqn := lt_of_sorted hqs (hq.nodup_iff.mpr hnd)
  have hqK : K34 qs.length := hq.length_eq ▸ hK
  have hq41 : ∀ q ∈ qs, q < 41 := fun q h => Nat.lt_succ_of_le (h40 q (hq.mem_iff.mp h))
  rw [walk_eq hK hnd hq hqs, walkL_N, gray_emb hqK] at hI7
  have hgl := (chkN_1 hqK).2
  have hzl : ((gray qs.length).map (emb qs)).length = 2 ^ qs.length := by rw [List.length_map, hgl]
  have h16 : 2 ^ qs.length ≤ 16 ∧ 8 ≤ 2 ^ qs.length := by rcases hqK with h | h <;> rw [h] <;> decide
  have n1 := nb_all hqn hq41 (chkN_1 hqK).1
  have n2 := nb_all hqn hq41 (chkN_2 hqK)
  generalize (gray qs.length).map (emb qs) = zs at *
  have hwl : ws.length = zs.length := by have := hI7.length; simpa using this
  refine wpAny_execs_cons (st9 Xb x8 lW8 hI7 (by omega) (by omega) fun s9 T9 ys9 x9 lW9 lT9 a9 _ => ?_)
  refine wpAny_execs_cons (st10 Xb x9 lW9 hI7 (by omega) (by omega) fun s10 T10 ys10 x10 lW10 lT10 a10 k10 => ?_)
  rw [n1] at a9
  rw [n2] at a10
  refine wpAny_execs_cons (st11 Xb x10 (by rfl) (by rfl) lW10 hwl (by omega) (k10 _ _ (x9.ne82 lT9) lT9) lT10 a9 a10 fun s11 x11 => ?_)
  exact ⟨rfl, _, _, _, _, x11⟩
end Mine
end
section -- LLaw
open PySem PySem.Calls PySem.W PySem.W.X PyProof.Rows PySem.Spec PySem.SeqAt
set_option Elab.async false
set_option maxRecDepth 100000
set_option maxHeartbeats 1000000
set_option linter.unusedVariables false
namespace Mine
theorem tab_30 {w : World} {h : Heap} (X : Base w h) : isCodeTable h 30 := ⟨34, _, _, X 34 _ rfl, rfl, rfl, rfl⟩
theorem tab_46 {w : World} {h : Heap} (X : Base w h) : isCodeTable h 46 := ⟨50, _, _, X 50 _ rfl, rfl, rfl, rfl⟩
theorem tab_77 {w : World} {h : Heap} (X : Base w h) : isCodeTable h 77 := ⟨79, _, _, X 79 _ rfl, rfl, rfl, rfl⟩
theorem LS.oldK {w : World} {s₁ s : Shared} {m : Str → Option Value} {cr cw : Option Value} {e77 : Array Value} (x : LS w s₁ s m cr cw e77) (X : HT w s₁.heap) : OldK s₁.heap s.heap := by
  have grown : ∀ (b : Addr) (ps : Array Value) (o : Obj), isCodeTable s₁.heap b → s₁.heap.get? b = some (tabObj #[]) → s.heap.get? b = some (tabObj ps) → s₁.heap.get? b = some o → asItWas s₁.heap s.heap b o := fun b ps o ht e0 e1 e => by
    obtain rfl : tabObj #[] = o := Option.some.inj (e0.symm.trans e)
    exact .inr (.inl ⟨ht, rfl, #[], ps, rfl, by rw [e1, Array.empty_append]⟩)
  obtain ⟨p30, e30⟩ := x.t30
  obtain ⟨p46, e46, _⟩ := x.t46
  have key : ∀ b o, s₁.heap.get? b = some o → asItWas s₁.heap s.heap b o ∧ ∃ o', s.heap.get? b = some o' := fun b o e => by
    by_cases h77 : b = 77
    · subst h77; exact ⟨grown _ _ _ (tab_77 X.kb) X.t77 x.t77 e, _, x.t77⟩
    by_cases h46 : b = 46
    · subst h46; exact ⟨grown _ _ _ (tab_46 X.kb) X.t46 e46 e, _, e46⟩
    by_cases h30 : b = 30
    · subst h30; exact ⟨grown _ _ _ (tab_30 X.kb) X.t30 e30 e, _, e30⟩
    have k := x.keep b o h77 h46 h30 e
    exact ⟨.inl k, _, k⟩
  exact ⟨fun b o e => (key b o e).1, fun b o e => (key b o e).2⟩
theorem law_ok {w : World} {A : Around} {E : Value → Shared → Prop} {s : Shared} {vals : List Value} {ns : List Int} {Q : Value → Shared → Prop} (hA : Ok 31 A) (X : HT w s.heap) (hgens : s.gens = #[]) (hsz : s.heap.objs.size = 82) (hl : s.heap.IsList 81 vals.toArray) (hi : IntsAre vals ns) (hlen : ns.length ≤ 63)
    (h : ∀ s', OldK s.heap s'.heap → s'.os = s.os → s'.gens = #[] → Q (.bool true) s') :
    wpAny (model prg w) A (call (.ref 80) [.ref 81]) Q E s := by
  refine enter_law hA X.kb hsz fun h₁ tk z1 n1 c1 c2 k1 => ?_
  refine wpAny_mono (body_ok (s := { s with heap := h₁, toks := tk }) X hgens hsz hl hi hlen ⟨_, _, rfl⟩ z1 n1 c1 c2 k1) (fun f s' q => ?_) fun _ _ e => e
  obtain ⟨rfl, m, cr, cw, e77, x⟩ := q
  obtain ⟨hh, tkk, rfl⟩ := x.sh
  exact h _ (x.oldK X) rfl hgens
end Mine
end
theorem PySem.Challenge.cw_oy0016_01_holds : PySem.Challenge.rw_oy0016_01.Holds :=
  Mine.front fun w s vals ns Q E X hg hsz hl hi hlen h => Mine.law_ok ⟨rfl, by decide, by decide⟩ X hg hsz hl hi hlen h
