/- The parts of the law on UpdateMetadataResponse. Printed by gen_msg.py. -/
import Derived.Test.YthmejlgblhjcdaaDoorCUpdateMetadataResponse
import Derived.Test.YthmejlgblhjcdaaDoorKqCoT
set_option linter.unusedVariables false
set_option linter.unusedSimpArgs false
namespace Go.Proofs.YthmejlgblhjcdaaDoor.UpdateMetadataResponse
open Go.Kq
def tR : List Ty := [.int .i16, .tags]
def gR : Rd := (rdCons (rdOne fun _ _ => gNum .i16 2) (rdCons rdTagsF rdSt0))
theorem dR : DefM Tryd.prog 29 (.int .i16 :: tR) id := def_skip Tryd.func29 (by kernel_rfl) (by kernel_rfl) (by kernel_rfl)
def fl : Int → Bool := fun v => decide (v ≥ 6)
set_option maxRecDepth 20000 in
theorem rf : ReadM Tryd.prog 1 30 tR [.n 0, .nil] fl gR := by
  refine root Tryd.func30 (by kernel_rfl) rfl rfl rfl ?_ dR (fun _ => rfl) readerT (by kernel_rfl) (by kernel_rfl) (isL_cons (isL_cons isL_nil)) (by decide)
  refine bdy_fl ?_ (by decide)
  refine Run.cons (m := 11) (o' := 2) ?_ ?_ rfl (by decide) (by decide) (isL_cons isL_nil)
  · skip
    exact (fld_asg (asg_call mInt16 (by decide)) (by kernel_rfl) (by kernel_rfl) rfl (by decide))
  refine Run.cons (m := 30) (o' := 3) ?_ ?_ rfl (by decide) (by decide) isL_nil
  · skip
    exact (fld_tags (tf := 9) mTags (flatB_is (by kernel_rfl)) (by kernel_rfl) rfl (by decide))
  exact run_end completeM (by decide)
def gsR : List (V → T) := [tNum]
def tgR (x : V) : T := .mk 0 [] false (tellAll gsR (x.items.drop 1)) (uOf gsR (x.items.drop 1))
theorem cbR : CbM Tryd.prog 32 := cb_m (et := 5) (TL := 34) (bs := 32) Tryd.func32 (by kernel_rfl) rfl rfl rfl (by kernel_rfl) treeT (by kernel_rfl) (by kernel_rfl) (by decide) tagF tagT (by kernel_rfl) octT
theorem tlR : TellM Tryd.prog 18 (.st (.int .i16 :: tR)) tgR := by
  refine tell_root (pre := [.int .i16]) (tys := tR) (st := 3) (m := 4) treeT Tryd.func18 (by kernel_rfl) rfl rfl rfl ?_ rfl rfl (by decide) (by decide)
  refine TRun.cons (o' := 2) (tl_num treeT (by kernel_rfl) (by kernel_rfl) (by kernel_rfl) (by kernel_rfl) (by kernel_rfl) (by decide) (by decide)) ?_ rfl (by decide)
  exact TRun.tags treeT eachM cbR sortedM (by kernel_rfl) (by kernel_rfl) (by decide)
theorem setM : SetM Tryd.prog 16 := set_m Tryd.func16 (by kernel_rfl) rfl rfl rfl (by kernel_rfl) (by kernel_rfl)
theorem newM : NewM Tryd.prog 14 (.int .i16 :: tR) [.n 0, .n 0, .nil] := new_m (d := id) Tryd.func14 (by kernel_rfl) rfl rfl rfl (zeroB_is (by kernel_rfl)) dR (by decide)
theorem maxM : MaxM Tryd.prog 5 8 := maxd_m (tys := .int .i16 :: tR) (ds := [.n 0, .n 0, .nil]) (mx := ((8 : Nat) : Int)) (fmx := 15) (fnw := 14) (f := 5) (P := Tryd.prog) Tryd.func5 (by kernel_rfl) rfl rfl rfl newM (maxv_m Tryd.func15 (by kernel_rfl) rfl rfl rfl) (by decide) (by kernel_rfl) (by kernel_rfl)
theorem rd1 : ReadD Tryd.prog 1 17 tR [.n 0, .nil] fl gR := read_d rf Tryd.func17 (by kernel_rfl) rfl rfl rfl
theorem door : DoorGM Tryd.prog 1 8 (doorRes gR fl tgR) := doorg_m (te := 5) Tryd.func8 (by kernel_rfl) rfl rfl rfl treeT.flat (by kernel_rfl) (zeroB_is (by kernel_rfl)) (by kernel_rfl) (by kernel_rfl) (by kernel_rfl) newM setM rd1 tlR
def small (t : T) : Prop := KeysOk t ∧ ∀ ver flex, (partW fsUpdateMetadataResponse ver flex t).length ≤ 2147483648
abbrev Rf : Kq.Fd → Int → T → T → Prop := fun fd => TdF fd fun _ _ => False
theorem plT (ver : Int) (h0 : 0 ≤ ver) (t : T) (hk : KeysOk t) : InvT gR ver (fl ver) Rf fsUpdateMetadataResponse gsR t.l 0 (if fl ver then unksW fsUpdateMetadataResponse t else []) (bodyL fsUpdateMetadataResponse ver (fl ver) t.l 0 ++ if fl ver then uvW (unksW fsUpdateMetadataResponse t).length ++ tagsW (unksW fsUpdateMetadataResponse t) else []) := by
  refine invt_cons (by decide) (has_all h0 (by decide) (by decide)) (invq_i16 (by decide)) ?_
  exact invt_end hk
theorem law : LawT Tryd.prog 1 3 small := by
  refine lawt_m (mx := 8) (fs := fsUpdateMetadataResponse) (enc := partW fsUpdateMetadataResponse) Tryd.func3 (by kernel_rfl) rfl rfl rfl (flatB_is (by kernel_rfl)) (flatB_is (by kernel_rfl)) (flatB_is (by kernel_rfl)) (by kernel_rfl) (by kernel_rfl) (by kernel_rfl) wFit maxM (by decide) ifsUpdateMetadataResponse verM (wWrite fsUpdateMetadataResponse (by decide)) door flexM (⟨enters_of Tryd.func12 (by kernel_rfl) rfl, gotM⟩) (toldM fsUpdateMetadataResponse (by decide) (by decide)) ?_
  rintro ver h0 h1 t ⟨hk, hs⟩
  refine ⟨hs _ _, ?_⟩
  rw [show (decide ((6 : Int) ≥ 0) && decide (ver ≥ 6)) = fl ver from by simp [fl]]
  exact td_plain (flx := fl) (by kernel_rfl) (fun _ => rfl) (plT ver h0 t hk)
end Go.Proofs.YthmejlgblhjcdaaDoor.UpdateMetadataResponse
