/-
  The packages' own types opened by kinds.
-/
import Derived.Test.YtmenkckgpiafiaaGreatKO
import Derived.Test.YtmenkckgpiafiaaGreatProg
import Derived.KernelRfl
namespace Go.Proofs.YtmenkckgpiafiaaGreat
open Go.RowKit Go.Proofs.YtmenkckgpiafiaaGreatW.PrintWords Go.Proofs.YtmenkckgpiafiaaGreat.KK

def gI64 (y : Int) : Prop := -9223372036854775808 ≤ y ∧ y ≤ 9223372036854775807
def gU32 (y : Int) : Prop := 0 ≤ y ∧ y ≤ 4294967295
def gU64 (y : Int) : Prop := 0 ≤ y ∧ y ≤ 18446744073709551615
def gStr (s : ByteArray) : Prop := s.size ≤ maxLen
def gExt (e : S89) : Prop := gStr e.f0 ∧ gStr e.f1
def gExts (l : List S89) : Prop := l.length ≤ maxLen ∧ ∀ e ∈ l, gExt e
def gAttrs (a : S26) : Prop := gU32 a.f0 ∧ gU64 a.f1 ∧ gU32 a.f2 ∧ gU32 a.f3 ∧ gU32 a.f4 ∧ gU32 a.f5 ∧ gU32 a.f6 ∧ gExts a.f7
def gName (a : S91) : Prop := gStr a.f0 ∧ gStr a.f1 ∧ gAttrs a.f2
def gNames (l : List S91) : Prop := l.length ≤ maxLen ∧ ∀ e ∈ l, gName e
def gPacket (p : S29) : Prop := gI64 p.f0 ∧ gU32 p.f1 ∧ gStr p.f2 ∧ gStr p.f3 ∧ gStr p.f4 ∧ gU64 p.f5 ∧ gU32 p.f6 ∧ gU32 p.f7 ∧ gStr p.f8 ∧ gAttrs p.f9 ∧ gNames p.f10 ∧ gExts p.f11 ∧ gU32 p.f12 ∧ gU32 p.f13 ∧ gStr p.f14 ∧ gStr p.f15 ∧ gStr p.f16
def gOp (o : S79) : Prop := gI64 o.f0 ∧ gU64 o.f1 ∧ gStr o.f2
def gOps (l : List S79) : Prop := l.length ≤ maxLen ∧ ∀ e ∈ l, gOp e

theorem opnInt : Opn Tryz.prog 3 (Kd.int .i64) gI64 := (opn_int Tryz.underlying3 (by kernel_rfl)).mono fun y h => by simpa [gI64, Lit.wf, IntKind.min, IntKind.max, IntKind.signed, IntKind.bits] using h
theorem opnU32 : Opn Tryz.prog 22 (Kd.int .u32) gU32 := (opn_int Tryz.underlying22 (by kernel_rfl)).mono fun y h => by simpa [gU32, Lit.wf, IntKind.min, IntKind.max, IntKind.signed, IntKind.bits] using h
theorem opnU64 : Opn Tryz.prog 23 (Kd.int .u64) gU64 := (opn_int Tryz.underlying23 (by kernel_rfl)).mono fun y h => by simpa [gU64, Lit.wf, IntKind.min, IntKind.max, IntKind.signed, IntKind.bits] using h
theorem opnStr : Opn Tryz.prog 9 Kd.string gStr := (opn_str Tryz.underlying9 (by kernel_rfl)).mono fun _ h => h
theorem opnExt : Opn Tryz.prog 89 k89 gExt := by
  have o := (opn_struct Tryz.underlying89 (by kernel_rfl) (fopn_cons rfl opnStr (fopn_one rfl opnStr))).iso (β := S89) (fun x => (x.f0, x.f1)) (fun a => ⟨a.1, a.2⟩) (fun _ => rfl)
  exact o.mono fun _ h => h
theorem opnExts : Opn Tryz.prog 24 (Kd.slice 89 k89) gExts := (opn_slice Tryz.underlying24 (by kernel_rfl) opnExt).mono fun _ h => h
theorem opnAttrs : Opn Tryz.prog 26 k26 gAttrs := by
  have o := (opn_struct Tryz.underlying26 (by kernel_rfl) (fopn_cons rfl opnU32 (fopn_cons rfl opnU64 (fopn_cons rfl opnU32 (fopn_cons rfl opnU32 (fopn_cons rfl opnU32 (fopn_cons rfl opnU32 (fopn_cons rfl opnU32 (fopn_one rfl opnExts))))))))).iso (β := S26) (fun x => (x.f0, x.f1, x.f2, x.f3, x.f4, x.f5, x.f6, x.f7)) (fun a => ⟨a.1, a.2.1, a.2.2.1, a.2.2.2.1, a.2.2.2.2.1, a.2.2.2.2.2.1, a.2.2.2.2.2.2.1, a.2.2.2.2.2.2.2⟩) (fun _ => rfl)
  exact o.mono fun _ h => h
theorem opnName : Opn Tryz.prog 91 k91 gName := by
  have o := (opn_struct Tryz.underlying91 (by kernel_rfl) (fopn_cons rfl opnStr (fopn_cons rfl opnStr (fopn_one rfl opnAttrs)))).iso (β := S91) (fun x => (x.f0, x.f1, x.f2)) (fun a => ⟨a.1, a.2.1, a.2.2⟩) (fun _ => rfl)
  exact o.mono fun _ h => h
theorem opnNames : Opn Tryz.prog 27 (Kd.slice 91 k91) gNames := (opn_slice Tryz.underlying27 (by kernel_rfl) opnName).mono fun _ h => h
theorem opnPacket : Opn Tryz.prog 29 k29 gPacket := by
  have o := (opn_struct Tryz.underlying29 (by kernel_rfl) (fopn_cons rfl opnInt (fopn_cons rfl opnU32 (fopn_cons rfl opnStr (fopn_cons rfl opnStr (fopn_cons rfl opnStr (fopn_cons rfl opnU64 (fopn_cons rfl opnU32 (fopn_cons rfl opnU32 (fopn_cons rfl opnStr (fopn_cons rfl opnAttrs (fopn_cons rfl opnNames (fopn_cons rfl opnExts
    (fopn_cons rfl opnU32 (fopn_cons rfl opnU32 (fopn_cons rfl opnStr (fopn_cons rfl opnStr (fopn_one rfl opnStr)))))))))))))))))).iso (β := S29) (fun x => (x.f0, x.f1, x.f2, x.f3, x.f4, x.f5, x.f6, x.f7, x.f8, x.f9, x.f10, x.f11, x.f12, x.f13, x.f14, x.f15, x.f16)) (fun a => ⟨a.1, a.2.1, a.2.2.1, a.2.2.2.1, a.2.2.2.2.1, a.2.2.2.2.2.1, a.2.2.2.2.2.2.1, a.2.2.2.2.2.2.2.1, a.2.2.2.2.2.2.2.2.1, a.2.2.2.2.2.2.2.2.2.1, a.2.2.2.2.2.2.2.2.2.2.1, a.2.2.2.2.2.2.2.2.2.2.2.1, a.2.2.2.2.2.2.2.2.2.2.2.2.1, a.2.2.2.2.2.2.2.2.2.2.2.2.2.1, a.2.2.2.2.2.2.2.2.2.2.2.2.2.2.1, a.2.2.2.2.2.2.2.2.2.2.2.2.2.2.2.1, a.2.2.2.2.2.2.2.2.2.2.2.2.2.2.2.2⟩) (fun _ => rfl)
  exact o.mono fun _ h => h
theorem opnOp : Opn Tryz.prog 79 k79 gOp := by
  have o := (opn_struct Tryz.underlying79 (by kernel_rfl) (fopn_cons rfl opnInt (fopn_cons rfl opnU64 (fopn_one rfl opnStr)))).iso (β := S79) (fun x => (x.f0, x.f1, x.f2)) (fun a => ⟨a.1, a.2.1, a.2.2⟩) (fun _ => rfl)
  exact o.mono fun _ h => h
theorem opnOps : Opn Tryz.prog 75 (Kd.slice 79 k79) gOps := (opn_slice Tryz.underlying75 (by kernel_rfl) opnOp).mono fun _ h => h
end Go.Proofs.YtmenkckgpiafiaaGreat
