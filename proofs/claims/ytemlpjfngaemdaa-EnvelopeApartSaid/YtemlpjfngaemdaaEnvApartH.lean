/- EnvelopeApart returns true for every two envelopes: they are the same just if their bytes are. No condition. -/
import Derived.Test.YtemlpjfngaemdaaEnvApart
import Derived.Test.YtemlpjfngaemdaaOpenE
namespace Go.Proofs.Ytemlpjfngaemdaa
open Go.RowKit Go.Pw

theorem envelopeApart_holds : Rows.EnvelopeApartSaid := envelopeApart.said fun H enc base W v0 v1 v2 d0 p0 d1 p1 d2 p2 h0 t0 h1 t1 h2 t2 z0 z1 _ => by
  obtain ⟨_, _, _, _, _, _, _, _, _, _, _, _, _, _, _, _, rfl, ⟨fu1, rfl⟩, ⟨fd1, rfl⟩, ⟨tu1, rfl⟩, ⟨td1, rfl⟩, ⟨ap1, cp1, ss1, rfl, hp1, bp1, lp1⟩, ⟨hs1, rfl⟩, ⟨ax1, cx1, has1, rfl, hx1, bx1, lx1⟩, ⟨ay1, cy1, hss1, rfl, hy1, by1, ly1⟩, ⟨ak1, ck1, hks1, rfl, hk1, bk1, lk1⟩, ⟨sg1, rfl, usg1⟩, ⟨hh1, rfl⟩, ⟨on1, rfl, uon1⟩, ⟨ad1, cd1, dks1, rfl, hd1, bd1, ld1⟩, ⟨dp1, rfl, udp1⟩, ⟨dn1, rfl, udn1⟩, ⟨az1, cz1, sls1, rfl, hz1, bz1, lz1⟩⟩ := open_env h0 t0 z0
  obtain ⟨_, _, _, _, _, _, _, _, _, _, _, _, _, _, _, _, rfl, ⟨fu2, rfl⟩, ⟨fd2, rfl⟩, ⟨tu2, rfl⟩, ⟨td2, rfl⟩, ⟨ap2, cp2, ss2, rfl, hp2, bp2, lp2⟩, ⟨hs2, rfl⟩, ⟨ax2, cx2, has2, rfl, hx2, bx2, lx2⟩, ⟨ay2, cy2, hss2, rfl, hy2, by2, ly2⟩, ⟨ak2, ck2, hks2, rfl, hk2, bk2, lk2⟩, ⟨sg2, rfl, usg2⟩, ⟨hh2, rfl⟩, ⟨on2, rfl, uon2⟩, ⟨ad2, cd2, dks2, rfl, hd2, bd2, ld2⟩, ⟨dp2, rfl, udp2⟩, ⟨dn2, rfl, udn2⟩, ⟨az2, cz2, sls2, rfl, hz2, bz2, lz2⟩⟩ := open_env h1 t1 z1
  obtain ⟨nb, hnb⟩ := reads_bool Try.underlying4 (reads_of t2)
  obtain ⟨near, rfl⟩ := Go.WideShapes.okWide_bool Try.underlying4 h2
  exact apart_walk fu1 fd1 tu1 td1 sg1 on1 dp1 dn1 hs1 hh1 ss1 has1 hss1 hks1 dks1 sls1 ap1 ax1 ay1 ak1 ad1 az1 cp1 cx1 cy1 ck1 cd1 cz1 fu2 fd2 tu2 td2 sg2 on2 dp2 dn2 hs2 hh2 ss2 has2 hss2 hks2 dks2 sls2 ap2 ax2 ay2 ak2 ad2 az2 cp2 cx2 cy2 ck2 cd2 cz2 near W hp1 hx1 hy1 hk1 hd1 hz1 hp2 hx2 hy2 hk2 hd2 hz2 bp1 bx1 by1 bk1 bd1 bz1 bp2 bx2 by2 bk2 bd2 bz2 usg1 uon1 udp1 udn1 usg2 uon2 udp2 udn2 lp1 lx1 ly1 lk1 ld1 lz1 lp2 lx2 ly2 lk2 ld2 lz2
end Go.Proofs.Ytemlpjfngaemdaa
