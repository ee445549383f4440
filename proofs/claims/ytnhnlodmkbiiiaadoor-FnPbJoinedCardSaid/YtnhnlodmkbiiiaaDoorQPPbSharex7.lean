/- Nothing of this text is rested on. -/
import Derived.Test.YtnhnlodmkbiiiaaDoorQPPbSharex0
import Derived.Test.YtnhnlodmkbiiiaaDoorQPPbSharex2
